/- Tags: open tags, walked on both sides. Condition: ASCII bytes for the code's side; lengths are bounded. -/
import Derived.Test.YtkjbmekpcjfenaaTagE
namespace Go.Proofs.Ytkjbmekpcjfenaa
open Go.ChangeShapes Go.WideShapes Go.ChangeAt Go.RowKit

theorem aval_bd (l : List UInt8) (E : Nat) (h : E ≤ l.length) : E ≤ aval l E ∧ aval l E ≤ l.length := by
  have h1 := le_run blkI l E
  unfold aval
  split
  · have h2 := le_run blkI l (run blkI l E + 1)
    split
    · have h3 := le_run (neI (bat l (run blkI l (run blkI l E + 1)))) l (run blkI l (run blkI l E + 1) + 1)
      split
      · omega
      · omega
    · rename_i h61 hq
      split
      · rename_i hv
        have hk : run blkI l (run blkI l E + 1) < l.length := by
          rcases Nat.lt_or_ge (run blkI l (run blkI l E + 1)) l.length with a | a
          · exact a
          · rw [run_end (P := valI) a] at hv; omega
        have := run_le valI l (run blkI l (run blkI l E + 1)) (by omega)
        omega
      · omega
  · omega
theorem aend_bd {l : List UInt8} {i : Nat} (h : aend l i ≠ 0) : i < aend l i ∧ aend l i ≤ l.length := by
  unfold aend at h ⊢
  by_cases h1 : run blkI l i = i
  · rw [if_pos h1] at h; exact absurd rfl h
  · rw [if_neg h1] at h ⊢
    by_cases h2 : aname l (run blkI l i) = 0
    · rw [if_pos h2] at h; exact absurd rfl h
    · rw [if_neg h2]
      have h3 := aname_gt h2
      have h4 := aval_bd l _ h3.2
      have h5 := le_run blkI l i
      omega
theorem tname_bd {l : List UInt8} {i : Nat} (h : tname l i ≠ 0) : i < tname l i ∧ tname l i ≤ l.length := by
  unfold tname at h ⊢
  by_cases h0 : letN l i = 0
  · rw [if_pos h0] at h; exact absurd rfl h
  · rw [if_neg h0]
    obtain ⟨h1, h2⟩ := letN_yes h0
    rw [run_step h1 (by simp [nameI, h2])]
    have := le_run nameI l (i + 1)
    have := run_le nameI l (i + 1) (by omega)
    omega

/-- the end of attributes, one behind the other -/
def opIter (l : List UInt8) : Nat → Nat → Nat
  | 0, i => i
  | f + 1, i => if aend l i = 0 then i else opIter l f (aend l i)
theorem opIter_end {l : List UInt8} {i : Nat} (f : Nat) (h : aend l i = 0) : opIter l f i = i := by
  cases f with
  | zero => rfl
  | succ f => rw [opIter, if_pos h]
theorem opIter_step {l : List UInt8} {i : Nat} (f : Nat) (h : aend l i ≠ 0) : opIter l (f + 1) i = opIter l f (aend l i) := by
  rw [opIter, if_neg h]
/-- how an open tag ends behind its attributes -/
def opFin (l : List UInt8) (i : Nat) : Nat := if atB l (run blkI l i) 47 then (if atB l (run blkI l i + 1) 62 then run blkI l i + 2 else 0) else if atB l (run blkI l i) 62 then run blkI l i + 1 else 0
/-- the end of an open tag (0: none) -/
def openEnd (l : List UInt8) : Nat := if tname l 1 = 0 then 0 else opFin l (opIter l l.length (tname l 1))

set_option maxHeartbeats 2000000 in
set_option maxRecDepth 100000 in
theorem inOpenEnd_any (p : Option Addr) (n c : Nat) (l : List UInt8) (w : World) (h : Bs w p n l) (hn : n ≤ 1000000) :
    Calls Try.prog 22 #[.slice p n c] w fun e w' => e = .returned (.int .i64 (openEnd l)) ∧ Below w.heap.size w w' := by
  have hl := h.len
  have c1 := inTagName_any p n c l 1 1 w h rfl hn (by omega)
  obtain ⟨N, hN⟩ : ∃ N, N = tname l 1 := ⟨_, rfl⟩
  rw [← hN] at c1
  have C1 := Lib.hid c1
  clear c1
  by_cases h0 : N = 0
  · have hv : openEnd l = 0 := by rw [openEnd, if_pos (by rw [← hN]; exact h0)]
    have HV := Lib.hid hv
    subst h0
    clear hv hN
    go_enter Try.func22, Try.ntmps22
    go_wp2_with fail
    refine C1.out.mono ?_
    rintro e w' ⟨rfl, rfl⟩
    go_wp2_with fail
    go_ret
    exact ⟨ret_int (by rw [HV.out]; rfl), Below.refl _ _⟩
  · have hv : openEnd l = opFin l (opIter l l.length N) := by rw [openEnd, if_neg (by rw [← hN]; exact h0), ← hN]
    have HV := Lib.hid hv
    have hb := tname_bd (l := l) (i := 1) (by rw [← hN]; exact h0)
    rw [← hN] at hb
    have hN0 : ((N : Int) == 0) = false := by simp; omega
    have HL := Lib.hid hl
    rw [hl] at hb
    clear hv hN h0 hl
    obtain ⟨hb1, hb2⟩ := hb
    go_enter Try.func22, Try.ntmps22
    go_wp2_with fail
    refine C1.out.mono ?_
    rintro e w' ⟨rfl, rfl⟩
    go_wp2_with fail
    refine (inAttributeEnd_any p n c l N _ _ h rfl hn hb2).mono ?_
    rintro e w1 ⟨rfl, hbw⟩
    go_wp2_with fail
    go_loopg [3, 4] n (fun gf s3 s4 wx => ∃ i : Nat, i ≤ n ∧ s3 = .int .i64 i ∧ s4 = .int .i64 (aend l i) ∧ opIter l l.length N = opIter l gf i ∧ n ≤ i + gf ∧ Below w.heap.size w wx)
    case atStart => exact ⟨N, hb2, rfl, rfl, by rw [HL.out], by omega, hbw⟩
    case round =>
      obtain ⟨i, hi, rfl, rfl, hr, hg, hbx⟩ := hrel
      have HR := Lib.hid hr
      have hx := h.below hbx (Nat.le_refl _)
      clear hr
      by_cases he : aend l i = 0
      · have he' : ((aend l i : Nat) : Int) ≤ 0 := by omega
        have hfin : openEnd l = opFin l i := by rw [HV.out, HR.out, opIter_end _ he]
        have HF := Lib.hid hfin
        clear hfin he
        have cJ := inRun_any blkI 17 #[] (fun x w => inSpace_any x w) enters_inSpace p n c l i i wr hx rfl (by omega) (by omega)
        obtain ⟨J, hJ⟩ : ∃ J, J = run blkI l i := ⟨_, rfl⟩
        have jb := run_le blkI l i (by rw [HL.out]; exact hi)
        rw [← hJ] at cJ jb
        rw [HL.out] at jb
        have CJ := Lib.hid cJ
        have hof : opFin l i = if atB l J 47 then (if atB l (J + 1) 62 then J + 2 else 0) else if atB l J 62 then J + 1 else 0 := by rw [opFin, ← hJ]
        have HO := Lib.hid hof
        clear cJ hJ hof
        go_wp2_with fail
        refine CJ.out.mono ?_
        rintro e w' ⟨rfl, rfl⟩
        go_wp2_with fail
        refine (inAt_any p n c l J _ 47 _ hx rfl (by omega)).mono ?_
        rintro e w' ⟨rfl, rfl⟩
        cases h47 : atB l J 47 with
        | true =>
          go_wp2_with fail
          refine (inAt_any p n c l (J + 1) _ 62 _ hx (by omega) (by omega)).mono ?_
          rintro e w' ⟨rfl, rfl⟩
          cases h62 : atB l (J + 1) 62 with
          | true =>
            go_wp2_with fail
            go_ret
            exact ⟨ret_int (by rw [HF.out, HO.out, h47, h62]; simp only [if_true]; omega), hbx⟩
          | false =>
            go_wp2_with fail
            go_ret
            exact ⟨ret_int (by rw [HF.out, HO.out, h47, h62]; rfl), hbx⟩
        | false =>
          go_wp2_with fail
          refine (inAt_any p n c l J _ 62 _ hx rfl (by omega)).mono ?_
          rintro e w' ⟨rfl, rfl⟩
          cases h62 : atB l J 62 with
          | true =>
            go_wp2_with fail
            go_ret
            exact ⟨ret_int (by rw [HF.out, HO.out, h47, h62]; rfl), hbx⟩
          | false =>
            go_wp2_with fail
            go_ret
            exact ⟨ret_int (by rw [HF.out, HO.out, h47, h62]; rfl), hbx⟩
      · have hb := aend_bd he
        rw [HL.out] at hb
        obtain ⟨g', rfl⟩ : ∃ g', gk = g' + 1 := ⟨gk - 1, by omega⟩
        have hr2 : opIter l l.length N = opIter l g' (aend l i) := by rw [HR.out, opIter_step _ he]
        have HR2 := Lib.hid hr2
        clear hr2 he
        obtain ⟨E, hE⟩ : ∃ E, E = aend l i := ⟨_, rfl⟩
        rw [← hE] at hb HR2
        rw [← hE]
        clear hE
        obtain ⟨he1, he2⟩ := hb
        have he3 : 0 < E := by omega
        go_wp2_with fail
        refine (inAttributeEnd_any p n c l E _ _ hx rfl hn he2).mono ?_
        rintro e w2 ⟨rfl, hbw2⟩
        go_wp2_with fail
        go_roundg g'
        case measure => omega
        case rel => exact ⟨E, he2, rfl, rfl, HR2.out, by omega, hbx.trans (hbw2.mono hbx.size)⟩

set_option maxHeartbeats 2000000 in
set_option maxRecDepth 100000 in
theorem zzOpenTagEnd_any (p : Option Addr) (n c : Nat) (l : List UInt8) (w : World) (h : Bs w p n l) (hn : n ≤ 1000000) (ha : ∀ k, bat l k < 128) :
    Calls Try.prog 37 #[.slice p n c] w fun e w' => e = .returned (.int .i64 (openEnd l)) ∧ w = w' := by
  have hl := h.len
  have c1 := zzTagName_any p n c l 1 1 w h rfl hn (by omega) ha
  have HA := Lib.hid ha
  clear ha
  obtain ⟨N, hN⟩ : ∃ N, N = tname l 1 := ⟨_, rfl⟩
  rw [← hN] at c1
  have C1 := Lib.hid c1
  clear c1
  by_cases h0 : N = 0
  · have hv : openEnd l = 0 := by rw [openEnd, if_pos (by rw [← hN]; exact h0)]
    have HV := Lib.hid hv
    subst h0
    clear hv hN
    go_enter Try.func37, Try.ntmps37
    go_wp2_with fail
    refine C1.out.mono ?_
    rintro e w' ⟨rfl, rfl⟩
    go_wp2_with fail
    go_ret
    exact ⟨ret_int (by rw [HV.out]; rfl), rfl⟩
  · have hv : openEnd l = opFin l (opIter l l.length N) := by rw [openEnd, if_neg (by rw [← hN]; exact h0), ← hN]
    have HV := Lib.hid hv
    have hb := tname_bd (l := l) (i := 1) (by rw [← hN]; exact h0)
    rw [← hN] at hb
    have hN0 : ((N : Int) == 0) = false := by simp; omega
    have HL := Lib.hid hl
    rw [hl] at hb
    clear hv hN h0 hl
    obtain ⟨hb1, hb2⟩ := hb
    go_enter Try.func37, Try.ntmps37
    go_wp2_with fail
    refine C1.out.mono ?_
    rintro e w' ⟨rfl, rfl⟩
    go_upto_block 0 with fail
    go_cut [3, 4] (fun s3 s4 wx => ∃ i : Nat, i ≤ n ∧ s3 = .int .i64 i ∧ openEnd l = opFin l i ∧ wx = w)
    case first =>
      go_wp2_with fail
      go_loopg [3, 4] n (fun gf s3 s4 wx => ∃ i : Nat, i ≤ n ∧ s3 = .int .i64 i ∧ opIter l l.length N = opIter l gf i ∧ n ≤ i + gf ∧ wx = w)
      case atStart => exact ⟨N, hb2, rfl, by rw [HL.out], by omega, rfl⟩
      case round =>
        obtain ⟨i, hi, rfl, hr, hg, rfl⟩ := hrel
        have HR := Lib.hid hr
        clear hr
        have cJ := zzBlanks_any p n c l i i wr h rfl hn (by omega)
        obtain ⟨J, hJ⟩ : ∃ J, J = run blkI l i := ⟨_, rfl⟩
        have ja := le_run blkI l i
        have jb := run_le blkI l i (by rw [HL.out]; exact hi)
        rw [← hJ] at cJ ja jb
        rw [HL.out] at jb
        have CJ := Lib.hid cJ
        have HJ := Lib.hid hJ
        clear cJ hJ
        by_cases hJi : J = i
        · have hd : ((J : Int) == (i : Int)) = true := by simp; omega
          have hfin : openEnd l = opFin l i := by rw [HV.out, HR.out, opIter_end _ (by rw [aend, if_pos (by rw [← HJ.out]; exact hJi)])]
          have HF := Lib.hid hfin
          clear hfin hJi
          go_wp2_with (go_at_call 35; refine CJ.out.mono ?_; rintro e w' ⟨rfl, rfl⟩)
          go_meet
          exact ⟨i, hi, rfl, HF.out, rfl⟩
        · have hd : ((J : Int) == (i : Int)) = false := by simp; omega
          have cA := zzAttributeName_any p n c l J J wr h rfl hn (by omega) HA.out
          have haend : aend l i = if aname l J = 0 then 0 else aval l (aname l J) := by rw [aend, if_neg (by rw [← HJ.out]; exact hJi), ← HJ.out]
          obtain ⟨A, hA⟩ : ∃ A, A = aname l J := ⟨_, rfl⟩
          rw [← hA] at cA haend
          have CA := Lib.hid cA
          have HAE := Lib.hid haend
          clear cA haend hJi
          by_cases hA0 : A = 0
          · have hfin : openEnd l = opFin l i := by rw [HV.out, HR.out, opIter_end _ (by rw [HAE.out, if_pos hA0])]
            have HF := Lib.hid hfin
            clear hfin hA
            subst hA0
            go_wp2_with (first | (go_at_call 35; refine CJ.out.mono ?_; rintro e w' ⟨rfl, rfl⟩) | (go_at_call 48; refine CA.out.mono ?_; rintro e w' ⟨rfl, rfl⟩))
            go_meet
            exact ⟨i, hi, rfl, HF.out, rfl⟩
          · have hA0' : ((A : Int) == 0) = false := by simp; omega
            have hag := aname_gt (l := l) (i := J) (by rw [← hA]; exact hA0)
            rw [← hA] at hag
            have hab := aval_bd l A hag.2
            have hstep : aend l i = aval l A := by rw [HAE.out, if_neg hA0]
            obtain ⟨g', rfl⟩ : ∃ g', gk = g' + 1 := ⟨gk - 1, by rw [HL.out] at hag; omega⟩
            have hr2 : opIter l l.length N = opIter l g' (aval l A) := by rw [HR.out, opIter_step _ (by rw [hstep]; omega), hstep]
            have HR2 := Lib.hid hr2
            rw [HL.out] at hag hab
            have cV := zzAttributeValue_any p n c l A A wr h rfl hn hag.2
            obtain ⟨V, hV⟩ : ∃ V, V = aval l A := ⟨_, rfl⟩
            rw [← hV] at cV hab HR2
            have CV := Lib.hid cV
            clear cV hr2 hstep hV hA0 hA
            obtain ⟨ha1, ha2⟩ := hag
            obtain ⟨hv1, hv2⟩ := hab
            go_wp2_with (first | (go_at_call 35; refine CJ.out.mono ?_; rintro e w' ⟨rfl, rfl⟩) | (go_at_call 48; refine CA.out.mono ?_; rintro e w' ⟨rfl, rfl⟩) | (go_at_call 49; refine CV.out.mono ?_; rintro e w' ⟨rfl, rfl⟩))
            go_roundg g'
            case measure => omega
            case rel => exact ⟨V, hv2, rfl, HR2.out, by omega, rfl⟩
    case rest =>
      obtain ⟨i, hi, rfl, hfin, rfl⟩ := hcut
      have HF := Lib.hid hfin
      clear hfin
      have cJ := zzBlanks_any p n c l i i wc h rfl hn (by omega)
      obtain ⟨J, hJ⟩ : ∃ J, J = run blkI l i := ⟨_, rfl⟩
      have jb := run_le blkI l i (by rw [HL.out]; exact hi)
      rw [← hJ] at cJ jb
      rw [HL.out] at jb
      have CJ := Lib.hid cJ
      have hof : opFin l i = if atB l J 47 then (if atB l (J + 1) 62 then J + 2 else 0) else if atB l J 62 then J + 1 else 0 := by rw [opFin, ← hJ]
      have HO := Lib.hid hof
      clear cJ hJ hof
      have hcell : ∀ k, k < n → ∃ b o, p = some ⟨b, o, none⟩ ∧ wc.cell? ⟨b, o + k, none⟩ = some (.int .u8 (bat l k)) := fun k hk => by
        obtain ⟨b, o, hp, _, hc⟩ := h.cells (by omega)
        exact ⟨b, o, hp, hc k hk⟩
      by_cases hJn : J < n
      · obtain ⟨b, o, rfl, cj⟩ := hcell J hJn
        have t47 : atB l J 47 = (bat l J == 47) := atB_lt (by rw [HL.out]; exact hJn)
        have t62 : atB l J 62 = (bat l J == 62) := atB_lt (by rw [HL.out]; exact hJn)
        rw [t47, t62] at HO
        clear t47 t62
        cases h47 : (bat l J == 47) with
        | true =>
          by_cases hJn2 : J + 1 < n
          · obtain ⟨b', o', he, cj2⟩ := hcell (J + 1) hJn2
            cases he
            have t62 : atB l (J + 1) 62 = (bat l (J + 1) == 62) := atB_lt (by rw [HL.out]; exact hJn2)
            rw [t62] at HO
            clear t62 hcell
            cases h62 : (bat l (J + 1) == 62) with
            | true =>
              go_wp2_with (go_at_call 35; refine CJ.out.mono ?_; rintro e w' ⟨rfl, rfl⟩)
              go_ret
              exact ⟨ret_int (by rw [HF.out, HO.out, h47, h62]; simp only [if_true]; omega), rfl⟩
            | false =>
              go_wp2_with (go_at_call 35; refine CJ.out.mono ?_; rintro e w' ⟨rfl, rfl⟩)
              go_ret
              exact ⟨ret_int (by rw [HF.out, HO.out, h47, h62]; rfl), rfl⟩
          · have t62 : atB l (J + 1) 62 = false := atB_ge (by rw [HL.out]; omega)
            rw [t62] at HO
            clear t62 hcell
            go_wp2_with (go_at_call 35; refine CJ.out.mono ?_; rintro e w' ⟨rfl, rfl⟩)
            go_ret
            exact ⟨ret_int (by rw [HF.out, HO.out, h47]; rfl), rfl⟩
        | false =>
          clear hcell
          cases h62 : (bat l J == 62) with
          | true =>
            go_wp2_with (go_at_call 35; refine CJ.out.mono ?_; rintro e w' ⟨rfl, rfl⟩)
            go_ret
            exact ⟨ret_int (by rw [HF.out, HO.out, h47, h62]; rfl), rfl⟩
          | false =>
            go_wp2_with (go_at_call 35; refine CJ.out.mono ?_; rintro e w' ⟨rfl, rfl⟩)
            go_ret
            exact ⟨ret_int (by rw [HF.out, HO.out, h47, h62]; rfl), rfl⟩
      · have t47 : atB l J 47 = false := atB_ge (by rw [HL.out]; omega)
        have t62 : atB l J 62 = false := atB_ge (by rw [HL.out]; omega)
        rw [t47, t62] at HO
        clear t47 t62 hcell
        go_wp2_with (go_at_call 35; refine CJ.out.mono ?_; rintro e w' ⟨rfl, rfl⟩)
        go_ret
        exact ⟨ret_int (by rw [HF.out, HO.out]; rfl), rfl⟩

end Go.Proofs.Ytkjbmekpcjfenaa
