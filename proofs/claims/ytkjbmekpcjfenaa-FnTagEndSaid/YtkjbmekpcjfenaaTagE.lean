/- Tags: spec.inAttributeEnd walked. Condition: ASCII is not asked; lengths are bounded. -/
import Derived.Test.YtkjbmekpcjfenaaTagD
namespace Go.Proofs.Ytkjbmekpcjfenaa
open Go.ChangeShapes Go.WideShapes Go.ChangeAt Go.RowKit

/-- the end of an attribute at a place (0: none): white space, a name, perhaps a value -/
def aend (l : List UInt8) (i : Nat) : Nat := if run blkI l i = i then 0 else if aname l (run blkI l i) = 0 then 0 else aval l (aname l (run blkI l i))

theorem aname_yes {l : List UInt8} {i : Nat} (h : aname l i ≠ 0) : i < l.length ∧ aname l i = run attrI l i ∧ (lettI (bat l i) || bat l i == 95 || bat l i == 58) = true := by
  unfold aname at h ⊢
  split at h
  · rename_i h1
    rw [if_pos h1]
    exact ⟨h1.1, rfl, h1.2⟩
  · exact absurd rfl h
theorem aname_gt {l : List UInt8} {i : Nat} (h : aname l i ≠ 0) : i < aname l i ∧ aname l i ≤ l.length := by
  obtain ⟨h1, h2, h3⟩ := aname_yes h
  rw [h2]
  have hs : attrI (bat l i) = true := by
    unfold attrI
    simp only [Bool.or_eq_true] at h3 ⊢
    rcases h3 with (h | h) | h
    · simp [h]
    · simp [h]
    · simp [h]
  rw [run_step h1 hs]
  have := le_run attrI l (i + 1)
  have := run_le attrI l (i + 1) (by omega)
  omega

set_option maxHeartbeats 2000000 in
set_option maxRecDepth 100000 in
theorem inAttributeEnd_any (p : Option Addr) (n c : Nat) (l : List UInt8) (i : Nat) (j : Int) (w : World) (h : Bs w p n l) (hj : j = i) (hn : n ≤ 1000000) (hi : i ≤ n) :
    Calls Try.prog 32 #[.slice p n c, .int .i64 j] w fun e w' => e = .returned (.int .i64 (aend l i)) ∧ Below w.heap.size w w' := by
  subst hj
  have hl := h.len
  obtain ⟨J, hJ⟩ : ∃ J, J = run blkI l i := ⟨_, rfl⟩
  have j1 := le_run blkI l i
  have j2 := run_le blkI l i (by omega)
  have cJ := inRun_any blkI 17 #[] (fun x w => inSpace_any x w) enters_inSpace p n c l i i w h rfl (by omega) (by omega)
  rw [← hJ] at j1 j2 cJ
  rw [hl] at j2
  have CJ := Lib.hid cJ
  have hv0 : aend l i = if J = i then 0 else if aname l J = 0 then 0 else aval l (aname l J) := by rw [aend, ← hJ]
  have HV0 := Lib.hid hv0
  clear cJ hJ hv0
  obtain ⟨B, hB⟩ : ∃ B, B = (decide (J = i) || decide (aname l J = 0)) := ⟨_, rfl⟩
  have HB := Lib.hid hB
  clear hB
  go_enter Try.func32, Try.ntmps32
  go_wp2_with fail
  refine CJ.out.mono ?_
  rintro e w' ⟨rfl, rfl⟩
  go_upto_region 2 with fail
  go_cut [42] (fun s wx => s = .bool B ∧ wx = w)
  case first =>
    by_cases hJi : J = i
    · have hd : ((J : Int) == (i : Int)) = true := by simp; omega
      have hBt : B = true := by rw [HB.out]; simp [hJi]
      have HBt := Lib.hid hBt
      clear hBt hJi
      go_wp2_with fail
      go_meet
      exact ⟨by rw [HBt.out], rfl⟩
    · have hd : ((J : Int) == (i : Int)) = false := by simp; omega
      by_cases hJn : J = n
      · have hd2 : ((J : Int) == (n : Int)) = true := by simp; omega
        have hBt : B = true := by rw [HB.out, aname, if_neg (by rintro ⟨e, _⟩; omega)]; simp
        have HBt := Lib.hid hBt
        clear hBt hJn
        go_wp2_with fail
        go_meet
        exact ⟨by rw [HBt.out], rfl⟩
      · have hd2 : ((J : Int) == (n : Int)) = false := by simp; omega
        obtain ⟨b, o, rfl, _, hc⟩ := h.cells (by omega)
        have c1 := hc J (by omega)
        have hBv : B = !(lettI (bat l J) || bat l J == 95 || bat l J == 58) := by
          rw [HB.out]
          by_cases hg : (lettI (bat l J) || bat l J == 95 || bat l J == 58) = true
          · rw [hg]
            have : aname l J ≠ 0 := by
              rw [aname, if_pos ⟨by omega, hg⟩]
              have := run_step (P := attrI) (l := l) (i := J) (by omega) (by
                unfold attrI
                simp only [Bool.or_eq_true] at hg ⊢
                rcases hg with (h | h) | h
                · simp [h]
                · simp [h]
                · simp [h])
              have := le_run attrI l (J + 1)
              omega
            simp [hJi, this]
          · have : aname l J = 0 := by rw [aname, if_neg (fun e => hg e.2)]
            simp only [Bool.not_eq_true] at hg
            rw [hg, this]
            simp
        have HBv := Lib.hid hBv
        have hJlt : J < n := by omega
        clear hBv hc hJi hJn
        cases hp : lettI (bat l J) with
        | true =>
          go_wp2_with (go_at_call 24; refine (inLetter_any _ _).mono ?_; rintro e w' ⟨rfl, rfl⟩)
          go_meet
          exact ⟨by rw [HBv.out, hp]; rfl, rfl⟩
        | false =>
          by_cases e95 : bat l J = 95
          · have q95 : (bat l J == 95) = true := by simp [e95]
            have r95 : (bat l J != 95) = false := by simp [e95]
            clear e95
            go_wp2_with (go_at_call 24; refine (inLetter_any _ _).mono ?_; rintro e w' ⟨rfl, rfl⟩)
            go_meet
            exact ⟨by rw [HBv.out, hp, q95]; rfl, rfl⟩
          · have q95 : (bat l J == 95) = false := by simp [e95]
            have r95 : (bat l J != 95) = true := by simp [e95]
            clear e95
            go_wp2_with (go_at_call 24; refine (inLetter_any _ _).mono ?_; rintro e w' ⟨rfl, rfl⟩)
            go_meet
            exact ⟨by rw [HBv.out, hp, q95]; rfl, rfl⟩
  case rest =>
    obtain ⟨rfl, rfl⟩ := hcut
    cases B with
    | true =>
      have hv : aend l i = 0 := by
        rw [HV0.out]
        have hb := HB.out.symm
        simp only [Bool.or_eq_true, decide_eq_true_eq] at hb
        rcases hb with e | e
        · rw [if_pos e]
        · rw [e]; simp
      have HV := Lib.hid hv
      clear hv
      go_wp2_with fail
      go_ret
      exact ⟨ret_int (by rw [HV.out]; rfl), Below.refl _ _⟩
    | false =>
      have hb := HB.out.symm
      simp only [Bool.or_eq_false_iff, decide_eq_false_iff_not] at hb
      obtain ⟨hJi, ha0⟩ := hb
      obtain ⟨a1, a2, _⟩ := aname_yes ha0
      have a3 := aname_gt ha0
      have hv : aend l i = aval l (aname l J) := by rw [HV0.out, if_neg hJi, if_neg ha0]
      have cE := inRun_any attrI 38 #[] (fun x w => inNameByte_any x w) enters_inNameByte p n c l J J wc h rfl (by omega) (by omega)
      rw [← a2] at cE
      obtain ⟨E, hE⟩ : ∃ E, E = aname l J := ⟨_, rfl⟩
      rw [← hE] at cE a3 hv
      have CE := Lib.hid cE
      have HV := Lib.hid hv
      clear cE hv hE a1 a2 ha0 hJi
      obtain ⟨K1, hK1⟩ : ∃ K1, K1 = run blkI l E := ⟨_, rfl⟩
      have k1 := le_run blkI l E
      have k2 := run_le blkI l E a3.2
      have cK1 := inRun_any blkI 17 #[] (fun x w => inSpace_any x w) enters_inSpace p n c l E E wc h rfl (by omega) (by omega)
      rw [← hK1] at k1 k2 cK1
      have CK1 := Lib.hid cK1
      have HK1 := Lib.hid hK1
      clear cK1 hK1
      go_wp2_with fail
      refine CE.out.mono ?_
      rintro e w' ⟨rfl, rfl⟩
      go_wp2_with fail
      refine CK1.out.mono ?_
      rintro e w' ⟨rfl, rfl⟩
      go_wp2_with fail
      refine (inAt_any p n c l K1 _ 61 _ h rfl (by omega)).mono ?_
      rintro e w' ⟨rfl, rfl⟩
      cases h61 : atB l K1 61 with
      | false =>
        have hv2 : aval l E = E := aval_no HK1.out h61
        have HV2 := Lib.hid hv2
        clear hv2
        go_wp2_with fail
        go_ret
        exact ⟨ret_int (by rw [HV.out, HV2.out]), Below.refl _ _⟩
      | true =>
        have hK1n : K1 < l.length := by
          simp only [atB, Bool.and_eq_true, decide_eq_true_eq] at h61
          exact h61.1
        have H61 := Lib.hid h61
        obtain ⟨K, hK⟩ : ∃ K, K = run blkI l (K1 + 1) := ⟨_, rfl⟩
        have m1 := le_run blkI l (K1 + 1)
        have m2 := run_le blkI l (K1 + 1) (by omega)
        have cK := fun j' (hj' : j' = ((K1 + 1 : Nat) : Int)) => inRun_any blkI 17 #[] (fun x w => inSpace_any x w) enters_inSpace p n c l (K1 + 1) j' wc h hj' (by omega) (by omega)
        rw [← hK] at m1 m2
        simp only [← hK] at cK
        have CK := Lib.hid cK
        have HK := Lib.hid hK
        clear cK hK
        go_wp2_with fail
        refine (CK.out _ (by omega)).mono ?_
        rintro e w' ⟨rfl, rfl⟩
        go_upto_region 9 with fail
        go_cut [65] (fun s wx => s = .bool (atB l K 34 || atB l K 39) ∧ wx = wc)
        case first =>
          go_wp2_with fail
          refine (inAt_any p n c l K _ 34 _ h rfl (by omega)).mono ?_
          rintro e w' ⟨rfl, rfl⟩
          cases h34 : atB l K 34 with
          | true =>
            go_wp2_with fail
            go_meet
            exact ⟨by rw [h34]; rfl, rfl⟩
          | false =>
            go_wp2_with fail
            refine (inAt_any p n c l K _ 39 _ h rfl (by omega)).mono ?_
            rintro e w' ⟨rfl, rfl⟩
            go_wp2_with fail
            go_meet
            exact ⟨by rw [h34]; rfl, rfl⟩
        case rest =>
          rename_i w0
          obtain ⟨rfl, rfl⟩ := hcut
          cases hq : (atB l K 34 || atB l K 39) with
          | true =>
            have hKn : K < l.length := by
              simp only [Bool.or_eq_true, atB, Bool.and_eq_true, decide_eq_true_eq] at hq
              rcases hq with e | e
              · exact e.1
              · exact e.1
            have hv2 := aval_quote HK1.out H61.out HK.out hq
            have HV2 := Lib.hid hv2
            have HQ := Lib.hid hq
            clear hv2 hq
            obtain ⟨b, o, rfl, _, hc⟩ := h.cells (by omega)
            have c1 := hc K (by omega)
            clear hc
            have r1 := le_run (neI (bat l K)) l (K + 1)
            have r2 := run_le (neI (bat l K)) l (K + 1) (by omega)
            obtain ⟨R, hR⟩ : ∃ R, R = run (neI (bat l K)) l (K + 1) := ⟨_, rfl⟩
            have cR := fun j' w' (h' : Bs w' (some ⟨b, o, none⟩) n l) (hc' : w'.cell? ⟨wc.heap.size, 0, none⟩ = some (.int .u8 (bat l K))) (hj' : j' = ((K + 1 : Nat) : Int)) =>
              inRunW_any (neI (bat l K)) 39 #[.pointer (some ⟨wc.heap.size, 0, none⟩)] w' (fun x => attrEnd1_any ⟨wc.heap.size, 0, none⟩ (bat l K) w' hc' x) enters_attrEnd1 (some ⟨b, o, none⟩) n c l (K + 1) j' h' hj' (by omega) (by omega)
            have hv3 : aval l E = if R < l.length then R + 1 else E := by rw [HV2.out, ← hR]
            rw [← hR] at r1 r2
            simp only [← hR] at cR
            have CR := Lib.hid cR
            have HV3 := Lib.hid hv3
            clear cR hv3 hR
            have hbs : Bs (wc.alloc (.cells #[.int .u8 (bat l K)] 5)) (some ⟨b, o, none⟩) n l := h.below ((Below.refl _ wc).alloc (Nat.le_refl _) _) (Nat.le_refl _)
            have hcl : (wc.alloc (.cells #[.int .u8 (bat l K)] 5)).cell? ⟨wc.heap.size, 0, none⟩ = some (.int .u8 (bat l K)) := by simp [World.cell?_alloc_new]
            have CR2 := Lib.hid (fun j' hj' => CR.out j' _ hbs hcl hj')
            clear hcl
            rw [hl] at r2 hKn
            go_wp2_with fail
            refine (CR2.out _ (by omega)).mono ?_
            rintro e w' ⟨rfl, rfl⟩
            by_cases hRn : R = n
            · have hd : ((R : Int) == (n : Int)) = true := by simp; omega
              have hv4 : aval l E = E := by rw [HV3.out, if_neg (by omega)]
              have HV4 := Lib.hid hv4
              clear hRn hv4
              go_wp2_with fail
              go_ret
              exact ⟨ret_int (by rw [HV.out, HV4.out]), (Below.refl _ wc).alloc (Nat.le_refl _) _⟩
            · have hd : ((R : Int) == (n : Int)) = false := by simp; omega
              have hv4 : aval l E = R + 1 := by rw [HV3.out, if_pos (by omega)]
              have HV4 := Lib.hid hv4
              clear hRn hv4
              go_wp2_with fail
              go_ret
              exact ⟨ret_int (by rw [HV.out, HV4.out]; rfl), (Below.refl _ wc).alloc (Nat.le_refl _) _⟩
          | false =>
            have hv2 := aval_val HK1.out H61.out HK.out hq
            have HV2 := Lib.hid hv2
            clear hv2
            obtain ⟨V, hV⟩ : ∃ V, V = run valI l K := ⟨_, rfl⟩
            have v1 := le_run valI l K
            have v2 := run_le valI l K (by omega)
            have cV := inRun_any valI 40 #[] (fun x w => inValueByte_any x w) enters_inValueByte p n c l K K wc h rfl (by omega) (by omega)
            have hv3 : aval l E = if K < V then V else E := by rw [HV2.out, ← hV]
            rw [← hV] at v1 v2 cV
            have CV := Lib.hid cV
            have HV3 := Lib.hid hv3
            clear cV hv3 hV hq
            go_wp2_with fail
            refine CV.out.mono ?_
            rintro e w' ⟨rfl, rfl⟩
            by_cases hKV : K < V
            · go_wp2_with fail
              go_ret
              exact ⟨ret_int (by rw [HV.out, HV3.out, if_pos hKV]), Below.refl _ _⟩
            · go_wp2_with fail
              go_ret
              exact ⟨ret_int (by rw [HV.out, HV3.out, if_neg hKV]), Below.refl _ _⟩

end Go.Proofs.Ytkjbmekpcjfenaa
