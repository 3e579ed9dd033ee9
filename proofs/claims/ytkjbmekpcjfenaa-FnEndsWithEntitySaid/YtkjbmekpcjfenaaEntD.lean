/- FnEndsWithEntity walked. No condition. -/
import Derived.Test.YtkjbmekpcjfenaaEntC
namespace Go.Proofs.Ytkjbmekpcjfenaa
open Go.ChangeShapes Go.WideShapes Go.ChangeAt Go.RowKit

theorem semi_bd (l : List UInt8) (e : Nat) : semi l e = 0 ∨ (semi l e = e + 1 ∧ e < l.length) := by
  unfold semi atB
  split
  · rename_i h
    simp at h
    exact Or.inr ⟨rfl, h.1⟩
  · exact Or.inl rfl
theorem num_bd (l : List UInt8) (i : Nat) (P : Int → Bool) (m : Nat) : num l i P m = 0 ∨ (i < num l i P m ∧ num l i P m ≤ l.length) := by
  have h := le_run P l i
  unfold num
  split
  · exact Or.inl rfl
  · rcases semi_bd l (run P l i) with h1 | ⟨h1, h2⟩
    · exact Or.inl h1
    · rw [h1]; exact Or.inr ⟨by omega, by omega⟩
theorem nam_bd (l : List UInt8) (i : Nat) : nam l i = 0 ∨ (i < nam l i ∧ nam l i ≤ l.length) := by
  have h := le_run lettI l i
  have h' := le_run digI l (run lettI l i)
  unfold nam
  split
  · exact Or.inl rfl
  · rcases semi_bd l (run digI l (run lettI l i)) with h1 | ⟨h1, h2⟩
    · exact Or.inl h1
    · rw [h1]; exact Or.inr ⟨by omega, by omega⟩
theorem eEnd_bd (l : List UInt8) (i : Nat) : eEnd l i = 0 ∨ (i < eEnd l i ∧ eEnd l i ≤ l.length) := by
  unfold eEnd
  split
  · split
    · split
      · rcases num_bd l (i + 3) hexI 6 with h | h
        · exact Or.inl h
        · exact Or.inr ⟨by omega, h.2⟩
      · rcases num_bd l (i + 2) digI 7 with h | h
        · exact Or.inl h
        · exact Or.inr ⟨by omega, h.2⟩
    · rcases nam_bd l (i + 1) with h | h
      · exact Or.inl h
      · exact Or.inr ⟨by omega, h.2⟩
  · exact Or.inl rfl

/-- the end of the last entity, taken from the left (0: none) -/
def lastE (l : List UInt8) : Nat → Nat → Nat → Nat
  | 0, _, last => last
  | f + 1, i, last => if i < l.length then (if eEnd l i = 0 then lastE l f (i + 1) last else lastE l f (eEnd l i) (eEnd l i)) else last
theorem lastE_end (l : List UInt8) (f i last : Nat) (h : l.length ≤ i) : lastE l f i last = last := by
  cases f with
  | zero => rfl
  | succ f => rw [lastE, if_neg (by omega)]
theorem lastE_no (l : List UInt8) (f i last : Nat) (h : i < l.length) (he : eEnd l i = 0) : lastE l (f + 1) i last = lastE l f (i + 1) last := by
  rw [lastE, if_pos h, if_pos he]
theorem lastE_yes (l : List UInt8) (f i last : Nat) (h : i < l.length) (he : eEnd l i ≠ 0) : lastE l (f + 1) i last = lastE l f (eEnd l i) (eEnd l i) := by
  rw [lastE, if_pos h, if_neg he]
def endsE (l : List UInt8) : Bool := decide (0 < lastE l l.length 0 0 ∧ lastE l l.length 0 0 = l.length)

set_option maxHeartbeats 1000000 in
theorem specEnds_any (p : Option Addr) (n c : Nat) (l : List UInt8) (w : World) (h : Bs w p n l) (hn : n ≤ 1000000) :
    Calls Try.prog 7 #[.slice p n c] w fun e w' => e = .returned (.bool (endsE l)) ∧ w = w' := by
  have hl := h.len
  have HL := Lib.hid hl
  clear hl
  go_enter Try.func7, Try.ntmps7
  go_wp2_with fail
  go_loopg [3, 4] n (fun gf s3 s4 wx => ∃ i last : Nat, i ≤ n ∧ last ≤ n ∧ s3 = .int .i64 last ∧ s4 = .int .i64 i ∧ lastE l l.length 0 0 = lastE l gf i last ∧ n ≤ i + gf ∧ wx = w)
  case atStart => exact ⟨0, 0, Nat.zero_le _, Nat.zero_le _, rfl, rfl, by rw [HL.out], by omega, rfl⟩
  case round =>
    obtain ⟨i, last, hi, hla, rfl, rfl, hr, hg, rfl⟩ := hrel
    have HR := Lib.hid hr
    clear hr
    by_cases hlt : i < n
    · obtain ⟨g', rfl⟩ : ∃ g', gk = g' + 1 := ⟨gk - 1, by omega⟩
      have hbd := eEnd_bd l i
      obtain ⟨E, hE⟩ : ∃ E, E = eEnd l i := ⟨_, rfl⟩
      have c1 := inEntityEnd_any p n c l i wr h hn hlt
      rw [← hE] at c1 hbd
      rw [HL.out] at hbd
      have C1 := Lib.hid c1
      have HE := Lib.hid hE
      clear c1 hE
      by_cases he : E = 0
      · have hr2 : lastE l l.length 0 0 = lastE l g' (i + 1) last := by rw [HR.out, lastE_no _ _ _ _ (by rw [HL.out]; exact hlt) (by rw [← HE.out]; exact he)]
        have HR2 := Lib.hid hr2
        clear hr2 hbd
        subst he
        go_wp2_with (go_at_call 13; refine C1.out.mono ?_; rintro e w' ⟨rfl, rfl⟩)
        go_roundg g'
        case measure => omega
        case rel => exact ⟨i + 1, last, by omega, hla, rfl, by go_num, HR2.out, by omega, rfl⟩
      · have hr2 : lastE l l.length 0 0 = lastE l g' E E := by rw [HR.out, lastE_yes _ _ _ _ (by rw [HL.out]; exact hlt) (by rw [← HE.out]; exact he), ← HE.out]
        have HR2 := Lib.hid hr2
        clear hr2
        have hb2 : i < E ∧ E ≤ n := by rcases hbd with h | h; exact absurd h he; exact h
        obtain ⟨hb3, hb4⟩ := hb2
        have he2 : 0 < E := by omega
        clear hbd he
        go_wp2_with (go_at_call 13; refine C1.out.mono ?_; rintro e w' ⟨rfl, rfl⟩)
        go_roundg g'
        case measure => omega
        case rel => exact ⟨E, E, hb4, hb4, rfl, rfl, HR2.out, by omega, rfl⟩
    · have hfin : lastE l l.length 0 0 = last := by rw [HR.out, lastE_end _ _ _ _ (by rw [HL.out]; omega)]
      have HFin := Lib.hid hfin
      clear hfin
      by_cases h0 : 0 < last
      · go_wp2_with fail
        go_ret
        refine ⟨ret_bool ?_, rfl⟩
        rw [endsE, HFin.out, HL.out, Bool.eq_iff_iff]
        simp
        omega
      · go_wp2_with fail
        go_ret
        refine ⟨ret_bool ?_, rfl⟩
        rw [endsE, HFin.out, HL.out, Bool.eq_iff_iff]
        simp
        omega

set_option maxHeartbeats 1000000 in
theorem zzEnds_any (p : Option Addr) (n c : Nat) (l : List UInt8) (w : World) (h : Bs w p n l) (hn : n ≤ 1000000) :
    Calls Try.prog 23 #[.slice p n c] w fun e w' => e = .returned (.bool (endsE l)) ∧ w = w' := by
  have hl := h.len
  have HL := Lib.hid hl
  clear hl
  go_enter Try.func23, Try.ntmps23
  go_wp2_with fail
  go_loopg [3, 4] n (fun gf s3 s4 wx => ∃ (i last : Nat) (z : Int), i ≤ n ∧ last ≤ n ∧ (z = last ∧ 0 < last ∨ z = -1 ∧ last = 0) ∧ s3 = .int .i64 z ∧ s4 = .int .i64 i ∧ lastE l l.length 0 0 = lastE l gf i last ∧ n ≤ i + gf ∧ wx = w)
  case atStart => exact ⟨0, 0, -1, Nat.zero_le _, Nat.zero_le _, Or.inr ⟨rfl, rfl⟩, rfl, rfl, by rw [HL.out], by omega, rfl⟩
  case round =>
    obtain ⟨i, last, z, hi, hla, hz, rfl, rfl, hr, hg, rfl⟩ := hrel
    have HR := Lib.hid hr
    have HZ := Lib.hid hz
    clear hr hz
    by_cases hlt : i < n
    · obtain ⟨g', rfl⟩ : ∃ g', gk = g' + 1 := ⟨gk - 1, by omega⟩
      have hbd := eEnd_bd l i
      obtain ⟨E, hE⟩ : ∃ E, E = eEnd l i := ⟨_, rfl⟩
      have c1 := zzHTMLEntity_any p n c l i wr h hn hlt
      rw [← hE] at c1 hbd
      rw [HL.out] at hbd
      have C1 := Lib.hid c1
      have HE := Lib.hid hE
      clear c1 hE
      by_cases he : E = 0
      · have hr2 : lastE l l.length 0 0 = lastE l g' (i + 1) last := by rw [HR.out, lastE_no _ _ _ _ (by rw [HL.out]; exact hlt) (by rw [← HE.out]; exact he)]
        have HR2 := Lib.hid hr2
        clear hr2 hbd
        subst he
        go_wp2_with (go_at_call 33; refine C1.out.mono ?_; rintro e w' ⟨rfl, rfl⟩)
        go_roundg g'
        case measure => omega
        case rel => exact ⟨i + 1, last, z, by omega, hla, HZ.out, rfl, by go_num, HR2.out, by omega, rfl⟩
      · have hr2 : lastE l l.length 0 0 = lastE l g' E E := by rw [HR.out, lastE_yes _ _ _ _ (by rw [HL.out]; exact hlt) (by rw [← HE.out]; exact he), ← HE.out]
        have HR2 := Lib.hid hr2
        clear hr2
        have hb2 : i < E ∧ E ≤ n := by rcases hbd with h | h; exact absurd h he; exact h
        obtain ⟨hb3, hb4⟩ := hb2
        have he2 : 0 < E := by omega
        clear hbd he
        go_wp2_with (go_at_call 33; refine C1.out.mono ?_; rintro e w' ⟨rfl, rfl⟩)
        go_roundg g'
        case measure => omega
        case rel => exact ⟨E, E, E, hb4, hb4, Or.inl ⟨rfl, he2⟩, rfl, rfl, HR2.out, by omega, rfl⟩
    · have hfin : lastE l l.length 0 0 = last := by rw [HR.out, lastE_end _ _ _ _ (by rw [HL.out]; omega)]
      have HFin := Lib.hid hfin
      clear hfin
      go_wp2_with fail
      go_ret
      refine ⟨ret_bool ?_, rfl⟩
      rw [endsE, HFin.out, HL.out, Bool.eq_iff_iff]
      simp
      have := HZ.out
      omega

theorem endsDoor_any (p : Option Addr) (n c : Nat) (l : List UInt8) (w : World) (h : Bs w p n l) (hn : n ≤ 1000000) :
    Calls Try.prog 11 #[.slice p n c] w fun e w' => e = .returned (.bool (endsE l)) ∧ w = w' := by
  go_enter Try.func11, Try.ntmps11
  go_wp2_with (go_at_call 23; refine (zzEnds_any p n c l _ h hn).mono ?_; rintro e w' ⟨rfl, rfl⟩)
  go_ret
  exact ⟨rfl, rfl⟩

theorem implEnds_any (p : Option Addr) (n c : Nat) (l : List UInt8) (w : World) (h : Bs w p n l) (hn : n ≤ 1000000) :
    Calls Try.prog 5 #[.slice p n c] w fun e w' => e = .returned (.bool (endsE l)) ∧ Below w.heap.size w w' := by
  go_enter Try.func5, Try.ntmps5
  go_wp2_with fail
  refine (own_bs p n c l _ h (by omega)).mono ?_
  rintro e w1 ⟨p', c', rfl, hc', hcm, h1, hb1⟩
  go_wp2_with fail
  refine (endsDoor_any p' n c' l _ h1 hn).mono ?_
  rintro e w2 ⟨rfl, rfl⟩
  go_wp2_with fail
  go_ret
  exact ⟨rfl, hb1⟩

/-- FnEndsWithEntity returns true and nothing that was there turns -/
theorem fnEndsWithEntity_law (p : Option Addr) (n c : Nat) (l : List UInt8) (w : World) (h : Bs w p n l) (_hnc : n ≤ c) (hcm : c ≤ maxLen) :
    Calls Try.prog 3 #[.slice p n c] w fun e w' => e = .returned (.bool true) ∧ Below w.heap.size w w' := by
  have hcm' : c ≤ 2 ^ 63 - 1 := hcm
  by_cases hbig : 500 < n
  · by_cases hbig2 : 2147483647 < n
    · go_enter Try.func3, Try.ntmps3
      go_wp2_with fail
      go_ret
      exact ⟨rfl, Below.refl _ _⟩
    · go_enter Try.func3, Try.ntmps3
      go_wp2_with fail
      go_ret
      exact ⟨rfl, Below.refl _ _⟩
  have kc := conv_first
  have hx : endsE [97, 38, 97, 109, 112, 59] = true := by decide +kernel
  have HX := Lib.hid hx
  clear hx
  go_enter Try.func3, Try.ntmps3
  go_wp2_with fail
  refine (clone_bs p n c l _ h (by omega)).mono ?_
  rintro e w1 ⟨p', c', rfl, hc', hcm1, h1, hb⟩
  go_wp2_with fail
  refine (implEnds_any p' n c' l _ h1 (by omega)).mono ?_
  rintro e w2 ⟨rfl, hb2⟩
  have hb12 := hb.trans (hb2.mono hb.size)
  have h2 : Bs w2 p n l := h.below hb12 (Nat.le_refl _)
  go_wp2_with fail
  refine (specEnds_any p n c l _ h2 (by omega)).mono ?_
  rintro e w3 ⟨rfl, rfl⟩
  go_wp2_with fail
  refine (implEnds_any _ 6 6 [97, 38, 97, 109, 112, 59] _ (Bs.new w2 [97, 38, 97, 109, 112, 59] _ _ _ 6 rfl rfl) (by omega)).mono ?_
  rw [HX.out]
  rintro e w3 ⟨rfl, hb3⟩
  go_wp2_with fail
  go_ret
  exact ⟨rfl, hb12.trans (((Below.refl _ _).alloc (Nat.le_refl _) _).trans (hb3.mono (by simp)) |>.mono hb12.size)⟩

end Go.Proofs.Ytkjbmekpcjfenaa
