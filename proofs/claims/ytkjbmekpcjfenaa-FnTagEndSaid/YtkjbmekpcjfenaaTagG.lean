/- Tags: zzLower, spec.Begins, spec.BeginsFolded, spec.inFind, walked. Condition: lengths are bounded. -/
import Derived.Test.YtkjbmekpcjfenaaTagF
namespace Go.Proofs.Ytkjbmekpcjfenaa
open Go.ChangeShapes Go.WideShapes Go.ChangeAt Go.RowKit

/-- a byte in small letters -/
def lowU (c : UInt8) : UInt8 := if 65 ≤ c ∧ c ≤ 90 then c + 32 else c
def lowN (n : Int) : Int := if 65 ≤ n ∧ n ≤ 90 then n + 32 else n
theorem lowU_toNat (c : UInt8) : ((lowU c).toNat : Int) = lowN (c.toNat : Int) := by
  unfold lowU lowN
  simp only [UInt8.le_iff_toNat_le]
  by_cases h1 : 65 ≤ c.toNat ∧ c.toNat ≤ 90
  · rw [if_pos (by simpa using h1), if_pos (by omega), UInt8.toNat_add]
    simp
    omega
  · rw [if_neg (by simpa using h1), if_neg (by omega)]
theorem bat_low (l : List UInt8) (i : Nat) (h : i < l.length) : bat (l.map lowU) i = lowN (bat l i) := by
  rw [bat, bat, ← lowU_toNat]
  simp [h]

theorem tolower_any (n : Int) (w : World) (h0 : 0 ≤ n) (h1 : n < 256) :
    Calls Try.prog 51 #[.int .u8 n] w fun e w' => e = .returned (.int .u8 (lowN n)) ∧ w = w' := by
  go_enter Try.func51, Try.ntmps51
  go_wp2
  all_goals go_ret
  all_goals refine ⟨ret_int ?_, rfl⟩
  all_goals unfold lowN
  · rw [if_pos ⟨by omega, by omega⟩]
    omega
  all_goals rw [if_neg (by omega)]

set_option maxHeartbeats 1000000 in
theorem zzLower_any (p : Option Addr) (n c : Nat) (l : List UInt8) (w : World) (h : Bs w p n l) (hn : n ≤ 1000000) (hn0 : 0 < n) :
    Calls Try.prog 47 #[.slice p n c] w fun e w' => e = .returned (.slice (some ⟨w.heap.size, 0, none⟩) n n) ∧ Bs w' (some ⟨w.heap.size, 0, none⟩) n (l.map lowU) ∧ Below w.heap.size w w' := by
  have hl := h.len
  obtain ⟨b, o, rfl, hbl, hc⟩ := h.cells hn0
  obtain ⟨i0, hi, hz0, hz1, hz2⟩ := info_parts Try.info5
  have HL := Lib.hid hl
  clear hl
  go_enter Try.func47, Try.ntmps47
  go_wp2_with (at_make; refine wpList_make_full _ rfl _ _ 22 rfl w.heap.size 5 i0 (.int .u8 0) 1 Try.underlying22 hi hz0 hz1 .i64 .i64 _ _ n rfl rfl rfl rfl ?c1 ?c2 ?c3 ?_)
  case c1 => rw [hz2]; omega
  case c2 => unfold maxLen; omega
  case c3 => exact Nat.le_refl _
  intro w1 hown1 hg1
  have hb1 : Below w.heap.size w w1 := (Below.refl _ _).grown hg1 (Nat.le_refl _) (by intro k hk; cases hk)
  go_wp2_with fail
  go_loopw [11] (fun t wr => ∃ (k : Nat) (xs : List Value), k ≤ n ∧ t = .int .i64 k ∧ wr.ownsRow w.heap.size 5 1 (.slice (some ⟨w.heap.size, 0, none⟩) n n) n xs ∧ (∀ i, i < k → xs[i]? = some (.int .u8 (lowN (bat l i)))) ∧ Below w.heap.size w wr) (fun t _ => n - (intOf t).toNat)
  case atStart => exact ⟨0, _, Nat.zero_le _, rfl, hown1, fun i hi => absurd hi (Nat.not_lt_zero i), hb1⟩
  case round =>
    obtain ⟨k, xs, hk, rfl, hown, hxs, hbw⟩ := hrel
    have HX := Lib.hid hxs
    clear hxs
    by_cases hlt : k < n
    · have hcell2 : wr.cell? ⟨b, o + k, none⟩ = some (.int .u8 (bat l k)) := by
        rw [hbw.cell (p := ⟨b, o + k, none⟩) hbl]
        exact hc k hlt
      have hlow := fun w' => tolower_any (bat l k) w' (bat_nonneg l k) (bat_lt l k)
      have hlen : xs.length = n := by have := hown.1; omega
      have hst := World.ownsRow.stored hown k (.int .u8 (lowN (bat l k)))
      obtain ⟨u, hu⟩ : ∃ u, xs[k]? = some u := ⟨xs[k]'(by omega), by simp [hlen, hlt]⟩
      have hca : wr.cell? ⟨w.heap.size, k, none⟩ = some u := by rw [hown.cellAt k (by omega)]; exact hu
      have hfz := hown.frozenAt k
      have HLen := Lib.hid hlen
      clear hlen hu
      go_wp2_with (go_at_call 51; refine (hlow _).mono ?_; rintro e w' ⟨rfl, rfl⟩)
      go_roundw
      case rel =>
        refine ⟨k + 1, xs.set k (.int .u8 (lowN (bat l k))), by omega, by go_num, hst.1, fun i hi => ?_, hbw.setCell (by simp) _⟩
        by_cases e : i = k
        · rw [e]
          simp [HLen.out, hlt]
        · rw [List.getElem?_set_ne (by omega)]
          exact HX.out i (by omega)
      case measure => simp [intOf]; omega
    · go_wp2_with fail
      go_ret
      have hkn : k = n := by omega
      refine ⟨rfl, ⟨by rw [List.length_map, HL.out], fun _ => ⟨w.heap.size, 0, rfl, ?_, fun i hi => ?_⟩⟩, hbw⟩
      · rcases hown.2 with ⟨hv, _⟩ | ⟨g, cap, cur, hv, hB, hg, _⟩
        · cases hv
        · cases hv
          exact (Array.getElem?_eq_some_iff.1 hg).1
      · rw [Nat.zero_add, hown.cellAt i (by omega), HX.out i (by omega), bat_low l i (by rw [HL.out]; exact hi)]

/-- spec.Begins -/
theorem begins_any (p : Option Addr) (n c : Nat) (l : List UInt8) (s : ByteArray) (w : World) (h1 : Bs w p n l) (hc : n ≤ c) (_hcm : c ≤ maxLen) (h0 : 0 < s.size) (_hs : s.size ≤ maxLen) :
    Calls Try.prog 29 #[.slice p n c, .string s] w fun e w' => e = .returned (.bool (begins l s.toList)) ∧ w = w' := by
  unfold maxLen at _hcm _hs
  have hsl : s.toList.length = s.size := by rw [Lib.toList_data]; rfl
  have HS := Lib.hid hsl
  have HL := Lib.hid h1.len
  clear hsl
  by_cases hle : s.size ≤ n
  · obtain ⟨b, o, rfl, hlt, hcell⟩ := h1.cells (by omega)
    have h3 := (h1.take s.size hle).convert c
    clear hcell
    go_enter Try.func29, Try.ntmps29
    go_wp2_with fail
    go_ret
    refine ⟨ret_bool ?_, rfl⟩
    rw [str_toList, begins_of_le (by rw [HL.out, HS.out]; exact hle), HS.out]
  · go_enter Try.func29, Try.ntmps29
    go_wp2_with fail
    go_ret
    refine ⟨ret_bool ?_, rfl⟩
    rw [begins_short (by rw [HL.out, HS.out]; omega)]

theorem Bs.drop {w : World} {b o n : Nat} {l : List UInt8} (h : Bs w (some ⟨b, o, none⟩) n l) (i : Nat) (hi : i ≤ n) : Bs w (some ⟨b, o + i, none⟩) (n - i) (l.drop i) := by
  refine ⟨by rw [List.length_drop, h.len], fun h0 => ?_⟩
  obtain ⟨b', o', hp, hlt, hc⟩ := h.cells (by omega)
  cases hp
  refine ⟨b, o + i, rfl, hlt, fun k hk => ?_⟩
  rw [Nat.add_assoc, hc (i + k) (by omega)]
  have e : bat (l.drop i) k = bat l (i + k) := by
    unfold bat
    simp only [List.getD, List.getElem?_drop]
  rw [e]

/-- where a text stands from a place on -/
def fnd (l k : List UInt8) : Nat → Nat → Option Nat
  | 0, _ => none
  | f + 1, i => if i + k.length ≤ l.length then (if begins (l.drop i) k then some i else fnd l k f (i + 1)) else none
theorem fnd_out (l k : List UInt8) (f i : Nat) (h : ¬ i + k.length ≤ l.length) : fnd l k f i = none := by
  cases f with
  | zero => rfl
  | succ f => rw [fnd, if_neg h]
def fndI (o : Option Nat) : Int := match o with | some k => k | none => -1

set_option maxHeartbeats 1000000 in
theorem inFind_any (p : Option Addr) (n c : Nat) (l : List UInt8) (i : Nat) (j : Int) (s : ByteArray) (w : World) (h : Bs w p n l) (hj : j = i) (hnc : n ≤ c) (hcm : c ≤ maxLen) (hn : n ≤ 1000000) (hi : i ≤ 1000000) (hs0 : 0 < s.size) (hs : s.size ≤ 100) :
    Calls Try.prog 20 #[.slice p n c, .int .i64 j, .string s] w fun e w' => e = .returned (.int .i64 (fndI (fnd l s.toList (l.length + 1) i))) ∧ w = w' := by
  subst hj
  have HL := Lib.hid h.len
  have hsl : s.toList.length = s.size := by rw [Lib.toList_data]; rfl
  have HS := Lib.hid hsl
  obtain ⟨R, hR⟩ : ∃ R, R = fnd l s.toList (l.length + 1) i := ⟨_, rfl⟩
  rw [← hR]
  have HR0 := Lib.hid hR
  clear hR hsl
  go_enter Try.func20, Try.ntmps20
  go_wp2_with fail
  go_loopg [1] (n + 1) (fun gf t wx => ∃ k : Nat, t = .int .i64 k ∧ R = fnd l s.toList gf k ∧ n + 1 ≤ k + gf ∧ k ≤ 2000000 ∧ wx = w)
  case atStart => exact ⟨i, rfl, by rw [HR0.out, HL.out], by omega, by omega, rfl⟩
  case round =>
    obtain ⟨k, rfl, hr, hg, hk, rfl⟩ := hrel
    have HR := Lib.hid hr
    clear hr
    by_cases hle : k + s.size ≤ n
    · obtain ⟨b, o, rfl, _, _⟩ := h.cells (by omega)
      have hd := h.drop k (by omega)
      obtain ⟨g', rfl⟩ : ∃ g', gk = g' + 1 := ⟨gk - 1, by omega⟩
      have hcm' : c ≤ 2 ^ 63 - 1 := hcm
      have cb := begins_any (some ⟨b, o + k, none⟩) (n - k) (c - k) (l.drop k) s wr hd (by omega) (by unfold maxLen; omega) hs0 (by unfold maxLen; omega)
      have hst : fnd l s.toList (g' + 1) k = if begins (l.drop k) s.toList then some k else fnd l s.toList g' (k + 1) := by rw [fnd, if_pos (by rw [HL.out, HS.out]; exact hle)]
      cases hb : begins (l.drop k) s.toList with
      | true =>
        rw [hb] at hst cb
        have hfin : R = some k := by rw [HR.out, hst]; rfl
        have HF := Lib.hid hfin
        have CB := Lib.hid cb
        clear hfin cb hst hb
        go_wp2_with (go_at_call 29; refine CB.out.mono ?_; rintro e w' ⟨rfl, rfl⟩)
        go_ret
        exact ⟨ret_int (by rw [HF.out]; rfl), rfl⟩
      | false =>
        rw [hb] at hst cb
        have hfin : R = fnd l s.toList g' (k + 1) := by rw [HR.out, hst]; rfl
        have HF := Lib.hid hfin
        have CB := Lib.hid cb
        clear hfin cb hst hb
        go_wp2_with (go_at_call 29; refine CB.out.mono ?_; rintro e w' ⟨rfl, rfl⟩)
        go_roundg g'
        case measure => omega
        case rel => exact ⟨k + 1, by go_num, HF.out, by omega, by omega, rfl⟩
    · have hfin : R = none := by rw [HR.out, fnd_out _ _ _ _ (by rw [HL.out, HS.out]; exact hle)]
      have HF := Lib.hid hfin
      clear hfin
      go_wp2_with fail
      go_ret
      exact ⟨ret_int (by rw [HF.out]; rfl), rfl⟩

end Go.Proofs.Ytkjbmekpcjfenaa
