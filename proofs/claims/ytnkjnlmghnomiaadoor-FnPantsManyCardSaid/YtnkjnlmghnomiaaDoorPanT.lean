/- Smart punctuation: what hyphens become, and which piece is right, walked. Condition: numbers are bounded. -/
import Derived.Test.YtnkjnlmghnomiaaDoorPanS
import Derived.Test.YtnkjnlmghnomiaaDoorPanD
namespace Go.Proofs.YtnkjnlmghnomiaaDoor
open Go.ChangeShapes Go.WideShapes Go.ChangeAt Go.RowKit

set_option maxHeartbeats 2000000 in
theorem dashed_any (F : Cfg) (flags x : Int) (bl : Bool) (w : World) (h0 : 0 ≤ x) (h1 : x ≤ 6) (f0 : 0 ≤ flags) (f1 : flags ≤ 1000000) (hF : F = cfgOf flags) :
    Calls Tryd.prog 34 #[.int .i64 x, .int .i64 flags, .bool bl] w fun e w' => e = .returned (.string (str (dashL F x.toNat bl))) ∧ w = w' := by
  rw [cfgOf_has flags f0 f1] at hF
  have hd : F.dash = hasB flags 16384 := by rw [hF]
  have hl : F.latex = hasB flags 32768 := by rw [hF]
  have hy := hyphens_any x w h0 h1
  have k1 := has_any flags 16384 w f0 f1 (by simp)
  have k2 := has_any flags 32768 w f0 f1 (by simp)
  rw [← hd] at k1
  rw [← hl] at k2
  have hc := hy_cases x.toNat
  have HD := Lib.hid (show dashL F x.toNat bl = if F.dash = false then hyL x.toNat else if F.latex = true then (if x.toNat % 3 = 1 then ndashL else if x.toNat % 3 = 2 then mdashL else [45]) else
    if x.toNat % 3 = 1 then mdashL else if x.toNat % 3 = 2 then (if bl then mdashL ++ ndashL else mdashL ++ [45]) else if bl then ndashL else [45] from rfl)
  clear hF hd hl
  obtain ⟨v, hv⟩ : ∃ v, v = x.toNat := ⟨_, rfl⟩
  rw [← hv] at hc hy HD ⊢
  clear hv
  cases hdd : F.dash with
  | false =>
    rw [hdd] at k1
    have HV := Lib.hid (show dashL F v bl = hyL v by rw [HD.out, hdd]; rfl)
    have HY := Lib.hid hy
    have K1 := Lib.hid k1
    clear hy k1 k2 hc hdd h0 h1 f0 f1
    go_enter Tryd.func34, Tryd.ntmps34
    go_wp2_with fail
    refine HY.out.mono ?_
    rintro e w1 ⟨rfl, rfl⟩
    go_wp2_with fail
    refine K1.out.mono ?_
    rintro e w1 ⟨rfl, rfl⟩
    go_wp2_with fail
    go_ret
    exact ⟨by rw [HV.out]; rfl, rfl⟩
  | true =>
    rw [hdd] at k1 HD
    cases hll : F.latex with
    | true =>
      rw [hll] at k2 HD
      rcases hc with ⟨hv, hs⟩ | ⟨hv, hs⟩ | ⟨hv, hs⟩
      all_goals
        have HV := HD
        rw [hv] at HV
        rw [hs] at hy
        simp (decide := true) only [if_true, if_false] at HV
        have HY := Lib.hid hy
        have K1 := Lib.hid k1
        have K2 := Lib.hid k2
        clear hy k1 k2 hdd h0 h1 f0 f1 hs HD hv hll
        go_enter Tryd.func34, Tryd.ntmps34
        go_wp2_with fail
        refine HY.out.mono ?_
        rintro e w1 ⟨rfl, rfl⟩
        unfold str
        go_wp2_with fail
        refine K1.out.mono ?_
        rintro e w1 ⟨rfl, rfl⟩
        go_wp2_with fail
        refine K2.out.mono ?_
        rintro e w1 ⟨rfl, rfl⟩
        go_wp2_with fail
        go_ret
        exact ⟨by rw [HV.out]; rfl, rfl⟩
    | false =>
      rw [hll] at k2 HD
      rcases hc with ⟨hv, hs⟩ | ⟨hv, hs⟩ | ⟨hv, hs⟩
      all_goals
        cases bl
        all_goals
          have HV := HD
          rw [hv] at HV
          rw [hs] at hy
          simp (decide := true) only [if_true, if_false] at HV
          have HY := Lib.hid hy
          have K1 := Lib.hid k1
          have K2 := Lib.hid k2
          clear hy k1 k2 hdd h0 h1 f0 f1 hs HD hv hll
          go_enter Tryd.func34, Tryd.ntmps34
          go_wp2_with fail
          refine HY.out.mono ?_
          rintro e w1 ⟨rfl, rfl⟩
          unfold str
          go_wp2_with fail
          refine K1.out.mono ?_
          rintro e w1 ⟨rfl, rfl⟩
          go_wp2_with fail
          refine K2.out.mono ?_
          rintro e w1 ⟨rfl, rfl⟩
          go_wp2_with fail
          go_ret
          exact ⟨by rw [HV.out]; rfl, rfl⟩

/-- a piece that came in -/
abbrev pcV (k v n m : Int) (a b : ByteArray) : Value := .agg #[.int .i64 k, .int .i64 v, .string a, .string b, .int .i64 n, .int .i64 m]
def pcOf (k v n m : Int) (a b : ByteArray) : Pc := ⟨k.toNat, v.toNat, a.data.toList, b.data.toList, n.toNat, m.toNat⟩
/-- the answer on a piece: if it is a right one, it is -/
def IsPantSaid (k v n m : Int) (a b : ByteArray) (w : World) (e : Ending) (w' : World) : Prop :=
  ∃ r, e = .returned (.bool r) ∧ Below w.heap.size w w' ∧ (r = true → 0 ≤ k ∧ 0 ≤ v ∧ OkP (pcOf k v n m a b))
theorem three_let {l : List UInt8} {t : Nat} (hw : wordsL l = true) (h1 : ∀ j, j < t → bat l j ≠ 32) (ht : t ≤ l.length) (h2 : 2 < t) : 2 < l.length ∧ lettI (bat l 1) = true ∧ lettI (bat l 2) = true := by
  have hj : ∀ j, j < t → lettI (bat l j) = true := by
    intro j hj
    have hjl : j < l.length := by omega
    have := wordsGo_mem hw l[j] (List.getElem_mem hjl)
    rw [← bat_at hjl] at this
    unfold lwI at this
    rw [Bool.or_eq_true] at this
    rcases this with h | h
    · exact h
    · exact absurd (by simpa using h) (h1 j hj)
  exact ⟨by omega, hj 1 (by omega), hj 2 (by omega)⟩

set_option maxHeartbeats 4000000 in
set_option maxRecDepth 100000 in
theorem isPant_any (k v n m : Int) (a b : ByteArray) (w : World) (ha : a.size ≤ 2147483647) (hb : b.size ≤ 2147483647) :
    Calls Tryd.prog 16 #[pcV k v n m a b] w (IsPantSaid k v n m a b w) := by
  unfold pcV
  have HB := Lib.hid (show ∀ o : Obj, Below w.heap.size w (w.alloc o) from fun o => (Below.refl _ _).alloc (Nat.le_refl _) o)
  by_cases g0 : k < 0
  · go_enter Tryd.func16, Tryd.ntmps16
    go_wp2_with fail
    go_ret
    exact ⟨false, rfl, HB.out _, fun h => by cases h⟩
  by_cases g1 : 15 ≤ k
  · go_enter Tryd.func16, Tryd.ntmps16
    go_wp2_with fail
    go_ret
    exact ⟨false, rfl, HB.out _, fun h => by cases h⟩
  by_cases g2 : v < 0
  · go_enter Tryd.func16, Tryd.ntmps16
    go_wp2_with fail
    go_ret
    exact ⟨false, rfl, HB.out _, fun h => by cases h⟩
  by_cases g3 : 6 < v
  · go_enter Tryd.func16, Tryd.ntmps16
    go_wp2_with fail
    go_ret
    exact ⟨false, rfl, HB.out _, fun h => by cases h⟩
  by_cases g4 : n < 1
  · go_enter Tryd.func16, Tryd.ntmps16
    go_wp2_with fail
    go_ret
    exact ⟨false, rfl, HB.out _, fun h => by cases h⟩
  by_cases g5 : 999 < n
  · go_enter Tryd.func16, Tryd.ntmps16
    go_wp2_with fail
    go_ret
    exact ⟨false, rfl, HB.out _, fun h => by cases h⟩
  by_cases g6 : m < 1
  · go_enter Tryd.func16, Tryd.ntmps16
    go_wp2_with fail
    go_ret
    exact ⟨false, rfl, HB.out _, fun h => by cases h⟩
  by_cases g7 : 999 < m
  · go_enter Tryd.func16, Tryd.ntmps16
    go_wp2_with fail
    go_ret
    exact ⟨false, rfl, HB.out _, fun h => by cases h⟩
  have HG := Lib.hid (show 0 ≤ k ∧ k < 15 ∧ 0 ≤ v ∧ v ≤ 6 ∧ 1 ≤ n ∧ n ≤ 999 ∧ 1 ≤ m ∧ m ≤ 999 by omega)
  have HWa := Lib.hid (fun w => isWords_any a w ha)
  have HFa := Lib.hid (fun w => firstWord_any a w ha)
  have HOa := Lib.hid (fun w => isOne_any a w ha)
  have HOb := Lib.hid (fun w => isOne_any b w hb)
  have HSz := Lib.hid (Lib.size_eq a)
  have HK : ∀ (h1 : wordsL a.data.toList = true) (h2 : k = 2 → 2 < a.data.toList.length ∧ lettI (bat a.data.toList 1) = true ∧ lettI (bat a.data.toList 2) = true) (h3 : k = 4 ∨ k = 7 ∨ k = 8 ∨ k = 14 → oneL a.data.toList = true) (h4 : k = 7 → oneL b.data.toList = true), OkP (pcOf k v n m a b) := by
    intro h1 h2 h3 h4
    exact ⟨by unfold pcOf; simp; omega, by unfold pcOf; simp; omega, by unfold pcOf; simp; omega, by unfold pcOf; simp; omega, by unfold pcOf; simp; omega, by unfold pcOf; simp; omega, h1,
      fun e => h2 (by unfold pcOf at e; simp at e; omega), fun e => h3 (by unfold pcOf at e; simp at e; omega), fun e => h4 (by unfold pcOf at e; simp at e; omega)⟩
  have HKk := Lib.hid HK
  clear HK ha hb
  by_cases k2 : k = 2
  · subst k2
    obtain ⟨wb, hwb⟩ : ∃ wb, wb = wordsL a.data.toList := ⟨_, rfl⟩
    rw [← hwb] at HWa HKk
    cases wb with
    | false =>
      clear hwb
      go_enter Tryd.func16, Tryd.ntmps16
      go_wp2_with fail
      refine (HWa.out _).mono ?_
      rintro e w1 ⟨rfl, rfl⟩
      go_wp2_with fail
      go_ret
      exact ⟨false, rfl, HB.out _, fun h => by cases h⟩
    | true =>
      have HW2 := Lib.hid hwb.symm
      clear hwb
      go_enter Tryd.func16, Tryd.ntmps16
      go_wp2_with fail
      refine (HWa.out _).mono ?_
      rintro e w1 ⟨rfl, rfl⟩
      go_wp2_with fail
      refine (HFa.out _).mono ?_
      rintro e w1 ⟨t, rfl, rfl, ht, h32, _⟩
      have HT := Lib.hid ht
      have H32 := Lib.hid h32
      clear ht h32
      by_cases h2 : 2 < t.size
      · go_wp2_with fail
        go_ret
        have h3 := three_let HW2.out H32.out (by rw [← HSz.out]; exact HT.out) h2
        exact ⟨true, ret_bool (decide_eq_true (by omega)), HB.out _, fun _ => ⟨by omega, by omega, HKk.out (by first | rfl | trivial) (fun _ => h3) (fun e => by omega) (fun e => by omega)⟩⟩
      · go_wp2_with fail
        go_ret
        exact ⟨false, ret_bool (decide_eq_false (by omega)), HB.out _, fun h => by cases h⟩
  by_cases k7 : k = 7
  · subst k7
    obtain ⟨wb, hwb⟩ : ∃ wb, wb = oneL a.data.toList := ⟨_, rfl⟩
    rw [← hwb] at HOa HKk
    cases wb with
    | false =>
      clear hwb
      go_enter Tryd.func16, Tryd.ntmps16
      go_wp2_with fail
      refine (HOa.out _).mono ?_
      rintro e w1 ⟨rfl, rfl⟩
      go_wp2_with fail
      go_ret
      exact ⟨false, rfl, HB.out _, fun h => by cases h⟩
    | true =>
      have HW2 := Lib.hid hwb.symm
      clear hwb
      go_enter Tryd.func16, Tryd.ntmps16
      go_wp2_with fail
      refine (HOa.out _).mono ?_
      rintro e w1 ⟨rfl, rfl⟩
      go_wp2_with fail
      refine (HOb.out _).mono ?_
      rintro e w1 ⟨rfl, rfl⟩
      go_wp2_with fail
      go_ret
      exact ⟨_, rfl, HB.out _, fun h => ⟨by omega, by omega, HKk.out (oneL_words HW2.out) (fun e => by omega) (fun _ => by first | rfl | trivial) (fun _ => h)⟩⟩
  by_cases ko : k = 4 ∨ k = 8 ∨ k = 14
  · rcases ko with rfl | rfl | rfl
    all_goals
      go_enter Tryd.func16, Tryd.ntmps16
      go_wp2_with fail
      refine (HOa.out _).mono ?_
      rintro e w1 ⟨rfl, rfl⟩
      go_wp2_with fail
      go_ret
      exact ⟨_, rfl, HB.out _, fun h => ⟨by omega, by omega, HKk.out (oneL_words h) (fun e => by omega) (fun _ => h) (fun e => by omega)⟩⟩
  · have kk : k = 0 ∨ k = 1 ∨ k = 3 ∨ k = 5 ∨ k = 6 ∨ k = 9 ∨ k = 10 ∨ k = 11 ∨ k = 12 ∨ k = 13 := by omega
    clear ko k2 k7
    rcases kk with rfl | rfl | rfl | rfl | rfl | rfl | rfl | rfl | rfl | rfl
    all_goals
      go_enter Tryd.func16, Tryd.ntmps16
      go_wp2_with fail
      refine (HWa.out _).mono ?_
      rintro e w1 ⟨rfl, rfl⟩
      go_wp2_with fail
      go_ret
      exact ⟨_, rfl, HB.out _, fun h => ⟨by omega, by omega, HKk.out h (fun e => by omega) (fun e => by omega) (fun e => by omega)⟩⟩

end Go.Proofs.YtnkjnlmghnomiaaDoor
