/- Tables: addChild, addBlock walked at a tip that takes the new node. No condition. -/
import Derived.Test.YtlndmebmcjngfaaGreatDoorTabG
namespace Go.Proofs.YtlndmebmcjngfaaGreatDoor
open Go.ChangeShapes Go.WideShapes Go.ChangeAt Go.RowKit

set_option maxHeartbeats 2000000 in
theorem addChild_any (P T : Nat) (tyT tyN : Int) (pT lst : Option Nat) (w : World) (hP : Tip w P T) (hT : Nd w T tyT pT lst) (hPT : P ≠ T)
    (hL : ∀ L, lst = some L → L ≠ T ∧ L ≠ P ∧ ∃ ty p l, Nd w L ty p l) (hh : Holds tyT tyN true) (o : Value) :
    Calls Tryz.prog 49 #[.pointer (some ⟨P, 0, none⟩), .int .i64 tyN, o] w fun e w' => e = .returned (.pointer (some ⟨w.heap.size, 0, none⟩)) ∧ ∃ w1, Below w.heap.size w w1 ∧ Added P T w.heap.size tyT tyN pT lst w1 w' := by
  have HN := Lib.hid (newNd_any tyN w)
  have HP := Lib.hid hP
  have HT := Lib.hid hT
  have HPT := Lib.hid hPT
  have HL := Lib.hid hL
  have HH := Lib.hid hh
  clear hP hT hPT hL hh
  go_enter Tryz.func49, Tryz.ntmps49
  go_wp2_with fail
  refine HN.out.mono ?_
  rintro e w1 ⟨rfl, hnew⟩
  have HE := Lib.hid (addExisting_any P T w.heap.size tyT tyN pT lst w1 (HP.out.of_block (hnew.below.block P HP.out.lt)) (HT.out.of_block (hnew.below.block T HT.out.lt)) hnew.nd hnew.prev hnew.next (Nat.ne_of_lt HT.out.lt) HPT.out (Nat.ne_of_lt HP.out.lt)
    (fun L e => by
      obtain ⟨h1, h2, ty, p, l, hd⟩ := HL.out L e
      exact ⟨h1, Nat.ne_of_lt hd.lt, h2, ty, p, l, hd.of_block (hnew.below.block L hd.lt)⟩) HH.out o)
  have HB := Lib.hid hnew.below
  clear hnew HN
  go_wp2_with fail
  refine HE.out.mono ?_
  rintro e w2 ⟨rfl, had⟩
  have HAd := Lib.hid had
  clear had HE
  go_wp2_with fail
  go_ret
  exact ⟨rfl, w1, HB.out, HAd.out⟩

theorem Added.set {P T N : Nat} {tyT tyN : Int} {pT lst : Option Nat} {w w' : World} (h : Added P T N tyT tyN pT lst w w') (hPN : P ≠ N) (hTN : T ≠ N) (hL : ∀ L, lst = some L → L ≠ N) (i : Nat) (v : Value) (h0 : i ≠ 0) (h1 : i ≠ 1) (h3 : i ≠ 3) : Added P T N tyT tyN pT lst w (w'.setCell ⟨N, i, none⟩ v) :=
  ⟨h.tip.of_block (heap_setCell_other _ _ _ _ (fun e => hPN e.symm)), h.top.far _ _ (fun e => hTN e.symm), h.new.set i v h0 h1 h3, fun L e ty p l hd => (h.last L e ty p l hd).far _ _ (fun e2 => hL L e e2.symm), h.but.set ⟨N, i, none⟩ v (Or.inr (Or.inl rfl))⟩

set_option maxHeartbeats 2000000 in
theorem addBlock_any (P T : Nat) (tyT tyN : Int) (pT lst : Option Nat) (p : Option Addr) (n c : Nat) (w : World) (hP : Tip w P T) (hT : Nd w T tyT pT lst) (hPT : P ≠ T)
    (hL : ∀ L, lst = some L → L ≠ T ∧ L ≠ P ∧ ∃ ty p l, Nd w L ty p l) (hh : Holds tyT tyN true) :
    Calls Tryz.prog 30 #[.pointer (some ⟨P, 0, none⟩), .int .i64 tyN, .slice p n c] w fun e w' => e = .returned (.pointer (some ⟨w.heap.size, 0, none⟩)) ∧ ∃ w1, Below w.heap.size w w1 ∧ Added P T w.heap.size tyT tyN pT lst w1 w' := by
  have HC := Lib.hid (closeUnmatched_any P w hP.shut)
  have HA := Lib.hid (addChild_any P T tyT tyN pT lst w hP hT hPT hL hh (.int .u32 0))
  have HP := Lib.hid hP
  have HT := Lib.hid hT
  have HL := Lib.hid hL
  clear hP hT hPT hL hh
  go_enter Tryz.func30, Tryz.ntmps30
  go_wp2_with fail
  refine HC.out.mono ?_
  rintro e w1 ⟨rfl, rfl⟩
  go_wp2_with fail
  refine HA.out.mono ?_
  rintro e w2 ⟨rfl, w1, hb, had⟩
  have HAd := Lib.hid had
  have HB := Lib.hid hb
  obtain ⟨x, c27⟩ := had.new.cells 27 (by decide)
  have f27 := had.new.froz 27
  clear had hb HA HC
  go_wp2_with fail
  go_ret
  exact ⟨rfl, w1, HB.out, HAd.out.set (Nat.ne_of_lt HP.out.lt) (Nat.ne_of_lt HT.out.lt) (fun L e => by obtain ⟨_, _, ty, p, l, hd⟩ := HL.out L e; exact Nat.ne_of_lt hd.lt) 27 _ (by decide) (by decide) (by decide)⟩

end Go.Proofs.YtlndmebmcjngfaaGreatDoor
