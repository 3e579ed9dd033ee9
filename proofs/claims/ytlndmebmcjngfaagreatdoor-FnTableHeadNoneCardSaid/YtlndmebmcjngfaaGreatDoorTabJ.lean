/- Tables: addChild, addBlock walked at a cell behind a cell. No condition. -/
import Derived.Test.YtlndmebmcjngfaaGreatDoorTabI
namespace Go.Proofs.YtlndmebmcjngfaaGreatDoor
open Go.ChangeShapes Go.WideShapes Go.ChangeAt Go.RowKit

set_option maxHeartbeats 2000000 in
theorem addChild2_any (P R C : Nat) (pR lC : Option Nat) (w : World) (hP : Tip w P C) (hC : Nd w C 20 (some R) lC) (hR : Nd w R 23 pR (some C)) (hPR : P ≠ R) (hPC : P ≠ C) (hRC : R ≠ C) (o : Value) :
    Calls Tryz.prog 49 #[.pointer (some ⟨P, 0, none⟩), .int .i64 20, o] w fun e w' => e = .returned (.pointer (some ⟨w.heap.size, 0, none⟩)) ∧ ∃ w1, Below w.heap.size w w1 ∧ Added P R w.heap.size 23 20 pR (some C) w1 w' := by
  have HN := Lib.hid (newNd_any 20 w)
  have HP := Lib.hid hP
  have HC := Lib.hid hC
  have HR := Lib.hid hR
  have HPR := Lib.hid hPR
  have HPC := Lib.hid hPC
  have HRC := Lib.hid hRC
  clear hP hC hR hPR hPC hRC
  go_enter Tryz.func49, Tryz.ntmps49
  go_wp2_with fail
  refine HN.out.mono ?_
  rintro e w1 ⟨rfl, hnew⟩
  have HE := Lib.hid (addExisting2_any P R C w.heap.size pR lC w1 (HP.out.of_block (hnew.below.block P HP.out.lt)) (HC.out.of_block (hnew.below.block C HC.out.lt)) (HR.out.of_block (hnew.below.block R HR.out.lt)) hnew.nd hnew.prev hnew.next HPR.out HPC.out (Nat.ne_of_lt HP.out.lt) HRC.out (Nat.ne_of_lt HR.out.lt) (Nat.ne_of_lt HC.out.lt) o)
  have HB := Lib.hid hnew.below
  clear hnew HN
  go_wp2_with fail
  refine HE.out.mono ?_
  rintro e w2 ⟨rfl, had⟩
  have HAd := Lib.hid had
  clear had HE
  go_wp2_with fail
  go_ret
  exact ⟨rfl, w1, HB.out, HAd.out⟩

set_option maxHeartbeats 2000000 in
theorem addBlock2_any (P R C : Nat) (pR lC : Option Nat) (p : Option Addr) (n c : Nat) (w : World) (hP : Tip w P C) (hC : Nd w C 20 (some R) lC) (hR : Nd w R 23 pR (some C)) (hPR : P ≠ R) (hPC : P ≠ C) (hRC : R ≠ C) :
    Calls Tryz.prog 30 #[.pointer (some ⟨P, 0, none⟩), .int .i64 20, .slice p n c] w fun e w' => e = .returned (.pointer (some ⟨w.heap.size, 0, none⟩)) ∧ ∃ w1, Below w.heap.size w w1 ∧ Added P R w.heap.size 23 20 pR (some C) w1 w' := by
  have HK := Lib.hid (closeUnmatched_any P w hP.shut)
  have HA := Lib.hid (addChild2_any P R C pR lC w hP hC hR hPR hPC hRC (.int .u32 0))
  have HP := Lib.hid hP
  have HR := Lib.hid hR
  have HC := Lib.hid hC
  clear hP hC hR hPR hPC hRC
  go_enter Tryz.func30, Tryz.ntmps30
  go_wp2_with fail
  refine HK.out.mono ?_
  rintro e w1 ⟨rfl, rfl⟩
  go_wp2_with fail
  refine HA.out.mono ?_
  rintro e w2 ⟨rfl, w1, hb, had⟩
  have HAd := Lib.hid had
  have HB := Lib.hid hb
  obtain ⟨x, c27⟩ := had.new.cells 27 (by decide)
  have f27 := had.new.froz 27
  clear had hb HA HK
  go_wp2_with fail
  go_ret
  exact ⟨rfl, w1, HB.out, HAd.out.set (Nat.ne_of_lt HP.out.lt) (Nat.ne_of_lt HR.out.lt) (fun L e => by cases e; exact Nat.ne_of_lt HC.out.lt) 27 _ (by decide) (by decide) (by decide)⟩

end Go.Proofs.YtlndmebmcjngfaaGreatDoor
