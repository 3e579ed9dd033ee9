/- Lines: impl.parser and the doors walked. Condition: as for the functions behind them. -/
import Derived.Test.YtlndmebmcjngfaaGreatDoorLineF
namespace Go.Proofs.YtlndmebmcjngfaaGreatDoor
open Go.ChangeShapes Go.WideShapes Go.ChangeAt Go.RowKit

/-- a call hands back a new parser -/
def ParserSaid (ext : Int) (w : World) (e : Ending) (w' : World) : Prop :=
  ∃ B wm, e = .returned (.pointer (some ⟨B, 0, none⟩)) ∧ w.heap.size ≤ B ∧ B = wm.heap.size ∧ Below w.heap.size w wm ∧ PM B ext wm w'

set_option maxHeartbeats 1000000 in
theorem parser_any (ext : Int) (w : World) : Calls Tryz.prog 18 #[.int .i64 ext] w (ParserSaid ext w) := by
  have HW := Lib.hid (fun w => withExt_any ext w)
  have HN := Lib.hid (fun C : Array Value => new_any ext (w.heap.size + 1) 0 ⟨w.heap.size, 0, none⟩ ((w.alloc (.cells #[.int .i64 ext] 59)).alloc (.cells #[.func (.func 44) #[] #[.pointer (some ⟨w.heap.size, 0, none⟩)]] 57)) (by simp) (by simp) (by simp) (by show w.heap.size < (World.alloc (w.alloc _) _).heap.size; simp; omega))
  go_enter Tryz.func18, Tryz.ntmps18
  go_wp2_with fail
  refine (HW.out _).mono ?_
  rintro e w1 ⟨rfl, rfl⟩
  go_wp2_with fail
  refine (HN.out #[]).mono ?_
  rintro e w1 ⟨rfl, hP⟩
  have HP := Lib.hid hP
  clear HN HW hP
  go_wp2_with fail
  go_ret
  refine ⟨_, _, by simp, ?_, rfl, ?_, HP.out⟩
  · simp; omega
  · exact ((Below.refl _ _).alloc (Nat.le_refl _) _).alloc (by simp) _


end Go.Proofs.YtlndmebmcjngfaaGreatDoor
