/- Trees: treeStep walked for the step that makes a node. Condition: the slice is the call's own row. -/
import Derived.Test.YtccofockeemmkaaRRTreeH
namespace Go.Proofs.YtccofockeemmkaaRR
open Go.ChangeShapes Go.WideShapes Go.ChangeAt Go.RowKit

/-- the cells of a row of pointers to nodes -/
def ptrs (A : Nat → Nat) (n : Nat) : List Value := (List.range n).map fun k => .pointer (some ⟨A k, 0, none⟩)
theorem ptrs_grow (A : Nat → Nat) (n b : Nat) : ptrs (addA A n b) (n + 1) = ptrs A n ++ [.pointer (some ⟨b, 0, none⟩)] := by
  unfold ptrs
  rw [List.range_succ, List.map_append]
  congr 1
  · refine List.map_congr_left fun k hk => ?_
    rw [addA, if_neg (by have := List.mem_range.1 hk; omega)]
  · simp [addA]
theorem ptr_info : (Try.prog.info? 44).map (fun i => (i.zero, i.size, i.bytes)) = some (some (.pointer none), 1, 8) := by kernel_rfl

set_option maxHeartbeats 4000000 in
set_option maxRecDepth 100000 in
theorem step0_any (B : Nat) (A : Nat → Nat) (n : Nat) (w : World) (v : Value) (a b : Int) (hown : w.ownsRow B 44 1 v n (ptrs A n)) (hB : B ≤ w.heap.size) (hn : n ≤ 1000000) :
    Calls Try.prog 9 #[v, .agg #[.int .i64 0, .int .i64 a, .int .i64 b]] w fun e w' => ∃ v' o, ∃ cs : Array Value, e = .returned v' ∧
      w'.ownsRow B 44 1 v' (n + 1) (ptrs (addA A n (w.alloc o).heap.size) (n + 1)) ∧ Below B ((w.alloc o).alloc (.cells cs 61)) w' ∧
      cs.size = 29 ∧ (∀ i, 1 ≤ i → i ≤ 5 → cs[i]? = some (.pointer none)) ∧ (∀ k, k < w.heap.size + 2 → some k ≠ v.ownBlock → w'.heap[k]? = ((w.alloc o).alloc (.cells cs 61)).heap[k]?) := by
  go_enter Try.func9, Try.ntmps9
  go_wp2_with fail
  refine (newNode_any _ _).mono ?_
  rintro e w' ⟨rfl, cs, rfl, hcs, hp⟩
  go_wp2_with (at_builtin; refine app_row rfl (.tmp 9) (.tmp 13) 42 44 (.pointer none) 1 8 Try.underlying42 ptr_info rfl (by decide) (by decide) rfl B v n (ptrs A n) rfl (World.ownsRow.alloc (World.ownsRow.alloc hown _) _) #[.pointer (some ⟨w.heap.size + 1, 0, none⟩)] rfl ?c1 (by show Value.slice (some ⟨w.heap.size + 1 + 1, 0, none⟩) 1 1 = _; simp) hn ?c2 ?c3)
  case c1 => rfl
  case c2 => simp; omega
  case c3 =>
    intro v' w' h1 h2 h3 h4
    go_wp2_with fail
    go_ret
    refine ⟨v', _, cs, rfl, ?_, h3, hcs, hp, fun k hk hne => h4 k (by omega) hne⟩
    rw [ptrs_grow]
    simpa using h1

end Go.Proofs.YtccofockeemmkaaRR
