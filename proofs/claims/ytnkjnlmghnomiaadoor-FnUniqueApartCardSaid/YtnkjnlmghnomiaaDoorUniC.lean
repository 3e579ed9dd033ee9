/- Ids: a new renderer walked. No condition. -/
import Derived.Test.YtnkjnlmghnomiaaDoorUniB
import Derived.Test.YtnkjnlmghnomiaaDoorPanE
import Derived.Deep.RegionHeld3
namespace Go.Proofs.YtnkjnlmghnomiaaDoor
open Go.ChangeShapes Go.WideShapes Go.ChangeAt Go.RowKit Go.Maps Go.WideMaps

/-- a new renderer: its map of ids is empty -/
def NewRSaid (w : World) (e : Ending) (w' : World) : Prop :=
  ∃ H m : Nat, e = .returned (.pointer (some ⟨H, 0, none⟩)) ∧ w.heap.size ≤ H ∧ w.heap.size ≤ m ∧ H ≠ m ∧ w'.cell? ⟨H, 11, none⟩ = some (.map (some m)) ∧ w'.heap[m]? = some (.map #[] 0) ∧ H < w'.heap.size ∧ Below w.heap.size w w'

/-- the cells of the parameters -/
structure Par (P : Nat) (rs : ByteArray) (w wx : World) : Prop where
  c0 : wx.cell? ⟨P, 0, none⟩ = some (.string ⟨#[]⟩)
  c1 : wx.cell? ⟨P, 1, none⟩ = some (.string ⟨#[]⟩)
  c2 : wx.cell? ⟨P, 2, none⟩ = some (.string rs)
  c3 : wx.cell? ⟨P, 3, none⟩ = some (.string ⟨#[]⟩)
  c4 : wx.cell? ⟨P, 4, none⟩ = some (.string ⟨#[]⟩)
  c5 : wx.cell? ⟨P, 5, none⟩ = some (.int .i64 0)
  c6 : wx.cell? ⟨P, 6, none⟩ = some (.string ⟨#[]⟩)
  c7 : wx.cell? ⟨P, 7, none⟩ = some (.string ⟨#[]⟩)
  c8 : wx.cell? ⟨P, 8, none⟩ = some (.string ⟨#[]⟩)
  c9 : wx.cell? ⟨P, 9, none⟩ = some (.int .i64 0)
  below : Below P w wx
  size : P < wx.heap.size

theorem newSP_par (P : Nat) (rs : ByteArray) (flags : Int) (w : World) (h : w.cell? ⟨P, 0, none⟩ = some (.string ⟨#[]⟩) ∧ w.cell? ⟨P, 1, none⟩ = some (.string ⟨#[]⟩) ∧ w.cell? ⟨P, 2, none⟩ = some (.string rs) ∧ w.cell? ⟨P, 3, none⟩ = some (.string ⟨#[]⟩) ∧ w.cell? ⟨P, 4, none⟩ = some (.string ⟨#[]⟩) ∧ w.cell? ⟨P, 5, none⟩ = some (.int .i64 0) ∧ w.cell? ⟨P, 6, none⟩ = some (.string ⟨#[]⟩) ∧ w.cell? ⟨P, 7, none⟩ = some (.string ⟨#[]⟩) ∧ w.cell? ⟨P, 8, none⟩ = some (.string ⟨#[]⟩) ∧ w.cell? ⟨P, 9, none⟩ = some (.int .i64 0)) :
    Calls Tryd.prog 19 #[.int .i64 flags] w fun e w' => e = .returned (.pointer (some ⟨w.heap.size, 0, none⟩)) ∧ (w'.cell? ⟨P, 0, none⟩ = some (.string ⟨#[]⟩) ∧ w'.cell? ⟨P, 1, none⟩ = some (.string ⟨#[]⟩) ∧ w'.cell? ⟨P, 2, none⟩ = some (.string rs) ∧ w'.cell? ⟨P, 3, none⟩ = some (.string ⟨#[]⟩) ∧ w'.cell? ⟨P, 4, none⟩ = some (.string ⟨#[]⟩) ∧ w'.cell? ⟨P, 5, none⟩ = some (.int .i64 0) ∧ w'.cell? ⟨P, 6, none⟩ = some (.string ⟨#[]⟩) ∧ w'.cell? ⟨P, 7, none⟩ = some (.string ⟨#[]⟩) ∧ w'.cell? ⟨P, 8, none⟩ = some (.string ⟨#[]⟩) ∧ w'.cell? ⟨P, 9, none⟩ = some (.int .i64 0)) ∧ Below w.heap.size w w' :=
  (newSP_any flags w).mono fun e w' ⟨va, he, _, _, hb⟩ => by
    obtain ⟨c0, c1, c2, c3, c4, c5, c6, c7, c8, c9⟩ := h
    have hlt := World.block_lt_of_cell? w _ c0
    have kk : ∀ i, w'.cell? ⟨P, i, none⟩ = w.cell? ⟨P, i, none⟩ := fun i => hb.cell (p := ⟨P, i, none⟩) hlt
    exact ⟨he, ⟨(kk 0).trans c0, (kk 1).trans c1, (kk 2).trans c2, (kk 3).trans c3, (kk 4).trans c4, (kk 5).trans c5, (kk 6).trans c6, (kk 7).trans c7, (kk 8).trans c8, (kk 9).trans c9⟩, hb⟩

theorem Par.new (rs : ByteArray) (w : World) : Par w.heap.size rs w (w.alloc (.cells #[.string ⟨#[]⟩, .string ⟨#[]⟩, .string rs, .string ⟨#[]⟩, .string ⟨#[]⟩, .int .i64 0, .string ⟨#[]⟩, .string ⟨#[]⟩, .string ⟨#[]⟩, .int .i64 0] 58)) := by
  refine ⟨?_, ?_, ?_, ?_, ?_, ?_, ?_, ?_, ?_, ?_, (Below.refl _ _).alloc (Nat.le_refl _) _, by simp⟩ <;> simp

set_option maxHeartbeats 4000000 in
set_option maxRecDepth 100000 in
theorem newR_any (w : World) :
    Calls Tryd.prog 23 #[.agg #[.string ⟨#[]⟩, .string ⟨#[]⟩, .string ⟨#[]⟩, .string ⟨#[]⟩, .string ⟨#[]⟩, .int .i64 0, .string ⟨#[]⟩, .string ⟨#[]⟩, .string ⟨#[]⟩, .int .i64 0]] w (NewRSaid w) := by
  have hmm := @run_makeMap Tryd.prog
  obtain ⟨P, hP⟩ : ∃ P, P = w.heap.size := ⟨_, rfl⟩
  have HP := Lib.hid hP
  clear hP
  go_enter Tryd.func23, Tryd.ntmps23
  go_upto_if 10 with fail
  go_cut [1] (fun s wx => ∃ rs, s = .pointer (some ⟨P, 0, none⟩) ∧ Par P rs w wx)
  case first =>
    go_wp2_with fail
    go_meet
    exact ⟨_, by rw [HP.out], by rw [HP.out]; exact Par.new _ w⟩
  obtain ⟨rs, rfl, hpar⟩ := hcut
  obtain ⟨c0, c1, c2, c3, c4, c5, c6, c7, c8, c9, hb0, hz0⟩ := hpar
  have HB0 := Lib.hid hb0
  clear hb0
  go_wp2_with fail
  go_region_held3 (fun w' => w'.cell? ⟨P, 0, none⟩ = some (.string ⟨#[]⟩) ∧ w'.cell? ⟨P, 1, none⟩ = some (.string ⟨#[]⟩) ∧ w'.cell? ⟨P, 2, none⟩ = some (.string rs) ∧ w'.cell? ⟨P, 3, none⟩ = some (.string ⟨#[]⟩) ∧ w'.cell? ⟨P, 4, none⟩ = some (.string ⟨#[]⟩) ∧ w'.cell? ⟨P, 5, none⟩ = some (.int .i64 0) ∧ w'.cell? ⟨P, 6, none⟩ = some (.string ⟨#[]⟩) ∧ w'.cell? ⟨P, 7, none⟩ = some (.string ⟨#[]⟩) ∧ w'.cell? ⟨P, 8, none⟩ = some (.string ⟨#[]⟩) ∧ w'.cell? ⟨P, 9, none⟩ = some (.int .i64 0) ) (first | exact ⟨c0, c1, c2, c3, c4, c5, c6, c7, c8, c9⟩ | go_keep)
    (first | (go_at_call 19; refine (newSP_par P rs _ _ ?_).mono ?_; (refine ⟨?_, ?_, ?_, ?_, ?_, ?_, ?_, ?_, ?_, ?_⟩ <;> first | assumption | simp [*]); rintro e w1 ⟨rfl, ⟨k0, k1, k2, k3, k4, k5, k6, k7, k8, k9⟩, hb⟩))
  all_goals go_wp2_with fail
  all_goals go_ret
  all_goals clear c0 c1 c2 c3 c4 c5 c6 c7 c8 c9 k0 k1 k2 k3 k4 k5 k6 k7 k8 k9
  · have hb0 := HB0.out
    have hs := hb.size
    have h0 := HP.out
    obtain rfl := h0
    simp at hs
    refine ⟨w1.heap.size, wc.heap.size, rfl, by omega, by omega, by omega, by simp, ?_, by simp, ?_⟩
    · rw [Below.heap_alloc _ _ _ (by omega), hb.block wc.heap.size (by simp)]
      exact (MapKept.heap_alloc wc _).1
    · exact (((hb0.drew).alloc (by simp; omega) _).trans (hb.mono (by simp; omega))).alloc (by omega) _
  · have hb0 := HB0.out
    have hs := hb.size
    have h0 := HP.out
    obtain rfl := h0
    simp at hs
    refine ⟨w1.heap.size + 1, w1.heap.size, rfl, by omega, by omega, by omega, ?_, ?_, by simp, ?_⟩
    · have e : w1.heap.size + 1 = (w1.alloc (.map #[] 0)).heap.size := by simp
      rw [e]
      simp
    · rw [Below.heap_alloc _ _ _ (by simp)]
      exact (MapKept.heap_alloc w1 _).1
    · exact (((hb0.drew).trans (hb.mono (by simp; omega))).alloc (by omega) _).alloc (by simp; omega) _

end Go.Proofs.YtnkjnlmghnomiaaDoor
