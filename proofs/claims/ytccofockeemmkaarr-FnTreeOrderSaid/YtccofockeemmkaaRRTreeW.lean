/- Trees: laws.treeAwake walked: it returns true. No condition. -/
import Derived.Test.YtccofockeemmkaaRRTreeV
namespace Go.Proofs.YtccofockeemmkaaRR
open Go.ChangeShapes Go.WideShapes Go.ChangeAt Go.RowKit

def awS : Nat → Int × Int × Int := fun j => match j with | 0 => (0, 0, 0) | 1 => (0, 4, 0) | _ => (1, 0, 1)
def awT : Nat → Tr := fun j => match j with | 0 => tr0 | 1 => tr0 | 2 => tr0 | _ => app (unl tr0 1) 0 1
def awN : Nat → Nat := fun j => match j with | 0 => 0 | 1 => 1 | _ => 2
theorem aw_fine : ∀ j, j < 3 → Fine (awN j) (awT j) (awS j).1 (awS j).2.1 (awS j).2.2 (awN (j + 1)) (awT (j + 1)) := by
  intro j hj
  match j, hj with
  | 0, _ => exact Fine.make 0 0
  | 1, _ => exact Fine.make 4 0
  | 2, _ => exact Fine.append 0 1 (by decide) (by decide)
theorem aw_links : links (awT 3) (awN 3) = [.int .i64 (-1), .int .i64 1, .int .i64 1, .int .i64 (-1), .int .i64 (-1), .int .i64 0, .int .i64 (-1), .int .i64 (-1), .int .i64 (-1), .int .i64 (-1)] := rfl

theorem own_cellsN {w : World} {B : Nat} {e : TypeId} {sz : Nat} {v : Value} {n : Nat} {xs : List Value} (h : w.ownsRow B e sz v n xs) (hn : 0 < n) :
    ∃ g c, v = .slice (some ⟨g, 0, none⟩) n c ∧ n ≤ c ∧ c ≤ maxLen ∧ B ≤ g ∧ g < w.heap.size ∧ ∀ k x, xs[k]? = some x → w.cell? ⟨g, k, none⟩ = some x := by
  have h' := h
  rcases h.2 with ⟨_, h0⟩ | ⟨g, cap, cur, hv, hB, hg, hc1, hc2, _⟩
  · omega
  · subst hv
    refine ⟨g, cap, rfl, hc1, hc2, hB, blk_lt hg, fun k x hx => ?_⟩
    have hl : k < xs.length := by
      rcases Nat.lt_or_ge k xs.length with hl | hl
      · exact hl
      · rw [List.getElem?_eq_none hl] at hx; cases hx
    rw [World.ownsRow.cellAt h' k (by rw [← h'.1]; exact hl), hx]

set_option maxHeartbeats 4000000 in
theorem treeAwake_any (w : World) :
    Calls Try.prog 4 #[] w fun e w' => e = .returned (.bool true) ∧ Below w.heap.size w w' := by
  have HS : Steps (w.alloc (.cells #[.int .i64 0, .int .i64 0, .int .i64 0, .int .i64 0, .int .i64 4, .int .i64 0, .int .i64 1, .int .i64 0, .int .i64 1] 30)) (some ⟨w.heap.size, 0, none⟩) 3 awS := by
    refine ⟨fun _ => ⟨w.heap.size, 0, rfl, by simp, fun i hi => ?_⟩⟩
    match i, hi with
    | 0, _ => exact ⟨by simp [awS], by simp [awS], by simp [awS]⟩
    | 1, _ => exact ⟨by simp [awS], by simp [awS], by simp [awS]⟩
    | 2, _ => exact ⟨by simp [awS], by simp [awS], by simp [awS]⟩
  have HR := Lib.hid (treeRun_any _ 3 3 awS awN awT _ HS rfl rfl aw_fine (fun j _ => by unfold awN; split <;> omega) (by decide))
  clear HS
  go_enter Try.func4, Try.ntmps4
  go_wp2_with fail
  refine HR.out.mono ?_
  rintro e w1 ⟨v, rows, rfl, hO, hR, hB⟩
  clear HR
  obtain ⟨g, c, rfl, _, hcm, _, _, hcell⟩ := own_cellsN hO (by decide)
  obtain ⟨r, hr⟩ : ∃ r, rows[2]? = some r := ⟨_, List.getElem?_eq_getElem (by rw [hR.1]; decide)⟩
  have k2 := hcell 2 r hr
  have hL := hR.2 2 r hr
  rw [aw_links] at hL
  obtain ⟨g2, c2, rfl, _, hcm2, _, _, hcell2⟩ := own_cellsN hL (by decide)
  have q0 : w1.cell? ⟨g2, 0, none⟩ = some (.int .i64 (-1)) := hcell2 0 _ rfl
  have q1 : w1.cell? ⟨g2, 1, none⟩ = some (.int .i64 1) := hcell2 1 _ rfl
  have q2 : w1.cell? ⟨g2, 2, none⟩ = some (.int .i64 1) := hcell2 2 _ rfl
  have q3 : w1.cell? ⟨g2, 3, none⟩ = some (.int .i64 (-1)) := hcell2 3 _ rfl
  have q4 : w1.cell? ⟨g2, 4, none⟩ = some (.int .i64 (-1)) := hcell2 4 _ rfl
  have q5 : w1.cell? ⟨g2, 5, none⟩ = some (.int .i64 0) := hcell2 5 _ rfl
  have hB := Lib.hid hB
  have e2 : awN 3 = 2 := rfl
  simp only [show 2 + 1 = 3 from rfl, e2] at k2
  clear hO hR hcell hr hL hcell2
  go_wp2_with fail
  go_ret
  exact ⟨rfl, ((Below.refl w.heap.size w).alloc (Nat.le_refl _) _).trans (hB.out.mono (by simp))⟩

end Go.Proofs.YtccofockeemmkaaRR
