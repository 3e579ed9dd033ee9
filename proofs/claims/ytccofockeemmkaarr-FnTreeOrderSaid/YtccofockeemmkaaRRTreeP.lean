/- Forests in memory, and (*spec.TreeForest).Under walked. Condition: the forest is one. -/
import Derived.Test.YtccofockeemmkaaRRTreeO
namespace Go.Proofs.YtccofockeemmkaaRR
open Go.ChangeShapes Go.WideShapes Go.ChangeAt Go.RowKit

/-- a forest as it lies in memory: block fb is the struct, upv and dnv its two slices, rv i the row of children of node i; of node o nothing is said -/
structure Forest (w : World) (B fb n o : Nat) (up : Nat → Option Nat) (dn : Nat → List Nat) (upv dnv : Value) (rv : Nat → Value) : Prop where
  base : B ≤ w.heap.size
  fbB : B ≤ fb
  blk : w.heap[fb]? = some (.cells #[upv, dnv] 28 (0, 0))
  upr : w.ownsRow B 3 1 upv n ((List.range n).map fun i => .int .i64 (num1 (up i)))
  dnr : w.ownsRow B 25 1 dnv n ((List.range n).map rv)
  rows : ∀ i, i < n → i ≠ o → w.ownsRow B 3 1 (rv i) (dn i).length ((dn i).map fun k : Nat => .int .i64 (k : Int))
  ap1 : ∀ i g, i < n → i ≠ o → (rv i).ownBlock = some g → upv.ownBlock ≠ some g
  ap2 : ∀ i j g, i < n → j < n → i ≠ o → j ≠ o → (rv i).ownBlock = some g → (rv j).ownBlock = some g → i = j

theorem num1_wf (o : Option Nat) : -1 ≤ num1 o := by
  cases o with
  | none => exact Int.le_refl _
  | some j => exact Int.le_trans (by decide) (Int.natCast_nonneg j)

section
variable {w : World} {B fb n o : Nat} {up : Nat → Option Nat} {dn : Nat → List Nat} {upv dnv : Value} {rv : Nat → Value}
theorem Forest.cu (h : Forest w B fb n o up dn upv dnv rv) : w.cell? ⟨fb, 0, none⟩ = some upv := by
  rw [cell_of_row w fb 0 _ _ _ h.blk]; rfl
theorem Forest.cd (h : Forest w B fb n o up dn upv dnv rv) : w.cell? ⟨fb, 1, none⟩ = some dnv := by
  rw [cell_of_row w fb 1 _ _ _ h.blk]; rfl
theorem own_cells {w : World} {B : Nat} {e : TypeId} {v : Value} {n : Nat} {xs : List Value} (h : w.ownsRow B e 1 v n xs) (hn : 0 < n) :
    ∃ g c, v = .slice (some ⟨g, 0, none⟩) n c ∧ n ≤ c ∧ c ≤ maxLen ∧ B ≤ g ∧ g < w.heap.size ∧ (∀ k, w.frozen? ⟨g, k, none⟩ = false) ∧ ∀ k x, xs[k]? = some x → w.cell? ⟨g, k, none⟩ = some x := by
  have h' := h
  rcases h.2 with ⟨_, h0⟩ | ⟨g, cap, cur, hv, hB, hg, hc1, hc2, _⟩
  · omega
  · subst hv
    refine ⟨g, cap, rfl, hc1, hc2, hB, blk_lt hg, fun k => World.ownsRow.frozenAt h' k, fun k x hx => ?_⟩
    have hl : k < xs.length := by
      rcases Nat.lt_or_ge k xs.length with hl | hl
      · exact hl
      · rw [List.getElem?_eq_none hl] at hx; cases hx
    rw [World.ownsRow.cellAt h' k (by rw [← h'.1]; exact hl), hx]
theorem Forest.us (h : Forest w B fb n o up dn upv dnv rv) (hn : 0 < n) :
    ∃ g c, upv = .slice (some ⟨g, 0, none⟩) n c ∧ n ≤ c ∧ c ≤ maxLen ∧ B ≤ g ∧ g < w.heap.size ∧ (∀ k, w.frozen? ⟨g, k, none⟩ = false) ∧ ∀ i, i < n → w.cell? ⟨g, i, none⟩ = some (.int .i64 (num1 (up i))) := by
  obtain ⟨g, c, h1, h2, h3, h4, h5, h6, h7⟩ := own_cells h.upr hn
  exact ⟨g, c, h1, h2, h3, h4, h5, h6, fun i hi => h7 i _ (by simp [hi])⟩
theorem Forest.ds (h : Forest w B fb n o up dn upv dnv rv) (hn : 0 < n) :
    ∃ g c, dnv = .slice (some ⟨g, 0, none⟩) n c ∧ n ≤ c ∧ c ≤ maxLen ∧ B ≤ g ∧ g < w.heap.size ∧ (∀ k, w.frozen? ⟨g, k, none⟩ = false) ∧ ∀ i, i < n → w.cell? ⟨g, i, none⟩ = some (rv i) := by
  obtain ⟨g, c, h1, h2, h3, h4, h5, h6, h7⟩ := own_cells h.dnr hn
  exact ⟨g, c, h1, h2, h3, h4, h5, h6, fun i hi => h7 i _ (by simp [hi])⟩

set_option maxHeartbeats 4000000 in
theorem under_any (a b : Nat) (h : Forest w B fb n o up dn upv dnv rv) (hp : Fp n up dn) (ha : a < n) (hn : n ≤ 1000000) (hb : b ≤ 1000000) :
    Calls Try.prog 7 #[.pointer (some ⟨fb, 0, none⟩), .int .i64 (a : Int), .int .i64 (b : Int)] w fun e w' => ∃ r, e = .returned (.bool r) ∧ (r = true ↔ Anc up b a) ∧ w = w' := by
  obtain ⟨d, hd⟩ := hp.rk
  have c0 := h.cu
  obtain ⟨g, c, rfl, hc1, hc2, _, _, _, hc⟩ := h.us (by omega)
  have HP := Lib.hid hp.ub
  have HD := Lib.hid hd
  have HC := Lib.hid hc
  clear h hp hd hc
  go_enter Try.func7, Try.ntmps7
  go_wp2_with fail
  go_loopg [1] (d a + 1) (fun gf s wx => ∃ o : Option Nat, s = .int .i64 (num1 o) ∧ (∀ x, o = some x → x < n ∧ d x < gf) ∧ (Anc up b a ↔ ∃ x, o = some x ∧ Anc up b x) ∧ wx = w)
  case atStart => exact ⟨some a, rfl, (fun x hx => by injection hx with hx; subst hx; omega), ⟨fun k => ⟨a, rfl, k⟩, (fun ⟨x, hx, k⟩ => by injection hx with hx; rw [hx]; exact k)⟩, rfl⟩
  case round =>
    obtain ⟨o, rfl, hx, hA, rfl⟩ := hrel
    have HA := Lib.hid hA
    clear hA
    cases o with
    | none =>
      have e : num1 none = -1 := rfl
      rw [e]
      clear hx
      go_wp2_with fail
      go_ret
      refine ⟨false, rfl, ?_, rfl⟩
      rw [HA.out]
      exact ⟨(fun h => by cases h), (fun ⟨x, h, _⟩ => by cases h)⟩
    | some x =>
      obtain ⟨hxn, hxd⟩ := hx x rfl
      have e : num1 (some x) = (x : Int) := rfl
      rw [e]
      clear hx
      by_cases hxb : x = b
      · subst hxb
        go_wp2_with fail
        go_ret
        refine ⟨true, rfl, ?_, rfl⟩
        rw [HA.out]
        exact ⟨fun _ => ⟨x, rfl, Anc.refl⟩, fun _ => rfl⟩
      · have cx := HC.out x hxn
        go_wp2_with fail
        go_roundg (d x)
        case measure => exact hxd
        case rel =>
          refine ⟨up x, rfl, fun y hy => ⟨(HP.out x y hy).2, HD.out x y hy⟩, ?_, rfl⟩
          rw [HA.out]
          constructor
          · rintro ⟨y, hy, k⟩
            injection hy with hy
            subst hy
            rcases k.out with e | ⟨z, hz, kz⟩
            · exact absurd e hxb
            · exact ⟨z, hz, kz⟩
          · rintro ⟨z, hz, kz⟩
            exact ⟨x, rfl, Anc.step hz kz⟩
end

end Go.Proofs.YtccofockeemmkaaRR
