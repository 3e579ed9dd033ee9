/- The statement Rows.FnTreeOrderSaid: for every input the law FnTreeOrder returns true and the input reads afterwards as before. No condition. -/
import Derived.Test.YtccofockeemmkaaRRTreeY
import Derived.WalkKit
import Derived.ProofKit
import Derived.OpenShut
import Derived.ShutString
import Derived.ChangeOld
import Derived.Below
import Derived.Deep.Slices
import Derived.Deep.Strs
namespace Go.Proofs.YtccofockeemmkaaRR.fnTreeOrder
open Go.ChangeShapes Go.WideShapes Go.ChangeAt Go.RowKit
open Go.ChangeMaps (open_string shut_string)
set_option linter.unusedVariables false

theorem own : ownKnob Try.prog.godebug = none := by kernel_rfl
theorem laidOut : laidOutB Try.prog = true := by kernel_rfl
theorem cellsT : Try.prog.cellsOf 30 = 3 := by kernel_rfl
theorem cellsI : Try.prog.cellsOf 2 = 1 := by kernel_rfl

theorem add_at (b o i : Nat) : (⟨b, o, none⟩ : Addr).add i = ⟨b, o + i, none⟩ := by
  unfold Addr.add
  split <;> simp_all

/-- the slice of steps that came in, as it lies in memory -/
theorem opened {H : Type} {enc : TypeId × Value → H} {W : World} {fuel : Nat} {a0 : Option Addr} {len cap : Nat} {x : DataW H × List MemPlace}
    (h : DataW.trod enc Try.prog W 0 (fun _ => true) true fuel 22 [.slice a0 len cap] = some x) : len ≤ maxLen ∧ ∃ S, Steps W a0 len S := by
  rcases Deep.open_slice Try.underlying22 h with ⟨hcs, _⟩ | ⟨a, l, c, m, n, D, Pl, hcs, _, hl, hm, hmm, _, hx⟩
  · simp only [List.cons.injEq, Value.slice.injEq, and_true] at hcs
    obtain ⟨rfl, rfl, rfl⟩ := hcs
    exact ⟨Nat.zero_le _, fun _ => (0, 0, 0), ⟨fun h => absurd h (Nat.lt_irrefl 0)⟩⟩
  · simp only [List.cons.injEq, Value.slice.injEq, and_true] at hcs
    obtain ⟨rfl, rfl, rfl⟩ := hcs
    refine ⟨Nat.le_trans hl hm, ?_⟩
    have hmc : m = cap := by rw [hmm]; simp
    rw [cellsT] at hx
    have each : ∀ i, i < len → ∃ s : Int × Int × Int, W.cell? (a.add (i * 3)) = some (.int .i64 s.1) ∧ W.cell? ((a.add (i * 3)).add 1) = some (.int .i64 s.2.1) ∧ W.cell? ((a.add (i * 3)).add 2) = some (.int .i64 s.2.2) := by
      intro i hi
      obtain ⟨cs, h1, h2⟩ := hx i (by omega)
      obtain ⟨_, hlen, hcell⟩ := World.cells?_some h1
      obtain ⟨y0, y1, y2, k, _, _, g0, g1, g2⟩ := Deep.trod_struct3 Try.underlying30 h2
      match cs, hlen with
      | [v0, v1, v2], _ =>
        simp only [cellsI, List.drop_zero, List.drop_succ_cons, List.take_succ_cons, List.take_zero] at g0 g1 g2
        obtain ⟨z0, e0, _, _⟩ := DataW.trod_int Try.underlying2 g0
        obtain ⟨z1, e1, _, _⟩ := DataW.trod_int Try.underlying2 g1
        obtain ⟨z2, e2, _, _⟩ := DataW.trod_int Try.underlying2 g2
        have q0 := hcell 0 (by omega)
        have q1 := hcell 1 (by omega)
        have q2 := hcell 2 (by omega)
        simp only [List.cons.injEq, and_true] at e0 e1 e2
        subst e0 e1 e2
        exact ⟨(z0, z1, z2), by simpa [Addr.add] using q0, by simpa using q1, by simpa using q2⟩
    obtain ⟨S, hS⟩ := Deep.choose_lt each
    refine ⟨S, ⟨fun hn => ?_⟩⟩
    obtain ⟨b, off, spot⟩ := a
    have h0 := (hS 0 hn).1
    have hspot : spot = none := by simpa [Addr.add] using World.cell?_spot h0
    subst hspot
    refine ⟨b, off, rfl, World.block_lt_of_cell? W _ h0, fun i hi => ?_⟩
    have := hS i hi
    simp only [add_at] at this
    exact this

set_option maxRecDepth 100000 in
theorem lifted (os : Os) (started : os.Started) (H : Type) (enc : TypeId × Value → H) :
    ReturnsInHanded {} Try.checked os 3 .any (Rows.fnTreeOrderSpec.pre6 enc Try.prog Try.f3 Rows.fnTreeOrderRow.domain false) (Rows.fnTreeOrderSpec.post enc Try.prog Try.f3 false true false false) := by
  refine returnsInHanded_of_change (C := Try.checked) own started (by kernel_rfl) Try.func3
    (ChangeSpec.witness6 (enc := enc) (C := Try.checked) false ⟨#[], #[.slice none 0 0], []⟩ 8 (by kernel_rfl) (by kernel_rfl) (by kernel_rfl) (by kernel_rfl)) ?_
  intro W base args ds gs before hval0 hW hcnd _
  have hval : ∀ (j : Nat) t v, Try.f3.params[j]? = some t → args[j]? = some v → Value.okWide Try.prog W .any base t v := hval0
  have hW' := hW
  obtain ⟨p, q, hA0, hV, rfl, hfz, hnd⟩ := hW
  have hA : DataW.TrodAll enc Try.prog W 0 (fun _ => true) true Try.f3.params.toList args.toList ds p := hA0
  rw [Try.params3] at hA hval
  obtain ⟨v0, vs0, d0, ds0, p0, q0, hargs, rfl, rfl, h0, r0⟩ := trodAll_cons hA
  obtain ⟨rfl, rfl, rfl⟩ := trodAll_nil r0
  obtain rfl : args = #[v0] := by cases args; simp_all
  obtain ⟨rfl, rfl⟩ := trodVars_none hV
  obtain ⟨a0, len0, cap0, rfl⟩ := okWide_slice Try.underlying22 (hval 0 22 v0 rfl rfl)
  have k0 := h0
  have lt0 : ∀ x ∈ p0, x.block < W.heap.size := by obtain ⟨m, hm⟩ := k0; exact DataW.trod_lt m _ _ _ hm
  obtain ⟨hml, S, hS⟩ : len0 ≤ maxLen ∧ ∃ S, Steps W a0 len0 S := by
    obtain ⟨fuel, hf⟩ := h0
    exact opened hf
  clear hA0 hval0
  refine (order_any a0 len0 cap0 S W hS hml).mono fun e W' ⟨he, bel⟩ => ?_
  subst he
  exact ⟨_, rfl, _, _, _, [], _, [], hW', trodAll_mk1 (shut_bool Try.underlying4 _), (trodAll_cons_mk (Below.trod laidOut (by kernel_rfl) (of_decide_eq_true (by kernel_rfl)) k0 bel lt0) trodAll_mk0), rfl, bel.frame _, fun h => by cases h⟩

theorem over : Rows.fnTreeOrderRow.holds Try.pinned (OpenSpec.ofChange Rows.fnTreeOrderSpec) :=
  OpenClaim.holds_of_wide 3 Try.f3 rfl rfl rfl rfl rfl rfl rfl ⟨rfl, rfl, rfl, rfl, rfl⟩ rfl rfl rfl rfl rfl (by kernel_rfl) Try.func3 (by kernel_rfl)
    (of_decide_eq_true (by kernel_rfl)) (by unfold Func.isWrapper; first | (rw [if_pos (by decide +kernel)]; kernel_rfl) | (rw [if_neg (by decide +kernel)]; exact ⟨rfl, rfl⟩))
    (fun os started H enc _ => lifted os started H enc)

theorem proved : Rows.FnTreeOrderSaid := over
#print axioms proved
end Go.Proofs.YtccofockeemmkaaRR.fnTreeOrder
