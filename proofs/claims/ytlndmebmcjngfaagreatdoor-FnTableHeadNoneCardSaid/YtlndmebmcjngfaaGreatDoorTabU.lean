/- Tables: two rows of bytes of the call's own that grow in one region that draws. No program in sight but its types. -/
import Derived.Test.YtlndmebmcjngfaaGreatDoorOwn
import Derived.Maps.AppendAt
import Derived.Deep.RegionHeldLaw
import Derived.Deep.AppendLies
namespace Go.Proofs.YtlndmebmcjngfaaGreatDoor
open Go.ChangeShapes Go.WideShapes Go.ChangeAt Go.RowKit

/-- a new table line -/
abbrev zLine : Obj := .cells #[.slice none 0 0, .slice none 0 0, .slice none 0 0, .bool false, .bool false] 25 (0, 0)
/-- two rows of the call's own, in blocks that differ; what was below B is as it was; t: a new table line's block, if it is there -/
structure Two (t : Option Nat) (B : Nat) (W0 W : World) (u : Value) (lu : List UInt8) (v : Value) (lv : List UInt8) : Prop where
  below : Below B W0 W
  ou : Owns W B u lu
  ov : Owns W B v lv
  ne : ∀ g, u.ownBlock = some g → v.ownBlock ≠ some g
  size : B ≤ W.heap.size
  tr : ∀ x, t = some x → W.heap[x]? = some zLine ∧ u.ownBlock ≠ some x ∧ v.ownBlock ≠ some x ∧ B ≤ x
theorem Two.swap {t : Option Nat} {B : Nat} {W0 W : World} {u v : Value} {lu lv : List UInt8} (h : Two t B W0 W u lu v lv) : Two t B W0 W v lv u lu :=
  ⟨h.below, h.ov, h.ou, fun g h1 h2 => h.ne g h2 h1, h.size, fun x hx => ⟨(h.tr x hx).1, (h.tr x hx).2.2.1, (h.tr x hx).2.1, (h.tr x hx).2.2.2⟩⟩
theorem Two.track {B : Nat} {W0 W : World} {u v : Value} {lu lv : List UInt8} (h : Two none B W0 W u lu v lv) : Two (some W.heap.size) B W0 (W.alloc zLine) u lu v lv := by
  have hb : Below W.heap.size W (W.alloc zLine) := (Below.refl _ _).alloc (Nat.le_refl _) _
  refine ⟨h.below.trans (hb.mono h.size), h.ou.kept fun k hk => hb.block k hk, h.ov.kept fun k hk => hb.block k hk, h.ne, Nat.le_trans h.size hb.size, fun x hx => ?_⟩
  cases hx
  refine ⟨?_, fun e => ?_, fun e => ?_, h.size⟩
  · show (W.heap.push _)[W.heap.size]? = _
    simp
  · exact absurd (World.ownsRow.lt h.ou _ e).2 (Nat.lt_irrefl _)
  · exact absurd (World.ownsRow.lt h.ov _ e).2 (Nat.lt_irrefl _)
theorem Two.zeros {x B : Nat} {W0 W : World} {u v : Value} {lu lv : List UInt8} (h : Two (some x) B W0 W u lu v lv) :
    W.cell? ⟨x, 0, none⟩ = some (.slice none 0 0) ∧ W.cell? ⟨x, 1, none⟩ = some (.slice none 0 0) ∧ W.cell? ⟨x, 2, none⟩ = some (.slice none 0 0) ∧ W.cell? ⟨x, 3, none⟩ = some (.bool false) ∧ W.cell? ⟨x, 4, none⟩ = some (.bool false) ∧
    W.frozen? ⟨x, 0, none⟩ = false ∧ W.frozen? ⟨x, 1, none⟩ = false ∧ W.frozen? ⟨x, 2, none⟩ = false ∧ W.frozen? ⟨x, 3, none⟩ = false ∧ W.frozen? ⟨x, 4, none⟩ = false := by
  have := (h.tr x rfl).1
  refine ⟨?_, ?_, ?_, ?_, ?_, ?_, ?_, ?_, ?_, ?_⟩ <;> simp [World.cell?, World.frozen?, this]

theorem step_two {ops : Array Oper} {o : Oper} {a : Act} {K : Act → World → Prop} {Q : Exit → Act → World → Prop} {E : Prop} (hgd : o.guard = none) (s x : Operand)
    (ho : o.op = .call { callee := .builtin .append, args := #[s, x], argTypes := #[23, 23] }) (t : Option Nat) (B : Nat) (W0 W : World) (u : Value) (lu : List UInt8) (v : Value) (lv : List UInt8) (h2 : Two t B W0 W u lu v lv) (hs : a.eval s = u)
    (b off m c : Nat) (lx : List UInt8) (hx : a.eval x = .slice (some ⟨b, off, none⟩) m c) (hB : Bs W0 (some ⟨b, off, none⟩) m lx) (hbB : b < B) (hn : lu.length ≤ 100000) (hm : m ≤ 100000)
    (h : ∀ u' w', Two t B W0 w' u' (lu ++ lx) v lv → K (a.put o.dst u') w') :
    if Region.wanted o (yielded ops a.tmps) = true then Oper.wp Tryz.prog o a W K Q else E := by
  have hw : Region.wanted o (yielded ops a.tmps) = true := by simp [Region.wanted, hgd]
  rw [if_pos hw]
  obtain ⟨i0, hi, hz0, hz1, hz2⟩ := info_parts Tryz.info5
  have hlx := hB.len
  obtain ⟨v', w', hr, g2, g3, _, g5⟩ := run_append_own_at (P := Tryz.prog) W B 23 o.type 5 i0 (.int .u8 0) 1 1 Tryz.underlying23 hi hz0 hz1 hz2 rfl (by decide) u lu.length (vals lu) h2.ou ⟨b, off, none⟩ m c (vals lx) (by rw [vals_length, hlx, Nat.mul_one])
    (fun j y hj => by
      have hjl : j < lx.length := by have := (List.getElem?_eq_some_iff.1 hj).1; rwa [vals_length] at this
      rw [vals_get lx j hjl] at hj
      obtain ⟨b', o', e', _, hc⟩ := hB.cells (by omega)
      cases e'
      rw [Addr.add_lit, h2.below.cell (p := ⟨b, off + j, none⟩) hbB, ← hj]
      exact hc j (by omega)) (vals_one lx) (by unfold maxLen; omega) (by omega) h2.size
  unfold Oper.wp execOp
  simp only [ho, resolve, invoke, builtin, Sem.run_bind, Sem.run_pure, Result.andThen_ok, List.map_toArray, List.map_cons, List.map_nil, hs, hx, hr]
  refine h v' w' ⟨h2.below.grown g3 h2.size (fun k hk => (World.ownsRow.lt h2.ou k hk).1), ?_, World.ownsRow.kept h2.ov g3 ?_, fun g e1 e2 => ?_, Nat.le_trans h2.size g3.size, fun y hy => ?_⟩
  · unfold Owns
    rw [vals_append, List.length_append, hlx]
    exact g2
  · cases hv : v.ownBlock with
    | none => exact Or.inl rfl
    | some g => exact Or.inr (fun e => h2.ne g e.symm hv)
  · rcases g5 with g5 | g5
    · exact h2.ne g (by rw [← g5]; exact e1) e2
    · rw [g5] at e1
      have := (World.ownsRow.lt h2.ov g e2).2
      cases e1
      omega
  · obtain ⟨h1, h3, h4, h5⟩ := h2.tr y hy
    have hyl : y < W.heap.size := (Array.getElem?_eq_some_iff.1 h1).1
    refine ⟨(g3.block y hyl (fun e => h3 e.symm)).trans h1, fun e => ?_, h4, h5⟩
    rcases g5 with g5 | g5
    · exact h3 (by rw [← g5]; exact e)
    · rw [g5] at e
      cases e
      omega
theorem step_two_r {ops : Array Oper} {o : Oper} {a : Act} {K : Act → World → Prop} {Q : Exit → Act → World → Prop} {E : Prop} (hgd : o.guard = none) (s x : Operand)
    (ho : o.op = .call { callee := .builtin .append, args := #[s, x], argTypes := #[23, 23] }) (t : Option Nat) (B : Nat) (W0 W : World) (u : Value) (lu : List UInt8) (v : Value) (lv : List UInt8) (h2 : Two t B W0 W u lu v lv) (hs : a.eval s = v)
    (b off m c : Nat) (lx : List UInt8) (hx : a.eval x = .slice (some ⟨b, off, none⟩) m c) (hB : Bs W0 (some ⟨b, off, none⟩) m lx) (hbB : b < B) (hn : lv.length ≤ 100000) (hm : m ≤ 100000)
    (h : ∀ v' w', Two t B W0 w' u lu v' (lv ++ lx) → K (a.put o.dst v') w') :
    if Region.wanted o (yielded ops a.tmps) = true then Oper.wp Tryz.prog o a W K Q else E :=
  step_two hgd s x ho t B W0 W v lv u lu h2.swap hs b off m c lx hx hB hbB hn hm fun v' w' h3 => h v' w' h3.swap

theorem slice_to (b o n c k : Nat) (hk : k ≤ c) (w : World) : (Instr.slice 23 (.slice (some ⟨b, o, none⟩) n c) none (some (.int .i64 (k : Int))) none).run Tryz.prog w = .ok (.slice (some ⟨b, o, none⟩) k c) w := by
  have hz : ∀ w, (Go.sizeOf 5).run Tryz.prog w = .ok 1 w := fun _ => by kernel_rfl
  have ht' : Tryz.prog.underlying 23 = some (.slice (Tryz.prog.elem 23)) := by simp [Program.elem, Tryz.underlying23]
  have he : Tryz.prog.elem 23 = 5 := by simp [Program.elem, Tryz.underlying23]
  rw [run_slice_h w 23 _ _ _ ht' .i64 _ (by omega) (by omega), he, hz]
  simp [Result.andThen, sliced, Addr.add]
theorem slice_from (b o n c k : Nat) (hk : k ≤ n) (hn : n ≤ c) (w : World) : (Instr.slice 23 (.slice (some ⟨b, o, none⟩) n c) (some (.int .i64 (k : Int))) none none).run Tryz.prog w = .ok (.slice (some ⟨b, if c = k then o else o + k, none⟩) (n - k) (c - k)) w := by
  have hz : ∀ w, (Go.sizeOf 5).run Tryz.prog w = .ok 1 w := fun _ => by kernel_rfl
  have ht' : Tryz.prog.underlying 23 = some (.slice (Tryz.prog.elem 23)) := by simp [Program.elem, Tryz.underlying23]
  have he : Tryz.prog.elem 23 = 5 := by simp [Program.elem, Tryz.underlying23]
  rw [run_slice_l w 23 _ _ _ ht' .i64 _ (by omega) (by omega), he, hz]
  by_cases h0 : c = k
  · simp [Result.andThen, sliced, h0]
  · by_cases h1 : k = 0
    · subst h1; simp [Result.andThen, sliced, Addr.add, h0]
    · simp [Result.andThen, sliced, Addr.add, h0, h1]

end Go.Proofs.YtlndmebmcjngfaaGreatDoor
