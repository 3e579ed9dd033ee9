/- Tables: tableHeader walked. Condition: lengths are bounded. -/
import Derived.Test.YtlndmebmcjngfaaGreatDoorTabM
import Derived.Test.YtlndmebmcjngfaaGreatDoorTabN
namespace Go.Proofs.YtlndmebmcjngfaaGreatDoor
open Go.ChangeShapes Go.WideShapes Go.ChangeAt Go.RowKit

theorem bat_in {l : List UInt8} {i : Nat} (h : bat l i ≠ 0) : i < l.length := by
  rcases Nat.lt_or_ge i l.length with h1 | h1
  · exact h1
  · exact absurd (by unfold bat; simp [h1]) h
theorem bat_is {l : List UInt8} {i : Nat} {c : Int} (h : bat l i = c) (hc : c ≠ 0) : i < l.length := bat_in (by rw [h]; exact hc)

/-- what a walk over a column meets -/
structure ColF (l : List UInt8) (q a d z : Nat) : Prop where
  lt : q < l.length
  first : (bat l q == 58) = decide (a = 1)
  a1 : a ≤ 1
  z1 : z ≤ 1
  ne : (bat l q != 10) = true
  mid : ∀ j, j < d → q + a + j < l.length ∧ (bat l (q + a + j) == 45) = true
  lt1 : q + a + d < l.length
  stop : (bat l (q + a + d) == 45) = false
  last : (bat l (q + a + d) == 58) = decide (z = 1)
theorem col_facts {l : List UInt8} {en : Bool} {c : Col} {r : List Col} {q : Nat} (h : Chain l en (c :: r) q) (h1 : 1 ≤ c.2) :
    ColF l q (ca c) c.2 (cz c) ∧ ((r = [] ∧ en = false ∧ bat l (q + cw c) = 10) ∨ (bat l (q + cw c) = 32 ∧ bat l (q + cw c + 1) = 124 ∧ Chain l en r (q + cw c + 2))) := by
  obtain ⟨⟨f1, f2, f3⟩, hE⟩ := h
  have ha : ca c = 0 ∨ ca c = 1 := by unfold ca; split <;> simp
  have hz : cz c = 0 ∨ cz c = 1 := by unfold cz; split <;> simp
  have hp : bat l (q + cw c) = 10 ∨ bat l (q + cw c) = 32 := by
    rcases hE with ⟨_, _, e⟩ | ⟨_, e, _, _⟩
    · exact Or.inl e
    · exact Or.inr e
  have hw : q + ca c + c.2 = q + cw c - cz c := by unfold cw; omega
  have hw2 : cz c = 0 → q + ca c + c.2 = q + cw c := fun e => by omega
  have hm0 := f2 0 (by omega)
  rw [Nat.add_zero] at hm0
  have hend : (cz c = 1 ∧ bat l (q + ca c + c.2) = 58) ∨ (cz c = 0 ∧ (bat l (q + ca c + c.2) = 10 ∨ bat l (q + ca c + c.2) = 32)) := by
    rcases hz with e | e
    · exact Or.inr ⟨e, by rw [hw2 e]; exact hp⟩
    · exact Or.inl ⟨e, f3 e⟩
  have hst : (ca c = 1 ∧ bat l q = 58) ∨ (ca c = 0 ∧ bat l q = 45) := by
    rcases ha with e | e
    · rw [e, Nat.add_zero] at hm0
      exact Or.inr ⟨e, hm0⟩
    · exact Or.inl ⟨e, f1 e⟩
  refine ⟨⟨?_, ?_, by omega, by omega, ?_, fun j hj => ?_, ?_, ?_, ?_⟩, ?_⟩
  · rcases hst with ⟨_, e⟩ | ⟨_, e⟩
    · exact bat_is e (by decide)
    · exact bat_is e (by decide)
  · rcases hst with ⟨e1, e⟩ | ⟨e1, e⟩ <;> rw [e, e1] <;> rfl
  · rcases hst with ⟨e1, e⟩ | ⟨e1, e⟩ <;> rw [e] <;> rfl
  · have := f2 j hj
    exact ⟨bat_is this (by decide), by rw [this]; rfl⟩
  · rcases hend with ⟨_, e⟩ | ⟨_, e | e⟩
    · exact bat_is e (by decide)
    · exact bat_is e (by decide)
    · exact bat_is e (by decide)
  · rcases hend with ⟨_, e⟩ | ⟨_, e | e⟩ <;> rw [e] <;> rfl
  · rcases hend with ⟨e1, e⟩ | ⟨e1, e | e⟩ <;> rw [e, e1] <;> rfl
  · rcases hE with ⟨e1, e2, e3⟩ | ⟨_, e1, e2, e3⟩
    · exact Or.inl ⟨e1, e2, e3⟩
    · exact Or.inr ⟨e1, e2, e3⟩
/-- what a chain begins with -/
theorem chain_head {l : List UInt8} {en : Bool} : ∀ {r : List Col} {q : Nat}, Chain l en r q → (∀ c ∈ r, 1 ≤ c.2) → q < l.length ∧ (bat l q == 32) = false ∧ (bat l q == 124) = false
  | [], q, h, _ => by
    have h : bat l q = 10 := h
    exact ⟨bat_is h (by decide), by rw [h]; rfl, by rw [h]; rfl⟩
  | c :: r, q, h, hc => by
    obtain ⟨f, _⟩ := col_facts h (hc c (List.mem_cons_self ..))
    refine ⟨f.lt, ?_, ?_⟩
    all_goals
      obtain ⟨⟨f1, f2, f3⟩, _⟩ := h
      have ha : ca c = 0 ∨ ca c = 1 := by unfold ca; split <;> simp
      have := hc c (List.mem_cons_self ..)
      rcases ha with e | e
      · have hm := f2 0 (by omega)
        rw [e] at hm
        have hm : bat l q = 45 := hm
        rw [hm]; rfl
      · rw [f1 e]; rfl

theorem skipNone_any (p : Option Addr) (n c q : Nat) (l : List UInt8) (w : World) (h : Bs w p n l) (hq : q < n) (hb : (bat l q == 32) = false) (hn : n ≤ 1000000) :
    Calls Tryz.prog 29 #[.slice p n c, .int .i64 q, .int .u8 32] w fun e w' => e = .returned (.int .i64 q) ∧ w = w' := by
  obtain ⟨b, o, rfl, hlt, hcell⟩ := h.cells (by omega)
  have cq := hcell q hq
  clear hcell h
  go_enter Tryz.func29, Tryz.ntmps29
  go_wp2_with fail
  go_loop [7] (fun t => t = .int .i64 q) (fun _ => 0)
  case atStart => rfl
  case round =>
    subst hrel
    go_wp2_with fail
    go_ret
    exact ⟨rfl, rfl⟩

theorem Tryz.infoC49 : (Tryz.prog.info? 49).map (fun i => (i.zero, i.size, i.bytes)) = some (some (.int .i64 0), 1, 8) := by kernel_rfl
theorem make_nums (N : Nat) (hN : N ≤ 1000) (w : World) : (Instr.makeSlice 43 (.int .i64 (N : Int)) (.int .i64 (N : Int))).run Tryz.prog w = .ok (.slice (some ⟨w.heap.size, 0, none⟩) N N) (w.alloc (.cells (madeCells #[.int .i64 0] N) 49)) := by
  obtain ⟨i0, hi, hz0, hz1, hz2⟩ := info_parts Tryz.infoC49
  have hr := run_make (P := Tryz.prog) w 43 49 i0 (.int .i64 0) Tryz.underlying43 hi hz0 .i64 .i64 N N (by omega) (by omega) (by rw [hz2]; omega) (by omega)
  rw [hz1, show (Value.int .i64 0).cells = #[.int .i64 0] from rfl] at hr
  simpa using hr
theorem Nums.made (N : Nat) (w : World) : Nums (w.alloc (.cells (madeCells #[.int .i64 0] N) 49)) w.heap.size N := by
  refine ⟨fun i hi => ⟨0, ?_⟩, fun i => by simp, by simp⟩
  rw [World.cell?_alloc_new]
  rw [← Array.getElem?_toList, toList_madeCells_one]
  simp [hi]
theorem Nums.set {w : World} {b N : Nat} (h : Nums w b N) (i : Nat) (v : Int) : Nums (w.setCell ⟨b, i, none⟩ (.int .i64 v)) b N := by
  refine ⟨fun j hj => ?_, fun j => by simpa using h.froz j, by simpa using h.lt⟩
  obtain ⟨u, hu⟩ := h.cells j hj
  by_cases e : i = j
  · subst e
    exact ⟨v, World.cell?_setCell_same _ _ _ hu⟩
  · exact ⟨u, (setOther w b i j _ e).trans hu⟩

end Go.Proofs.YtlndmebmcjngfaaGreatDoor
