/- bytes.Buffer: what a buffer's block holds; tryGrowByReslice, Len walked. Condition: lengths are bounded. -/
import Derived.Test.YtnkjnlmghnomiaaDoorConv
import Derived.Laws.IdiomCopy
import Derived.Lib.BufferOwn
import Derived.Deep.QuietTactic
import Derived.Deep.DeepCutAuto
import Derived.Deep.CutBlock
import Derived.Deep.RegionHeld3
namespace Go.Proofs.YtnkjnlmghnomiaaDoor
open Go.ChangeShapes Go.WideShapes Go.ChangeAt Go.RowKit

/-- block b is a buffer that has only been written; v its row -/
def Bf (w : World) (b : Nat) (v : Value) : Prop := ∃ lr : Int, w.heap[b]? = some (.cells #[v, .int .i64 0, .int .i8 lr] 47 (0, 0))
theorem Bf.lt {w : World} {b : Nat} {v : Value} (h : Bf w b v) : b < w.heap.size := by
  obtain ⟨lr, h⟩ := h
  exact (Array.getElem?_eq_some_iff.1 h).1
theorem Bf.c0 {w : World} {b : Nat} {v : Value} (h : Bf w b v) : w.cell? ⟨b, 0, none⟩ = some v := by
  obtain ⟨lr, h⟩ := h
  simp [World.cell?, h]
theorem Bf.c1 {w : World} {b : Nat} {v : Value} (h : Bf w b v) : w.cell? ⟨b, 1, none⟩ = some (.int .i64 0) := by
  obtain ⟨lr, h⟩ := h
  simp [World.cell?, h]
theorem Bf.c2 {w : World} {b : Nat} {v : Value} (h : Bf w b v) : ∃ u, w.cell? ⟨b, 2, none⟩ = some u := by
  obtain ⟨lr, h⟩ := h
  exact ⟨.int .i8 lr, by simp [World.cell?, h]⟩
theorem Bf.froz {w : World} {b : Nat} {v : Value} (h : Bf w b v) (i : Nat) : w.frozen? ⟨b, i, none⟩ = false := by
  obtain ⟨lr, h⟩ := h
  simp [World.frozen?, h]
theorem Bf.of_block {w w' : World} {b : Nat} {v : Value} (h : Bf w b v) (hb : w'.heap[b]? = w.heap[b]?) : Bf w' b v := by
  obtain ⟨lr, h⟩ := h
  exact ⟨lr, hb.trans h⟩
theorem setHere (w : World) (b i : Nat) (v : Value) (cs : Array Value) (t : TypeId) (m : Nat × Nat) (h : w.heap[b]? = some (.cells cs t m)) : (w.setCell ⟨b, i, none⟩ v).heap[b]? = some (.cells (cs.setIfInBounds i v) t m) := by
  simp only [World.setCell, Array.getElem?_modify, if_pos rfl, h, Option.map_some]
  rfl
theorem Bf.set0 {w : World} {b : Nat} {v : Value} (h : Bf w b v) (v' : Value) : Bf (w.setCell ⟨b, 0, none⟩ v') b v' := by
  obtain ⟨lr, h⟩ := h
  exact ⟨lr, by rw [setHere w b 0 v' _ _ _ h]; rfl⟩
theorem Bf.set1 {w : World} {b : Nat} {v : Value} (h : Bf w b v) : Bf (w.setCell ⟨b, 1, none⟩ (.int .i64 0)) b v := by
  obtain ⟨lr, h⟩ := h
  exact ⟨lr, by rw [setHere w b 1 _ _ _ _ h]; rfl⟩
theorem Bf.set2 {w : World} {b : Nat} {v : Value} (h : Bf w b v) (n : Int) : Bf (w.setCell ⟨b, 2, none⟩ (.int .i8 n)) b v := by
  obtain ⟨lr, h⟩ := h
  exact ⟨n, by rw [setHere w b 2 _ _ _ _ h]; rfl⟩
theorem Bf.far {w : World} {b : Nat} {v : Value} (h : Bf w b v) (a : Addr) (u : Value) (hne : a.block ≠ b) : Bf (w.setCell a u) b v := by
  refine h.of_block ?_
  simp only [World.setCell, Array.getElem?_modify]
  rw [if_neg hne]

/-- nothing but the blocks in K has turned -/
structure But (K : Nat → Prop) (w w' : World) : Prop where
  os : w'.os = w.os
  tape : w'.tape = w.tape
  output : w'.output = w.output
  size : w.heap.size ≤ w'.heap.size
  block : ∀ k, k < w.heap.size → ¬ K k → w'.heap[k]? = w.heap[k]?
theorem But.refl (K : Nat → Prop) (w : World) : But K w w := ⟨rfl, rfl, rfl, Nat.le_refl _, fun _ _ _ => rfl⟩
theorem But.trans {K : Nat → Prop} {a b c : World} (h : But K a b) (k : But K b c) : But K a c :=
  ⟨k.os.trans h.os, k.tape.trans h.tape, k.output.trans h.output, Nat.le_trans h.size k.size, fun i hi hn => (k.block i (Nat.lt_of_lt_of_le hi h.size) hn).trans (h.block i hi hn)⟩
theorem But.join {K K' : Nat → Prop} {a b c : World} (h : But K a b) (g : But K' b c) (hk : ∀ k, k < a.heap.size → K' k → K k) : But K a c :=
  ⟨g.os.trans h.os, g.tape.trans h.tape, g.output.trans h.output, Nat.le_trans h.size g.size, fun k hl hn => (g.block k (Nat.lt_of_lt_of_le hl h.size) (fun e => hn (hk k hl e))).trans (h.block k hl hn)⟩
theorem But.mono {K K' : Nat → Prop} {a b : World} (h : But K a b) (hk : ∀ k, k < a.heap.size → K k → K' k) : But K' a b :=
  ⟨h.os, h.tape, h.output, h.size, fun i hi hn => h.block i hi (fun e => hn (hk i hi e))⟩
theorem But.set {K : Nat → Prop} {a b : World} (h : But K a b) (p : Addr) (v : Value) (hp : K p.block) : But K a (b.setCell p v) :=
  ⟨h.os, h.tape, h.output, by simpa using h.size, fun i hi hn => by
    refine Eq.trans ?_ (h.block i hi hn)
    simp only [World.setCell, Array.getElem?_modify]
    rw [if_neg (fun e => hn (by rw [← e]; exact hp))]⟩
theorem But.below {K : Nat → Prop} {a b c : World} (h : But K a b) (hb : Below b.heap.size b c) : But K a c :=
  ⟨hb.os.trans h.os, hb.tape.trans h.tape, hb.output.trans h.output, Nat.le_trans h.size hb.size, fun i hi hn => (hb.block i (Nat.lt_of_lt_of_le hi h.size)).trans (h.block i hi hn)⟩

theorem tryRoom_any (b r m n cap : Nat) (w : World) (h : Bf w b (.slice (some ⟨r, 0, none⟩) m cap)) (hn : m + n ≤ cap) (hc : cap ≤ maxLen) :
    Calls Tryd.prog 62 #[.pointer (some ⟨b, 0, none⟩), .int .i64 n] w fun e w' => e = .returned (.tuple #[.int .i64 m, .bool true]) ∧ w' = w.setCell ⟨b, 0, none⟩ (.slice (some ⟨r, 0, none⟩) (m + n) cap) := by
  have c0 := h.c0
  have f0 := h.froz 0
  unfold maxLen at hc
  clear h
  go_enter Tryd.func62, Tryd.ntmps62
  go_wp2_with fail
  exact bodyPost_ret (v := .tuple #[.int .i64 m, .bool true]) (by simp [results, Tryd.results62, go_sem]) rfl ⟨rfl, rfl⟩
theorem tryNone_any (b r m n cap : Nat) (w : World) (h : Bf w b (.slice (some ⟨r, 0, none⟩) m cap)) (hn : cap < m + n) (hm : m ≤ cap) (hc : cap ≤ maxLen) (hn2 : n ≤ 1000000000) :
    Calls Tryd.prog 62 #[.pointer (some ⟨b, 0, none⟩), .int .i64 n] w fun e w' => e = .returned (.tuple #[.int .i64 0, .bool false]) ∧ w' = w := by
  have c0 := h.c0
  unfold maxLen at hc
  clear h
  have hlt : ¬ ((n : Int) ≤ (cap : Int) - (m : Int)) := by omega
  go_enter Tryd.func62, Tryd.ntmps62
  go_wp2_with fail
  exact bodyPost_ret (v := .tuple #[.int .i64 0, .bool false]) (by simp [results, Tryd.results62, go_sem]) rfl ⟨rfl, rfl⟩
theorem tryNil_any (b n : Nat) (w : World) (h : Bf w b (.slice none 0 0)) (hn : 0 < n) (hn2 : n ≤ 1000000000) :
    Calls Tryd.prog 62 #[.pointer (some ⟨b, 0, none⟩), .int .i64 n] w fun e w' => e = .returned (.tuple #[.int .i64 0, .bool false]) ∧ w' = w := by
  have c0 := h.c0
  clear h
  have hlt : ¬ (n = 0) := by omega
  go_enter Tryd.func62, Tryd.ntmps62
  go_wp2_with fail
  exact bodyPost_ret (v := .tuple #[.int .i64 0, .bool false]) (by simp [results, Tryd.results62, go_sem]) rfl ⟨rfl, rfl⟩
theorem len_any (b m cap : Nat) (p : Option Addr) (w : World) (h : Bf w b (.slice p m cap)) (hm : m ≤ 1000000000) :
    Calls Tryd.prog 68 #[.pointer (some ⟨b, 0, none⟩)] w fun e w' => e = .returned (.int .i64 m) ∧ ∃ z, w' = w.drewN z := by
  have c0 := h.c0
  have c1 := h.c1
  clear h
  go_enter Tryd.func68, Tryd.ntmps68
  go_upto_region 1 with fail
  go_quiet (fail)
  go_wp2_with fail
  go_ret
  exact ⟨rfl, _, rfl⟩

end Go.Proofs.YtnkjnlmghnomiaaDoor
