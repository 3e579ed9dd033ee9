/- Vocabulary shared by the proofs of this seat: a slice of bytes that reads as a list, and small facts on worlds. No condition. -/
import Derived.Test.YtnkjnlmghnomiaaDoorRows
import Derived.WalkKit
import Derived.ProofKit
import Derived.OpenShut
import Derived.ShutString
import Derived.ChangeOld
import Derived.Below
import Derived.BigQuiet
import Derived.Outline
import Derived.Lib.Hide
import Derived.Lib.SlBytesConst
import Derived.Lib.RabinKarpLaws
import Derived.WalkSpells
import Derived.WalkSmall
import Derived.Deep.DeepMust
import Derived.Deep.DeepFit
import Derived.Deep.RegionWith
import Derived.Deep.DeepCutAuto
import Derived.Deep.LoopGhost
import Derived.Shelf.Bytes.SlEqualAll
namespace Go.Proofs.YtnkjnlmghnomiaaDoor
open Go.ChangeShapes Go.WideShapes Go.ChangeAt Go.RowKit
open Go.ChangeMaps (open_string shut_string)

/-- the byte at a place, as a number (0 beyond the end) -/
def bat (l : List UInt8) (i : Nat) : Int := ((l.getD i 0).toNat : Int)

theorem bat_nonneg (l : List UInt8) (i : Nat) : 0 ≤ bat l i := by unfold bat; omega
theorem bat_lt (l : List UInt8) (i : Nat) : bat l i < 256 := by
  unfold bat
  have := (l.getD i 0).toNat_lt
  omega
theorem bat_wf (l : List UInt8) (i : Nat) : (Lit.int .u8 (bat l i)).wf = true := by
  have h0 := bat_nonneg l i
  have h1 := bat_lt l i
  exact WalkArith.wf_u8 (by omega)

/-- the slice (p, n) reads as the bytes l in the world w -/
structure Bs (w : World) (p : Option Addr) (n : Nat) (l : List UInt8) : Prop where
  len : l.length = n
  cells : 0 < n → ∃ b o, p = some ⟨b, o, none⟩ ∧ b < w.heap.size ∧ ∀ i, i < n → w.cell? ⟨b, o + i, none⟩ = some (.int .u8 (bat l i))

theorem Bs.below {w w' : World} {B : Nat} {p : Option Addr} {n : Nat} {l : List UInt8} (h : Bs w p n l) (hb : Below B w w') (hB : w.heap.size ≤ B) : Bs w' p n l := by
  refine ⟨h.len, fun hn => ?_⟩
  obtain ⟨b, o, hp, hlt, hc⟩ := h.cells hn
  refine ⟨b, o, hp, Nat.lt_of_lt_of_le hlt hb.size, fun i hi => ?_⟩
  rw [hb.cell (p := ⟨b, o + i, none⟩) (by show b < B; omega)]
  exact hc i hi

theorem Below.drewN {B : Nat} {a w : World} (h : Below B a w) (n : Nat) : Below B a (w.drewN n) := ⟨h.os, h.tape, h.output, h.size, h.block⟩

theorem Bs.drewN {w : World} {p : Option Addr} {n : Nat} {l : List UInt8} (h : Bs w p n l) (k : Nat) : Bs (w.drewN k) p n l :=
  h.below (Below.drewN (Below.refl w.heap.size w) k) (Nat.le_refl _)

theorem ret_bool {a b : Bool} (h : a = b) : Ending.returned (.bool a) = Ending.returned (.bool b) := by rw [h]
theorem ret_int {k : IntKind} {a b : Int} (h : a = b) : Ending.returned (.int k a) = Ending.returned (.int k b) := by rw [h]

/-- '[]byte' of a constant, its block the first new one; the second new one; the third -/
theorem conv_first (w : World) (C : Array Value) (n c : Nat) : (convert 27 27 (.slice (some ⟨w.heap.size, 0, none⟩) n c)).run Tryd.prog (w.alloc (.cells C 5)) = .ok (.slice (some ⟨w.heap.size, 0, none⟩) n c) (w.alloc (.cells C 5 (C.size, C.size + 1))) :=
  Lib.run_convert_bytes_const (P := Tryd.prog) w 27 5 C n c Tryd.underlying27 Tryd.underlying5
theorem conv_second (w : World) (o : Obj) (C : Array Value) (n c : Nat) : (convert 27 27 (.slice (some ⟨w.heap.size + 1, 0, none⟩) n c)).run Tryd.prog ((w.alloc o).alloc (.cells C 5)) = .ok (.slice (some ⟨w.heap.size + 1, 0, none⟩) n c) ((w.alloc o).alloc (.cells C 5 (C.size, C.size + 1))) := by
  have h := conv_first (w.alloc o) C n c
  have e : (w.alloc o).heap.size = w.heap.size + 1 := by simp
  rw [e] at h
  exact h
theorem conv_third (w : World) (o o2 : Obj) (C : Array Value) (n c : Nat) : (convert 27 27 (.slice (some ⟨w.heap.size + 1 + 1, 0, none⟩) n c)).run Tryd.prog (((w.alloc o).alloc o2).alloc (.cells C 5)) = .ok (.slice (some ⟨w.heap.size + 1 + 1, 0, none⟩) n c) (((w.alloc o).alloc o2).alloc (.cells C 5 (C.size, C.size + 1))) := by
  have h := conv_first ((w.alloc o).alloc o2) C n c
  have e : ((w.alloc o).alloc o2).heap.size = w.heap.size + 1 + 1 := by simp
  rw [e] at h
  exact h

/-- induction on a list from its end -/
theorem snoc_ind {α : Type} {P : List α → Prop} (h0 : P []) (h1 : ∀ l a, P l → P (l ++ [a])) (l : List α) : P l := by
  have h : ∀ r : List α, P r.reverse := by
    intro r
    induction r with
    | nil => exact h0
    | cons a r ih => rw [List.reverse_cons]; exact h1 _ _ ih
  have := h l.reverse
  rwa [List.reverse_reverse] at this

theorem take_snoc (s : ByteArray) (k : Nat) (h : k < s.size) : s.data.toList.take (k + 1) = s.data.toList.take k ++ [s[k]] := by
  rw [List.take_succ_eq_append_getElem (by simpa using h)]; rfl

/-- a row that the call owns is a slice of so many elements -/
theorem own_slice {w : World} {B : Nat} {e : TypeId} {size : Nat} {v : Value} {n : Nat} {xs : List Value} (h : w.ownsRow B e size v n xs) : ∃ p c, v = .slice p n c ∧ n ≤ c ∧ c ≤ maxLen := by
  rcases h.2 with ⟨hv, h0⟩ | ⟨g, cap, cur, hv, _, _, hn, hcm, _, _⟩
  · exact ⟨none, 0, by rw [hv, h0], by omega, Nat.zero_le _⟩
  · exact ⟨_, cap, hv, hn, hcm⟩

end Go.Proofs.YtnkjnlmghnomiaaDoor
