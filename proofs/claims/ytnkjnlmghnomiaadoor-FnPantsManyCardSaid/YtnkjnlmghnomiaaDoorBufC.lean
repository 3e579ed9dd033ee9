/- bytes.Buffer: WriteByte, WriteString, Write, Bytes walked: what a buffer holds, and what stands. Condition: lengths are bounded. -/
import Derived.Test.YtnkjnlmghnomiaaDoorBufB
import Derived.Lib.BufferWrite
namespace Go.Proofs.YtnkjnlmghnomiaaDoor
open Go.ChangeShapes Go.WideShapes Go.ChangeAt Go.RowKit

/-- block b is a buffer that holds the text l; g: its row's block -/
def BufAt (w : World) (b : Nat) (g : Option Nat) (l : List UInt8) : Prop :=
  (g = none ∧ l = [] ∧ Bf w b (.slice none 0 0)) ∨
  ∃ r cap cur, g = some r ∧ r ≠ b ∧ 1 ≤ l.length ∧ Bf w b (.slice (some ⟨r, 0, none⟩) l.length cap) ∧ w.heap[r]? = some (.cells cur 5 (0, 0)) ∧ cur.size = cap ∧ l.length ≤ cap ∧ cap ≤ maxLen ∧ cur.toList.take l.length = vals l
def RoomAt (w : World) (b r : Nat) (l : List UInt8) (n : Nat) : Prop :=
  r ≠ b ∧ ∃ cap cur, Bf w b (.slice (some ⟨r, 0, none⟩) (l.length + n) cap) ∧ w.heap[r]? = some (.cells cur 5 (0, 0)) ∧ cur.size = cap ∧ l.length + n ≤ cap ∧ cap ≤ maxLen ∧ cur.toList.take l.length = vals l
theorem BufAt.lt {w : World} {b : Nat} {g : Option Nat} {l : List UInt8} (h : BufAt w b g l) : b < w.heap.size := by
  rcases h with ⟨_, _, h⟩ | ⟨_, _, _, _, _, _, h, _⟩ <;> exact h.lt
theorem BufAt.of_block {w w' : World} {b : Nat} {g : Option Nat} {l : List UInt8} (h : BufAt w b g l) (hb : w'.heap[b]? = w.heap[b]?) (hg : ∀ r, g = some r → w'.heap[r]? = w.heap[r]?) : BufAt w' b g l := by
  rcases h with ⟨h1, h2, h3⟩ | ⟨r, cap, cur, h1, h2, h3, h4, h5, h6⟩
  · exact Or.inl ⟨h1, h2, h3.of_block hb⟩
  · exact Or.inr ⟨r, cap, cur, h1, h2, h3, h4.of_block hb, (hg r h1).trans h5, h6⟩
theorem BufAt.set2 {w : World} {b : Nat} {g : Option Nat} {l : List UInt8} (h : BufAt w b g l) (n : Int) : BufAt (w.setCell ⟨b, 2, none⟩ (.int .i8 n)) b g l := by
  rcases h with ⟨h1, h2, h3⟩ | ⟨r, cap, cur, h1, h2, h3, h4, h5, h6⟩
  · exact Or.inl ⟨h1, h2, h3.set2 n⟩
  · exact Or.inr ⟨r, cap, cur, h1, h2, h3, h4.set2 n, by rw [heap_far _ _ _ _ (fun e => h2 e.symm)]; exact h5, h6⟩
theorem BufAt.cells {w : World} {b : Nat} {g : Option Nat} {l : List UInt8} (h : BufAt w b g l) : (∃ u, w.cell? ⟨b, 2, none⟩ = some u) ∧ ∀ i, w.frozen? ⟨b, i, none⟩ = false := by
  rcases h with ⟨_, _, h⟩ | ⟨_, _, _, _, _, _, h, _⟩ <;> exact ⟨h.c2, h.froz⟩
theorem fresh_buf (w : World) : BufAt (w.alloc (.cells #[.slice none 0 0, .int .i64 0, .int .i8 0] 47)) w.heap.size none [] :=
  Or.inl ⟨rfl, rfl, 0, by show (w.heap.push _)[w.heap.size]? = _; simp⟩

/-- there is no room for n bytes more -/
def NoRoomFor (w : World) (b : Nat) (g : Option Nat) (l : List UInt8) (n : Nat) : Prop :=
  (g = none ∧ l = [] ∧ Bf w b (.slice none 0 0)) ∨
  ∃ r cap cur, g = some r ∧ r ≠ b ∧ 1 ≤ l.length ∧ Bf w b (.slice (some ⟨r, 0, none⟩) l.length cap) ∧ w.heap[r]? = some (.cells cur 5 (0, 0)) ∧ cur.size = cap ∧ l.length ≤ cap ∧ cap ≤ maxLen ∧ cur.toList.take l.length = vals l ∧ cap < l.length + n
def TrySaid (b : Nat) (g : Option Nat) (l : List UInt8) (n : Nat) (w : World) (e : Ending) (w' : World) : Prop :=
  (e = .returned (.tuple #[.int .i64 l.length, .bool true]) ∧ (∃ r, g = some r ∧ RoomAt w' b r l n) ∧ But (fun k => k = b) w w' ∧ w'.heap.size = w.heap.size) ∨
  (e = .returned (.tuple #[.int .i64 0, .bool false]) ∧ w' = w ∧ NoRoomFor w b g l n)
theorem try_any (b : Nat) (g : Option Nat) (l : List UInt8) (n : Nat) (w : World) (h : BufAt w b g l) (hn1 : 1 ≤ n) (hl : l.length + n ≤ 1000000000) :
    Calls Tryd.prog 62 #[.pointer (some ⟨b, 0, none⟩), .int .i64 n] w (TrySaid b g l n w) := by
  rcases h with ⟨h1, h2, h3⟩ | ⟨r, cap, cur, h1, h2, h3, h4, h5, h6, h7, h8, h9⟩
  · refine (tryNil_any b n w h3 hn1 (by omega)).mono ?_
    rintro e w' ⟨he, hw⟩
    exact Or.inr ⟨he, hw, Or.inl ⟨h1, h2, h3⟩⟩
  · by_cases hc : l.length + n ≤ cap
    · refine (tryRoom_any b r l.length n cap w h4 hc h8).mono ?_
      rintro e w' ⟨he, hw⟩
      subst hw
      exact Or.inl ⟨he, ⟨r, h1, h2, cap, cur, h4.set0 _, by rw [heap_far _ _ _ _ (fun e => h2 e.symm)]; exact h5, h6, hc, h8, h9⟩, (But.refl _ w).set ⟨b, 0, none⟩ _ rfl, by simp⟩
    · refine (tryNone_any b r l.length n cap w h4 (by omega) h7 h8 (by omega)).mono ?_
      rintro e w' ⟨he, hw⟩
      exact Or.inr ⟨he, hw, Or.inr ⟨r, cap, cur, h1, h2, h3, h4, h5, h6, h7, h8, h9, by omega⟩⟩
def GrewSaid (b : Nat) (l : List UInt8) (n : Nat) (w : World) (e : Ending) (w' : World) : Prop :=
  e = .returned (.int .i64 l.length) ∧ RoomAt w' b w.heap.size l n ∧ But (fun k => k = b) w w' ∧ w.heap.size < w'.heap.size
theorem grow_any (hG : GrowOk) (b : Nat) (g : Option Nat) (l : List UInt8) (n : Nat) (w : World) (h : NoRoomFor w b g l n) (hn1 : 1 ≤ n) (hl : l.length + n ≤ 1000000000) :
    Calls Tryd.prog 63 #[.pointer (some ⟨b, 0, none⟩), .int .i64 n] w (GrewSaid b l n w) := by
  rcases h with ⟨h1, h2, h3⟩ | ⟨r, cap, cur, h1, h2, h3, h4, h5, h6, h7, h8, h9, h10⟩
  · subst h2
    have key : ∀ e w', GrownSaid b 0 n [] w e w' → GrewSaid b [] n w e w' := by
      rintro e w' ⟨he, cap, cells, k1, k2, k3, k4, k5, k6, k7, k8⟩
      exact ⟨he, ⟨fun e => by have := h3.lt; omega, cap, cells, k1, k2, k3, k5, k6, rfl⟩, k7, k8⟩
    by_cases h64 : n ≤ 64
    · exact (growSmall_any b n w h3 hn1 h64).mono key
    · exact (growBig_any hG b n w h3 (by omega) (by simpa using hl)).mono key
  · refine (growRow_any hG b r l.length n cap cur w h4 h5 h6 h3 h7 hn1 h10 hl (by rw [h9]; exact vals_one l)).mono ?_
    rintro e w' ⟨he, cap2, cells, k1, k2, k3, k4, k5, k6, k7, k8⟩
    exact ⟨he, ⟨fun e => by have := h4.lt; omega, cap2, cells, k1, k2, k3, k5, k6, k4.trans h9⟩, k7, k8⟩

end Go.Proofs.YtnkjnlmghnomiaaDoor
