/- Tables: the text of a table's head; spec.TableHeadText walked. Condition: lengths are bounded. -/
import Derived.Test.YtlndmebmcjngfaaGreatDoorTabA
import Derived.Deep.DeepCutAuto
import Derived.Deep.CutBlock
namespace Go.Proofs.YtlndmebmcjngfaaGreatDoor
open Go.ChangeShapes Go.WideShapes Go.ChangeAt Go.RowKit

/-- a column below: its alignment, its hyphens -/
abbrev Col := Int × Nat
def colL (c : Col) : List UInt8 := (if c.1 % 2 = 1 then [58] else []) ++ List.replicate c.2 45 ++ (if 2 ≤ c.1 then [58] else [])
/-- columns with a blank behind each, bars between -/
def belowP : List Col → List UInt8
  | [] => []
  | [c] => colL c ++ [32]
  | c :: d :: r => colL c ++ 32 :: 124 :: belowP (d :: r)
/-- columns with bars between; en: a blank behind the last -/
def belowF (en : Bool) : List Col → List UInt8
  | [] => []
  | [c] => colL c ++ (if en then [32] else [])
  | c :: d :: r => colL c ++ 32 :: 124 :: belowF en (d :: r)
theorem belowP_snoc (c : Col) : ∀ cs : List Col, belowP (cs ++ [c]) = belowP cs ++ ((if cs = [] then [] else [124]) ++ (colL c ++ [32]))
  | [] => by simp [belowP]
  | [d] => by simp [belowP]
  | d :: e :: r => by
    have h := belowP_snoc c (e :: r)
    show colL d ++ 32 :: 124 :: belowP (e :: r ++ [c]) = _
    rw [h]
    simp [belowP]
theorem belowF_snoc (en : Bool) (c : Col) : ∀ cs : List Col, belowF en (cs ++ [c]) = belowP cs ++ ((if cs = [] then [] else [124]) ++ (colL c ++ (if en then [32] else [])))
  | [] => by simp [belowF, belowP]
  | [d] => by simp [belowF, belowP]
  | d :: e :: r => by
    have h := belowF_snoc en c (e :: r)
    show colL d ++ 32 :: 124 :: belowF en (e :: r ++ [c]) = _
    rw [h]
    simp [belowP]
theorem belowF_true : ∀ cs : List Col, belowF true cs = belowP cs
  | [] => rfl
  | [_] => rfl
  | d :: e :: r => by
    show colL d ++ 32 :: 124 :: belowF true (e :: r) = _
    rw [belowF_true (e :: r)]
    rfl
theorem colL_le (c : Col) : (colL c).length ≤ c.2 + 2 := by
  unfold colL
  simp only [List.length_append, List.length_replicate]
  split <;> split <;> simp <;> omega

/-- the columns that two rows of bytes tell -/
def colAt (al hl : List UInt8) (i : Nat) : Col := (bat al i, (bat hl i).toNat)
def colsOf (al hl : List UInt8) (n : Nat) : List Col := (List.range n).map (colAt al hl)
theorem colsOf_succ (al hl : List UInt8) (n : Nat) : colsOf al hl (n + 1) = colsOf al hl n ++ [colAt al hl n] := by simp [colsOf, List.range_succ]
theorem colsOf_len (al hl : List UInt8) (n : Nat) : (colsOf al hl n).length = n := by simp [colsOf]
/-- the text below, k of n columns written -/
def belowK (en : Bool) (al hl : List UInt8) (n k : Nat) : List UInt8 := if k = n then belowF en (colsOf al hl n) else belowP (colsOf al hl k)
theorem belowK_succ (en : Bool) (al hl : List UInt8) (n k : Nat) (h : k < n) :
    belowK en al hl n (k + 1) = belowK en al hl n k ++ ((if 0 < k then [124] else []) ++ (colL (colAt al hl k) ++ (if (decide (k < n - 1) || en) = true then [32] else []))) := by
  have e0 : (colsOf al hl k = []) ↔ ¬ 0 < k := by
    rw [← List.length_eq_zero_iff, colsOf_len]
    omega
  have e1 : (if colsOf al hl k = [] then ([] : List UInt8) else [124]) = if 0 < k then [124] else [] := by
    by_cases h0 : 0 < k
    · rw [if_neg (fun h => e0.1 h h0), if_pos h0]
    · rw [if_pos (e0.2 h0), if_neg h0]
  unfold belowK
  rw [if_neg (show k ≠ n by omega)]
  by_cases hn : k + 1 = n
  · have hd : decide (k < n - 1) = false := decide_eq_false (by omega)
    rw [if_pos hn, ← hn, colsOf_succ, belowF_snoc, e1, hn, hd, Bool.false_or]
  · have hd : decide (k < n - 1) = true := decide_eq_true (by omega)
    rw [if_neg hn, colsOf_succ, belowP_snoc, e1, hd, Bool.true_or, if_pos rfl]

/-- the two lines -/
def overL (S : Nat → ByteArray) (n : Nat) (bg en : Bool) : List UInt8 := (if bg then [124] else []) ++ joinS S [32, 124, 32] n ++ (if en then [124] else [])
def lowerL (al hl : List UInt8) (m : Nat) (bg en : Bool) : List UInt8 := (if bg then [124] else []) ++ belowF en (colsOf al hl m) ++ (if en then [124] else [])
def headL (S : Nat → ByteArray) (n : Nat) (al hl : List UInt8) (m : Nat) (bg en : Bool) : List UInt8 := overL S n bg en ++ 10 :: (lowerL al hl m bg en ++ [10])

/-- the cells of a boxed table line -/
structure TBox (B : Nat) (w : World) (vn va vh : Value) (bg en : Bool) (wx : World) : Prop where
  c0 : wx.cell? ⟨B, 0, none⟩ = some vn
  c1 : wx.cell? ⟨B, 1, none⟩ = some va
  c2 : wx.cell? ⟨B, 2, none⟩ = some vh
  c3 : wx.cell? ⟨B, 3, none⟩ = some (.bool bg)
  c4 : wx.cell? ⟨B, 4, none⟩ = some (.bool en)
  below : Below w.heap.size w wx
  size : B < wx.heap.size
theorem TBox.new (w : World) (vn va vh : Value) (bg en : Bool) : TBox w.heap.size w vn va vh bg en (w.alloc (.cells #[vn, va, vh, .bool bg, .bool en] 25)) := by
  refine ⟨?_, ?_, ?_, ?_, ?_, (Below.refl _ _).alloc (Nat.le_refl _) _, by simp⟩ <;> simp
theorem TBox.on {B : Nat} {w : World} {vn va vh : Value} {bg en : Bool} {wx wy : World} (h : TBox B w vn va vh bg en wx) (hB : w.heap.size ≤ B) (hb : Below wx.heap.size wx wy) : TBox B w vn va vh bg en wy := by
  have hk : ∀ i, wy.cell? ⟨B, i, none⟩ = wx.cell? ⟨B, i, none⟩ := fun i => hb.cell (p := ⟨B, i, none⟩) h.size
  have := hb.size
  have := h.size
  exact ⟨(hk 0).trans h.c0, (hk 1).trans h.c1, (hk 2).trans h.c2, (hk 3).trans h.c3, (hk 4).trans h.c4, h.below.trans (hb.mono h.below.size), by omega⟩

/-- what is known of the columns -/
structure ColsOk (al hl : List UInt8) (m : Nat) : Prop where
  m8 : m ≤ 8
  h20 : ∀ i, i < m → bat hl i ≤ 20
  h1 : ∀ i, i < m → 1 ≤ bat hl i
  a3 : ∀ i, i < m → bat al i ≤ 3
  sum : ∀ i, i < m → 3 ≤ bat hl i + bat al i % 2 + bat al i / 2
theorem belowK_le {en : Bool} {al hl : List UInt8} {n : Nat} (h : ColsOk al hl n) : ∀ k, k ≤ n → (belowK en al hl n k).length ≤ 30 * k
  | 0, _ => by
    unfold belowK
    split
    · rename_i e
      rw [← e]
      simp [colsOf, belowF]
    · simp [colsOf, belowP]
  | k + 1, hk => by
    have h1 := belowK_le (en := en) h k (by omega)
    have h2 := colL_le (colAt al hl k)
    have h3 := h.h20 k (by omega)
    have h4 : (colAt al hl k).2 = (bat hl k).toNat := rfl
    rw [belowK_succ en al hl n k (by omega)]
    simp only [List.length_append]
    split <;> split <;> simp <;> omega

end Go.Proofs.YtlndmebmcjngfaaGreatDoor
