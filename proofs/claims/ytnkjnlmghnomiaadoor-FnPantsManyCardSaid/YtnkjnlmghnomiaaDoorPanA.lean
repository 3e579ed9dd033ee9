/- Smart punctuation: what the renderer writes of a text, as a relation. Plain law, no program in sight. -/
import Derived.Test.YtnkjnlmghnomiaaDoorCut
namespace Go.Proofs.YtnkjnlmghnomiaaDoor
open Go.ChangeShapes Go.WideShapes Go.ChangeAt Go.RowKit

/-- the flags that matter -/
structure Cfg where
  ang : Bool
  nbsp : Bool
  dash : Bool
  latex : Bool
  frac : Bool

/-- has a byte a callback -/
def cbI (F : Cfg) (c : Int) : Bool :=
  c == 34 || c == 38 || c == 39 || c == 40 || (F.dash && c == 45) || c == 46 || (if F.frac then decide (49 ≤ c ∧ c ≤ 57) else (c == 49 || c == 51)) || c == 60 || c == 96

def quoK (F : Cfg) : UInt8 := if F.ang then 97 else 100
def nbspL : List UInt8 := [38, 110, 98, 115, 112, 59]
/-- a quote as it is written: opening or closing, its letter, with a blank that does not break -/
def quoL (op : Bool) (q : UInt8) (nb : Bool) : List UInt8 :=
  (if nb && !op then nbspL else []) ++ ((38 :: (if op then 108 else 114) :: q :: 113 :: 117 :: 111 :: 59 :: []) ++ (if nb && op then nbspL else []))
def edgeI (n : Int) : Bool := n == 0 || n == 32
/-- what a quote between two bytes is -/
def hqB (op : Bool) (prev next : Int) : Bool := if op then edgeI prev && lettI next else lettI prev && next == 32
def quotL : List UInt8 := [38, 113, 117, 111, 116, 59]
def rsquoL : List UInt8 := [38, 114, 115, 113, 117, 111, 59]
def copyL : List UInt8 := [38, 99, 111, 112, 121, 59]
def regL : List UInt8 := [38, 114, 101, 103, 59]
def tradeL : List UInt8 := [38, 116, 114, 97, 100, 101, 59]
def mdashL : List UInt8 := [38, 109, 100, 97, 115, 104, 59]
def ndashL : List UInt8 := [38, 110, 100, 97, 115, 104, 59]
def hellipL : List UInt8 := [38, 104, 101, 108, 108, 105, 112, 59]
def supL : List UInt8 := [60, 115, 117, 112, 62]
def fraslL : List UInt8 := [60, 47, 115, 117, 112, 62, 38, 102, 114, 97, 115, 108, 59, 60, 115, 117, 98, 62]
def subL : List UInt8 := [60, 47, 115, 117, 98, 62]
def fracL (a b : UInt8) : List UInt8 := [38, 102, 114, 97, 99, a, b, 59]
def stmdI (n : Int) : Bool := n == 115 || n == 116 || n == 109 || n == 100
def pairI (a b : Int) : Bool := (a == 114 && b == 101) || (a == 108 && b == 108) || (a == 118 && b == 101)

/-- what a callback, called with the byte ahead and the text from its byte on, writes, and how many bytes more it takes -/
inductive Act (F : Cfg) (prev : Int) (m : List UInt8) : List UInt8 → Nat → Prop
  | dq (op : Bool) (h0 : bat m 0 = 34) (hl : 1 < m.length) (h : hqB op prev (bat m 1) = true) : Act F prev m (quoL op (quoK F) false) 0
  | quot (op : Bool) (h0 : m.take 6 = quotL) (hl : 6 < m.length) (h : hqB op prev (bat m 6) = true) : Act F prev m (quoL op (quoK F) F.nbsp) 5
  | amp (h0 : bat m 0 = 38) (hl : 1 < m.length) (h1 : bat m 1 ≠ 113) (h2 : bat m 1 ≠ 35) : Act F prev m [38] 0
  | apos2 (op : Bool) (h0 : bat m 0 = 39) (h1 : bat m 1 = 39) (hl : 2 < m.length) (h : hqB op prev (bat m 2) = true) : Act F prev m (quoL op 100 false) 1
  | short1 (h0 : bat m 0 = 39) (h1 : stmdI (bat m 1) = true) (h2 : bat m 2 = 32) (hl : 2 < m.length) : Act F prev m rsquoL 0
  | short2 (h0 : bat m 0 = 39) (h1 : pairI (bat m 1) (bat m 2) = true) (h2 : bat m 3 = 32) (hl : 3 < m.length) : Act F prev m rsquoL 0
  | sopen (h0 : bat m 0 = 39) (h1 : lettI (bat m 1) = true) (h2 : lettI (bat m 2) = true) (h3 : lettI (bat m 3) = true) (hl : 3 < m.length) (hp : edgeI prev = true) : Act F prev m (quoL true 115 false) 0
  | sclose (h0 : bat m 0 = 39) (h1 : bat m 1 = 32) (hl : 2 < m.length) (hp : lettI prev = true) : Act F prev m (quoL false 115 false) 0
  | tick (op : Bool) (h0 : bat m 0 = 96) (h1 : bat m 1 = 96) (hl : 2 < m.length) (h : hqB op prev (bat m 2) = true) : Act F prev m (quoL op 100 false) 1
  | copy (h0 : bat m 0 = 40) (h1 : bat m 1 = 99 ∨ bat m 1 = 67) (h2 : bat m 2 = 41) (hl : 2 < m.length) : Act F prev m copyL 2
  | reg (h0 : bat m 0 = 40) (h1 : bat m 1 = 114 ∨ bat m 1 = 82) (h2 : bat m 2 = 41) (hl : 2 < m.length) : Act F prev m regL 2
  | trade (h0 : bat m 0 = 40) (h1 : bat m 1 = 116 ∨ bat m 1 = 84) (h2 : bat m 2 = 109 ∨ bat m 2 = 77) (h3 : bat m 3 = 41) (hl : 3 < m.length) : Act F prev m tradeL 3
  | d2 (hd : F.dash = true) (hx : F.latex = false) (h0 : bat m 0 = 45) (h1 : bat m 1 = 45) (hl : 1 < m.length) : Act F prev m mdashL 1
  | dn (hd : F.dash = true) (hx : F.latex = false) (h0 : bat m 0 = 45) (h1 : bat m 1 = 32) (hl : 1 < m.length) (hp : edgeI prev = true ∨ prev = 45) : Act F prev m ndashL 0
  | dp (hd : F.dash = true) (hx : F.latex = false) (h0 : bat m 0 = 45) (h1 : lettI (bat m 1) = true) (hl : 1 < m.length) (hp : lettI prev = true ∨ prev = 45) : Act F prev m [45] 0
  | l3 (hd : F.dash = true) (hx : F.latex = true) (h0 : bat m 0 = 45) (h1 : bat m 1 = 45) (h2 : bat m 2 = 45) (hl : 2 < m.length) : Act F prev m mdashL 2
  | l2 (hd : F.dash = true) (hx : F.latex = true) (h0 : bat m 0 = 45) (h1 : bat m 1 = 45) (h2 : bat m 2 ≠ 45) (hl : 2 < m.length) : Act F prev m ndashL 1
  | l1 (hd : F.dash = true) (hx : F.latex = true) (h0 : bat m 0 = 45) (h1 : bat m 1 ≠ 45) (hl : 2 < m.length) : Act F prev m [45] 0
  | e3 (h0 : bat m 0 = 46) (h1 : bat m 1 = 46) (h2 : bat m 2 = 46) (hl : 2 < m.length) : Act F prev m hellipL 2
  | e5 (h0 : bat m 0 = 46) (h1 : bat m 1 = 32) (h2 : bat m 2 = 46) (h3 : bat m 3 = 32) (h4 : bat m 4 = 46) (hl : 4 < m.length) : Act F prev m hellipL 4
  | p1 (h0 : bat m 0 = 46) (h1 : bat m 1 = 46) (h2 : bat m 2 ≠ 46) (hl : 2 < m.length) : Act F prev m [46] 0
  | p2 (h0 : bat m 0 = 46) (h1 : bat m 1 = 32) (h2 : bat m 2 ≠ 46 ∨ bat m 3 ≠ 32) (hl : 3 < m.length) : Act F prev m [46] 0
  | angle (g : Nat) (h0 : bat m 0 = 60) (hg : bat m g = 62) (hl : g < m.length) (hn : ∀ j, j < g → bat m j ≠ 62) : Act F prev m (m.take (g + 1)) g
  | gen (a b : Nat) (hf : F.frac = true) (h0 : 49 ≤ bat m 0 ∧ bat m 0 ≤ 57) (hp : edgeI prev = true) (ha : 0 < a) (hd : ∀ j, j < a → digI (bat m j) = true) (hs : bat m a = 47) (hab : a + 1 < b) (hd2 : ∀ j, a < j → j < b → digI (bat m j) = true)
      (hb : bat m b = 32) (hl : b < m.length) : Act F prev m (supL ++ (m.take a ++ (fraslL ++ ((m.take b).drop (a + 1) ++ subL)))) (b - 1)
  | half (hf : F.frac = false) (h0 : bat m 0 = 49) (h1 : bat m 1 = 47) (h2 : bat m 2 = 50) (h3 : bat m 3 = 32) (hl : 3 < m.length) (hp : edgeI prev = true) : Act F prev m (fracL 49 50) 2
  | quarter (hf : F.frac = false) (h0 : bat m 0 = 49) (h1 : bat m 1 = 47) (h2 : bat m 2 = 52) (h3 : bat m 3 = 32) (hl : 3 < m.length) (hp : edgeI prev = true) : Act F prev m (fracL 49 52) 2
  | three (hf : F.frac = false) (h0 : bat m 0 = 51) (h1 : bat m 1 = 47) (h2 : bat m 2 = 52) (h3 : bat m 3 = 32) (hl : 3 < m.length) (hp : edgeI prev = true) : Act F prev m (fracL 51 52) 2
  | num1 (hf : F.frac = false) (h0 : bat m 0 = 49 ∨ bat m 0 = 51) (hl : 0 < m.length) (hp : prev = 47 ∨ digI prev = true) : Act F prev m [m.getD 0 0] 0
  | num2 (hf : F.frac = false) (h0 : bat m 0 = 49 ∨ bat m 0 = 51) (hl : 3 < m.length) (hp : edgeI prev = true)
      (hq : bat m 0 = 49 → bat m 1 = 47 → bat m 2 = 50 ∨ bat m 2 = 52 → digI (bat m 3) = true) (hr : bat m 0 = 51 → bat m 1 = 47 → bat m 2 = 52 → digI (bat m 3) = true) : Act F prev m [m.getD 0 0] 0

/-- the byte ahead of a place -/
def prevI (l : List UInt8) (i : Nat) : Int := if i = 0 then 0 else bat l (i - 1)

/-- from the place i on, the text becomes o -/
inductive PantAt (F : Cfg) (l : List UInt8) : Nat → List UInt8 → Prop
  | stop : PantAt F l l.length []
  | plain {i : Nat} {o : List UInt8} (h : i < l.length) (hc : cbI F (bat l i) = false) (r : PantAt F l (i + 1) o) : PantAt F l i (l.getD i 0 :: o)
  | act {i k : Nat} {o o' : List UInt8} (h : i + k < l.length) (hc : cbI F (bat l i) = true) (a : Act F (prevI l i) (l.drop i) o k) (r : PantAt F l (i + k + 1) o') : PantAt F l i (o ++ o')

theorem quoL_len (op : Bool) (q : UInt8) (nb : Bool) : (quoL op q nb).length ≤ 13 := by
  cases op <;> cases nb <;> simp [quoL, nbspL]
theorem Act.len {F : Cfg} {prev : Int} {m o : List UInt8} {k : Nat} (h : Act F prev m o k) : o.length ≤ 40 * (k + 1) := by
  cases h <;> first
    | (simp [rsquoL, copyL, regL, tradeL, mdashL, ndashL, hellipL, fracL]; done)
    | (rename_i op _ _ _; have := quoL_len op (quoK F) false; omega)
    | (rename_i op _ _ _; have := quoL_len op (quoK F) F.nbsp; omega)
    | (have := quoL_len true 115 false; omega)
    | (have := quoL_len false 115 false; omega)
    | (rename_i op _ _ _ _; have := quoL_len op 100 false; omega)
    | (rw [List.length_take]; omega)
    | (simp only [List.length_append, List.length_drop, List.length_take, supL, fraslL, subL, List.length_cons, List.length_nil]; omega)
theorem PantAt.le {F : Cfg} {l o : List UInt8} {i : Nat} (h : PantAt F l i o) : i ≤ l.length := by
  cases h <;> omega
theorem PantAt.len {F : Cfg} {l o : List UInt8} {i : Nat} (h : PantAt F l i o) : o.length ≤ 40 * (l.length - i) := by
  induction h with
  | stop => simp
  | plain h hc r ih => rw [List.length_cons]; omega
  | act h hc a r ih =>
    have := a.len
    rw [List.length_append]
    omega

theorem PantAt.run {F : Cfg} {l m o : List UInt8} : ∀ {a : List UInt8} {i : Nat}, l.drop i = a ++ m → (∀ c ∈ a, cbI F (c.toNat : Int) = false) → PantAt F l (i + a.length) o → PantAt F l i (a ++ o)
  | [], _, _, _, h => h
  | c :: a, i, h, hp, hr => by
    obtain ⟨h1, h2, h3⟩ := at_cons h
    have hg : l.getD i 0 = c := by
      have := drop_cons l i h1
      rw [h, List.cons_append] at this
      injection this with e1 e2
      exact e1.symm
    have := PantAt.plain (F := F) h1 (by rw [h2]; exact hp c (List.mem_cons_self ..)) (PantAt.run (a := a) h3 (fun x hx => hp x (List.mem_cons_of_mem _ hx)) (by rw [show i + 1 + a.length = i + (c :: a).length by simp; omega]; exact hr))
    rw [hg] at this
    exact this
/-- one step of a callback -/
theorem PantAt.step {F : Cfg} {l m o o' : List UInt8} {i k : Nat} {prev : Int} (hd : l.drop i = m) (hm : k < m.length) (hc : cbI F (bat m 0) = true) (hp : prevI l i = prev) (a : Act F prev m o k) (r : PantAt F l (i + k + 1) o') : PantAt F l i (o ++ o') := by
  have hlen := at_len hd (by omega)
  refine PantAt.act (by omega) ?_ (by rw [hp, hd]; exact a) r
  rw [← hd, bat_drop0] at hc
  exact hc
theorem prevI_succ (l : List UInt8) (i : Nat) : prevI l (i + 1) = bat l i := by simp [prevI]

end Go.Proofs.YtnkjnlmghnomiaaDoor
