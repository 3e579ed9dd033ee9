/- Smart punctuation: a callback under way: what its buffer holds, what the renderer holds. Condition: lengths are bounded. -/
import Derived.Test.YtnkjnlmghnomiaaDoorPanE
import Derived.Test.YtnkjnlmghnomiaaDoorPanF
import Derived.Test.YtnkjnlmghnomiaaDoorBufE
import Derived.Test.YtnkjnlmghnomiaaDoorBufF
namespace Go.Proofs.YtnkjnlmghnomiaaDoor
open Go.ChangeShapes Go.WideShapes Go.ChangeAt Go.RowKit

/-- the renderer's cells, its two flags whatever they are -/
def rRow (F : Cfg) (B : Nat) (va : Value) (s d : Bool) (j : Nat) : Value := if j = 0 then .bool s else if j = 1 then .bool d else want F B va (j - 2)
def Rd (F : Cfg) (B : Nat) (va : Value) (w : World) : Prop := ∃ s d, w.rowIs B 72 258 (rRow F B va s d)
theorem Rd.new {F : Cfg} {B : Nat} {va : Value} {w : World} (h : SPRow F B va (fun _ => true) w) : Rd F B va w :=
  ⟨false, false, World.rowIs.congr h fun j _ => by
    unfold spRow rRow
    rcases (show j = 0 ∨ j = 1 ∨ 2 ≤ j by omega) with e | e | e
    · subst e; rfl
    · subst e; rfl
    · rw [if_neg (show ¬ j < 2 by omega), if_pos rfl, if_neg (show ¬ j = 0 by omega), if_neg (show ¬ j = 1 by omega)]⟩
theorem Rd.lt {F : Cfg} {B : Nat} {va : Value} {w : World} (h : Rd F B va w) : B < w.heap.size := by
  obtain ⟨s, d, h⟩ := h
  exact World.rowIs.lt h
theorem Rd.of_block {F : Cfg} {B : Nat} {va : Value} {w w' : World} (h : Rd F B va w) (hb : w'.heap[B]? = w.heap[B]?) : Rd F B va w' := by
  obtain ⟨s, d, h⟩ := h
  exact ⟨s, d, World.rowIs.of_block h hb⟩
theorem Rd.set {F : Cfg} {B : Nat} {va : Value} {w : World} (h : Rd F B va w) (i : Nat) (hi : i < 2) (v : Bool) : Rd F B va (w.setCell ⟨B, i, none⟩ (.bool v)) := by
  obtain ⟨s, d, h⟩ := h
  rcases (show i = 0 ∨ i = 1 by omega) with rfl | rfl
  · refine ⟨v, d, (World.rowIs.set h 0 (.bool v)).congr fun j _ => ?_⟩
    unfold rRow
    by_cases e : j = 0
    · rw [if_pos e, if_pos e]
    · rw [if_neg e, if_neg e, if_neg e]
  · refine ⟨s, v, (World.rowIs.set h 1 (.bool v)).congr fun j _ => ?_⟩
    unfold rRow
    by_cases e : j = 1
    · rw [if_pos e, if_neg (show ¬ j = 0 by omega), if_pos e]
    · simp only [if_neg e]
theorem Rd.flag {F : Cfg} {B : Nat} {va : Value} {w : World} (h : Rd F B va w) (i : Nat) (hi : i < 2) : (∃ x : Bool, w.cell? ⟨B, i, none⟩ = some (.bool x)) ∧ w.frozen? ⟨B, i, none⟩ = false := by
  obtain ⟨s, d, h⟩ := h
  refine ⟨?_, World.rowIs.frozen h i⟩
  rw [World.rowIs.cell h (show i < 258 by omega)]
  rcases (show i = 0 ∨ i = 1 by omega) with rfl | rfl
  · exact ⟨s, rfl⟩
  · exact ⟨d, rfl⟩
theorem Rd.call {F : Cfg} {B : Nat} {va : Value} {w : World} (h : Rd F B va w) (c : Nat) (hc : c < 256) : w.cell? ⟨B, 2 + c, none⟩ = some (want F B va c) := by
  obtain ⟨s, d, h⟩ := h
  rw [World.rowIs.cell h (show 2 + c < 258 by omega)]
  unfold rRow
  rw [if_neg (by omega), if_neg (by omega), Nat.add_sub_cancel_left]

/-- a callback under way -/
structure Cb (F : Cfg) (B : Nat) (va : Value) (b : Nat) (w0 w : World) (l : List UInt8) : Prop where
  buf : ∃ g, BufAt w b g l ∧ ∀ r, g = some r → w0.heap.size ≤ r
  but : But (fun k => k = b ∨ k = B) w0 w
  rd : Rd F B va w
  bB : b ≠ B
  lt : B < w0.heap.size
  blt : b < w0.heap.size
theorem Cb.start {F : Cfg} {B : Nat} {va : Value} {b : Nat} {w : World} (h : BufAt w b none []) (hr : Rd F B va w) (hb : b ≠ B) : Cb F B va b w w [] :=
  ⟨⟨none, h, fun _ e => by cases e⟩, But.refl _ _, hr, hb, hr.lt, h.lt⟩
theorem Cb.below {F : Cfg} {B : Nat} {va : Value} {b : Nat} {w0 w w' : World} {l : List UInt8} (h : Cb F B va b w0 w l) (hb : Below w.heap.size w w') : Cb F B va b w0 w' l := by
  obtain ⟨g, hg, hn⟩ := h.buf
  have hs := h.but.size
  refine ⟨⟨g, hg.of_block (hb.block b hg.lt) (fun r e => ?_), hn⟩, h.but.below hb, h.rd.of_block (hb.block B h.rd.lt), h.bB, h.lt, h.blt⟩
  rcases hg with ⟨e2, _⟩ | ⟨r', _, _, e2, _, _, _, h5, _⟩
  · rw [e2] at e; cases e
  · rw [e2] at e
    cases e
    exact hb.block r (Array.getElem?_eq_some_iff.1 h5).1
theorem Cb.flag {F : Cfg} {B : Nat} {va : Value} {b : Nat} {w0 w : World} {l : List UInt8} (h : Cb F B va b w0 w l) (i : Nat) (hi : i < 2) (v : Bool) : Cb F B va b w0 (w.setCell ⟨B, i, none⟩ (.bool v)) l := by
  obtain ⟨g, hg, hn⟩ := h.buf
  refine ⟨⟨g, hg.of_block (heap_far _ _ _ _ (fun e => h.bB e.symm)) (fun r e => heap_far _ _ _ _ (fun e2 => ?_)), hn⟩, h.but.set ⟨B, i, none⟩ _ (Or.inr rfl), h.rd.set i hi v, h.bB, h.lt, h.blt⟩
  have e2 : B = r := e2
  have := hn r e
  have := h.lt
  omega
theorem Cb.wrote {F : Cfg} {B : Nat} {va : Value} {b : Nat} {g : Option Nat} {w0 w w' : World} {l m : List UInt8} (h : Cb F B va b w0 w l) (hn : ∀ r, g = some r → w0.heap.size ≤ r) (hw : WroteAt b g l m w w') : Cb F B va b w0 w' (l ++ m) ∧ w'.heap[B]? = w.heap[B]? := by
  obtain ⟨g', h1, h2, h3⟩ := hw
  have hs := h.but.size
  have hlt := h.lt
  have hBk : w'.heap[B]? = w.heap[B]? := h2.block B h.rd.lt (by
    rintro (e | e)
    · exact h.bB e.symm
    · have := hn B e.symm
      omega)
  refine ⟨⟨⟨g', h1, fun r e => ?_⟩, h.but.join h2 (fun k hk e => ?_), h.rd.of_block hBk, h.bB, h.lt, h.blt⟩, hBk⟩
  · rcases h3 r e with e2 | e2
    · exact hn r e2
    · omega
  · rcases e with e | e
    · exact Or.inl e
    · have := hn k e.symm
      omega
theorem Cb.str {F : Cfg} {B : Nat} {va : Value} {b : Nat} {w0 w : World} {l : List UInt8} (h : Cb F B va b w0 w l) (s : ByteArray) (m : List UInt8) (hm : s.data.toList = m) (hs : 1 ≤ m.length) (hl : l.length + m.length ≤ 1000000000) :
    Calls Tryd.prog 54 #[.pointer (some ⟨b, 0, none⟩), .string s] w fun e w' => e = .returned (.tuple #[.int .i64 s.size, .nilIface]) ∧ Cb F B va b w0 w' (l ++ m) := by
  subst hm
  rw [← Lib.size_eq] at hs hl
  obtain ⟨g, hg, hn⟩ := h.buf
  exact (writeString_any growOk b g l s w hg hs hl).mono fun e w' ⟨h1, h2⟩ => ⟨h1, (h.wrote hn h2).1⟩
theorem Cb.byte {F : Cfg} {B : Nat} {va : Value} {b : Nat} {w0 w : World} {l : List UInt8} (h : Cb F B va b w0 w l) (c : UInt8) (n : Int) (hc : (c.toNat : Int) = n) (hl : l.length + 1 ≤ 1000000000) :
    Calls Tryd.prog 55 #[.pointer (some ⟨b, 0, none⟩), .int .u8 n] w fun e w' => e = .returned .nilIface ∧ Cb F B va b w0 w' (l ++ [c]) := by
  subst hc
  obtain ⟨g, hg, hn⟩ := h.buf
  exact (writeByte_any growOk b g l c w hg hl).mono fun e w' ⟨h1, h2⟩ => ⟨h1, (h.wrote hn h2).1⟩
theorem Cb.text {F : Cfg} {B : Nat} {va : Value} {b : Nat} {w0 w : World} {p : Option Addr} {n : Nat} {l m : List UInt8} (h : Cb F B va b w0 w l) (hp : Bs w0 p n m) (hb : ∀ a, p = some a → a.block ≠ b ∧ a.block ≠ B) : Bs w p n m :=
  hp.of_but h.but (fun a e => by
    obtain ⟨h1, h2⟩ := hb a e
    rintro (e2 | e2)
    · exact h1 e2
    · exact h2 e2)
theorem Cb.write {F : Cfg} {B : Nat} {va : Value} {b pb po n c : Nat} {w0 w : World} {l m : List UInt8} (h : Cb F B va b w0 w l) (hp : Bs w (some ⟨pb, po, none⟩) n m) (hpb : pb ≠ b) (hn1 : 1 ≤ n) (hl : l.length + n ≤ 1000000000) :
    Calls Tryd.prog 57 #[.pointer (some ⟨b, 0, none⟩), .slice (some ⟨pb, po, none⟩) n c] w fun e w' => e = .returned (.tuple #[.int .i64 n, .nilIface]) ∧ Cb F B va b w0 w' (l ++ m) := by
  obtain ⟨g, hg, hn⟩ := h.buf
  exact (write_any growOk b pb po n c g l m w hg hp hpb hn1 hl).mono fun e w' ⟨h1, h2⟩ => ⟨h1, (h.wrote hn h2).1⟩
/-- .. and what a flag of the renderer is -/
structure CbF (F : Cfg) (B : Nat) (va : Value) (b i : Nat) (op : Bool) (w0 w : World) (l : List UInt8) : Prop extends Cb F B va b w0 w l where
  flag : w.cell? ⟨B, i, none⟩ = some (.bool op)
theorem CbF.str {F : Cfg} {B : Nat} {va : Value} {b i : Nat} {op : Bool} {w0 w : World} {l : List UInt8} (h : CbF F B va b i op w0 w l) (s : ByteArray) (m : List UInt8) (hm : s.data.toList = m) (hs : 1 ≤ m.length) (hl : l.length + m.length ≤ 1000000000) :
    Calls Tryd.prog 54 #[.pointer (some ⟨b, 0, none⟩), .string s] w fun e w' => e = .returned (.tuple #[.int .i64 s.size, .nilIface]) ∧ CbF F B va b i op w0 w' (l ++ m) := by
  subst hm
  rw [← Lib.size_eq] at hs hl
  obtain ⟨g, hg, hn⟩ := h.buf
  exact (writeString_any growOk b g l s w hg hs hl).mono fun e w' ⟨h1, h2⟩ => ⟨h1, (h.toCb.wrote hn h2).1, by have := (h.toCb.wrote hn h2).2; simpa [World.cell?, this] using h.flag⟩
theorem CbF.byte {F : Cfg} {B : Nat} {va : Value} {b i : Nat} {op : Bool} {w0 w : World} {l : List UInt8} (h : CbF F B va b i op w0 w l) (c : UInt8) (n : Int) (hc : (c.toNat : Int) = n) (hl : l.length + 1 ≤ 1000000000) :
    Calls Tryd.prog 55 #[.pointer (some ⟨b, 0, none⟩), .int .u8 n] w fun e w' => e = .returned .nilIface ∧ CbF F B va b i op w0 w' (l ++ [c]) := by
  subst hc
  obtain ⟨g, hg, hn⟩ := h.buf
  exact (writeByte_any growOk b g l c w hg hl).mono fun e w' ⟨h1, h2⟩ => ⟨h1, (h.toCb.wrote hn h2).1, by have := (h.toCb.wrote hn h2).2; simpa [World.cell?, this] using h.flag⟩
theorem Cb.toF {F : Cfg} {B : Nat} {va : Value} {b : Nat} {w0 w : World} {l : List UInt8} (h : Cb F B va b w0 w l) (i : Nat) (hi : i < 2) (v : Bool) : CbF F B va b i v w0 (w.setCell ⟨B, i, none⟩ (.bool v)) l := by
  obtain ⟨⟨x, hx⟩, _⟩ := h.rd.flag i hi
  exact ⟨h.flag i hi v, World.cell?_setCell_same _ _ _ hx⟩
/-- what a callback answers -/
def CbSaid (F : Cfg) (B : Nat) (va : Value) (b : Nat) (o : List UInt8) (k : Nat) (w : World) (e : Ending) (w' : World) : Prop := e = .returned (.int .i64 k) ∧ Cb F B va b w w' o

end Go.Proofs.YtnkjnlmghnomiaaDoor
