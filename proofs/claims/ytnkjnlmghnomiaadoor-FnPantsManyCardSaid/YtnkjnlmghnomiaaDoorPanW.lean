/- Smart punctuation: spec.PantLine walked: a text of pieces, and what it becomes. Condition: lengths are bounded. -/
import Derived.Test.YtnkjnlmghnomiaaDoorPanV
namespace Go.Proofs.YtnkjnlmghnomiaaDoor
open Go.ChangeShapes Go.WideShapes Go.ChangeAt Go.RowKit

/-- a piece that came in -/
structure PI where
  k : Int
  v : Int
  a : ByteArray
  b : ByteArray
  n : Int
  m : Int
def PI.pc (s : PI) : Pc := pcOf s.k s.v s.n s.m s.a s.b
/-- pieces in memory -/
structure Pcs (w : World) (p : Option Addr) (n : Nat) (S : Nat → PI) : Prop where
  cells : 0 < n → ∃ b o, p = some ⟨b, o, none⟩ ∧ b < w.heap.size ∧ ∀ i, i < n →
    w.cell? ⟨b, o + i * 6, none⟩ = some (.int .i64 (S i).k) ∧ w.cell? ⟨b, o + i * 6 + 1, none⟩ = some (.int .i64 (S i).v) ∧ w.cell? ⟨b, o + i * 6 + 2, none⟩ = some (.string (S i).a) ∧
    w.cell? ⟨b, o + i * 6 + 3, none⟩ = some (.string (S i).b) ∧ w.cell? ⟨b, o + i * 6 + 4, none⟩ = some (.int .i64 (S i).n) ∧ w.cell? ⟨b, o + i * 6 + 5, none⟩ = some (.int .i64 (S i).m)
theorem Pcs.below {w w' : World} {p : Option Addr} {n : Nat} {S : Nat → PI} {B : Nat} (h : Pcs w p n S) (hb : Below B w w') (hB : w.heap.size ≤ B) : Pcs w' p n S := by
  refine ⟨fun hm => ?_⟩
  obtain ⟨b, o, hp, hlt, hc⟩ := h.cells hm
  have hlt2 : b < B := by omega
  refine ⟨b, o, hp, Nat.lt_of_lt_of_le hlt hb.size, fun i hi => ?_⟩
  rw [hb.cell (p := ⟨b, o + i * 6, none⟩) hlt2, hb.cell (p := ⟨b, o + i * 6 + 1, none⟩) hlt2, hb.cell (p := ⟨b, o + i * 6 + 2, none⟩) hlt2, hb.cell (p := ⟨b, o + i * 6 + 3, none⟩) hlt2, hb.cell (p := ⟨b, o + i * 6 + 4, none⟩) hlt2, hb.cell (p := ⟨b, o + i * 6 + 5, none⟩) hlt2]
  exact hc i hi

theorem pcVal_eq {s : PI} (hk : OkP s.pc) (h0 : 0 ≤ s.k) (h1 : 0 ≤ s.v) : pcVal s.pc = pcV s.k s.v s.n s.m s.a s.b := by
  have h2 := hk.n1
  have h3 := hk.m1
  unfold PI.pc pcOf at *
  simp only at h2 h3
  simp only [pcVal, pcV, str_data]
  rw [Int.toNat_of_nonneg h0, Int.toNat_of_nonneg h1, Int.toNat_of_nonneg (by omega), Int.toNat_of_nonneg (by omega)]

theorem mnL_len {F : Cfg} {p : Pc} (hk : OkP p) : (mnL F p).length ≤ 150 := by
  have hw := wrL_len hk
  have hkind := hk.kind
  have ha := wordsL_len hk.a
  have hb : p.kind = 7 → p.b.length ≤ 43 := fun e => wordsL_len (oneL_words (hk.b e))
  have hn := decL_len hk.n2
  have hm := decL_len hk.m2
  obtain ⟨kind, v, a, b, n, q⟩ := p
  simp only at hkind ha hb hn hm
  have hq := fun op q nb => quoL_len op q nb
  have q1 := hq true (quoK F) false
  have q2 := hq false (quoK F) false
  have q3 := hq true 115 false
  have q4 := hq false 115 false
  have q5 := hq true (quoK F) F.nbsp
  have q6 := hq false (quoK F) F.nbsp
  have q7 := hq true 100 false
  have q8 := hq false 100 false
  have he := endL_len v
  have hd1 := dashL_len F v true
  have hd2 := dashL_len F v false
  have hs : (signM v).length ≤ 10 := by
    unfold signM
    repeat' split
    all_goals simp [copyL, regL, tradeL]
  have h15 : kind = 0 ∨ kind = 1 ∨ kind = 2 ∨ kind = 3 ∨ kind = 4 ∨ kind = 5 ∨ kind = 6 ∨ kind = 7 ∨ kind = 8 ∨ kind = 9 ∨ kind = 10 ∨ kind = 11 ∨ kind = 12 ∨ kind = 13 ∨ kind = 14 := by omega
  rcases h15 with rfl | rfl | rfl | rfl | rfl | rfl | rfl | rfl | rfl | rfl | rfl | rfl | rfl | rfl | rfl
  all_goals simp (decide := true) only [mnL, if_true, if_false, List.length_append, List.length_cons, List.length_nil, rsquoL, hellipL]
  all_goals first
    | omega
    | (have := hb rfl; omega)
    | skip
  unfold fractL
  split
  · simp only [List.length_append, List.length_cons, List.length_nil, supL, fraslL, subL]; omega
  · split
    · simp [fracL]
    · split
      · simp [fracL]
      · split
        · simp [fracL]
        · simp only [List.length_append, List.length_cons]; omega

/-- pieces with blanks behind them -/
def accL (f : Pc → List UInt8) : List Pc → List UInt8
  | [] => []
  | p :: r => f p ++ 32 :: accL f r
theorem accL_snoc (f : Pc → List UInt8) (ps : List Pc) (p : Pc) : accL f (ps ++ [p]) = accL f ps ++ (f p ++ [32]) := by
  induction ps with
  | nil => simp [accL]
  | cons x r ih => simp [accL, ih]
theorem accL_line (ps : List Pc) : accL wrL ps ++ [122, 122] = lineL ps := by
  induction ps with
  | nil => rfl
  | cons x r ih => simp [accL, lineL, ← ih]
theorem accL_mean (F : Cfg) (ps : List Pc) : accL (mnL F) ps ++ [122, 122] = meanL F ps := by
  induction ps with
  | nil => rfl
  | cons x r ih => simp [accL, meanL, ← ih]
theorem accL_len {f : Pc → List UInt8} {ps : List Pc} (h : ∀ p ∈ ps, (f p).length ≤ 150) : (accL f ps).length ≤ 151 * ps.length := by
  induction ps with
  | nil => simp [accL]
  | cons x r ih =>
    have := h x (List.mem_cons_self ..)
    have := ih fun p hp => h p (List.mem_cons_of_mem _ hp)
    simp only [accL, List.length_append, List.length_cons]
    omega
/-- do two dots stand at the end -/
def endD : Bool → List Pc → Bool
  | d, [] => d
  | _, p :: r => endD (p.kind == 10) r
theorem endD_snoc (d : Bool) (ps : List Pc) (p : Pc) : endD d (ps ++ [p]) = (p.kind == 10) := by
  induction ps generalizing d with
  | nil => rfl
  | cons x r ih => exact ih _
theorem OkL.snoc {d : Bool} {ps : List Pc} {p : Pc} (h : OkL d ps) (hp : OkP p) (hd : endD d ps = true → p.kind ≠ 9) : OkL d (ps ++ [p]) := by
  induction h with
  | nil => exact OkL.cons hp hd OkL.nil
  | cons h1 h2 h3 ih => exact OkL.cons h1 h2 (ih hd)
theorem OkL.mem {d : Bool} {ps : List Pc} (h : OkL d ps) : ∀ p ∈ ps, OkP p := by
  induction h with
  | nil => intro p hp; cases hp
  | cons h1 h2 h3 ih =>
    intro p hp
    rcases List.mem_cons.1 hp with e | e
    · rw [e]; exact h1
    · exact ih p e

/-- what PantLine answers -/
def LineSaid (F : Cfg) (n : Nat) (w : World) (e : Ending) (w' : World) : Prop :=
  ∃ (s1 s2 : ByteArray) (r : Bool), e = .returned (.tuple #[.string s1, .string s2, .bool r]) ∧ Below w.heap.size w w' ∧ (r = true → ∃ ps, OkL false ps ∧ ps.length = n ∧ s1 = str (lineL ps) ∧ s2 = str (meanL F ps))

end Go.Proofs.YtnkjnlmghnomiaaDoor
