/- Trees: what unlinking, appending and inserting do to the neighbours of nodes keeps these in agreement. Plain law, no program in sight. -/
import Derived.Test.YtccofockeemmkaaRRBase
namespace Go.Proofs.YtccofockeemmkaaRR

/-- the neighbours of nodes -/
structure Tr where
  par : Nat → Option Nat
  fst : Nat → Option Nat
  lst : Nat → Option Nat
  prv : Nat → Option Nat
  nxt : Nat → Option Nat

def upd (f : Nat → Option Nat) (i : Nat) (v : Option Nat) : Nat → Option Nat := fun x => if x = i then v else f x
theorem upd_at (f : Nat → Option Nat) (i : Nat) (v : Option Nat) (x : Nat) : upd f i v x = if x = i then v else f x := rfl

def unl1 (t : Tr) (n : Nat) : Tr := match t.prv n with
  | some p => { t with nxt := upd t.nxt p (t.nxt n) }
  | none => match t.par n with
    | some q => { t with fst := upd t.fst q (t.nxt n) }
    | none => t
def unl2 (t : Tr) (n : Nat) : Tr := match t.nxt n with
  | some m => { t with prv := upd t.prv m (t.prv n) }
  | none => match t.par n with
    | some q => { t with lst := upd t.lst q (t.prv n) }
    | none => t
def unl3 (t : Tr) (n : Nat) : Tr := { t with par := upd t.par n none, nxt := upd t.nxt n none, prv := upd t.prv n none }
def unl (t : Tr) (n : Nat) : Tr := unl3 (unl2 (unl1 t n) n) n

def app (t : Tr) (n c : Nat) : Tr := match t.lst n with
  | some k => { t with par := upd t.par c (some n), nxt := upd t.nxt k (some c), prv := upd t.prv c (some k), lst := upd t.lst n (some c) }
  | none => { t with par := upd t.par c (some n), fst := upd t.fst n (some c), lst := upd t.lst n (some c) }
def ins (t : Tr) (n s : Nat) : Tr := match t.prv n with
  | some p => { t with prv := upd (upd t.prv s (some p)) n (some s), nxt := upd (upd t.nxt p (some s)) s (some n), par := upd t.par s (t.par n) }
  | none => match t.par n with
    | some q => { t with prv := upd (upd t.prv s none) n (some s), nxt := upd t.nxt s (some n), par := upd t.par s (some q), fst := upd t.fst q (some s) }
    | none => t

/-- the neighbours agree with one another -/
structure Agree (t : Tr) : Prop where
  j1 : ∀ x c, t.fst x = some c → t.par c = some x ∧ t.prv c = none
  j2 : ∀ x c, t.lst x = some c → t.par c = some x ∧ t.nxt c = none
  j3 : ∀ x y, t.nxt x = some y → t.prv y = some x ∧ t.par y = t.par x
  j4 : ∀ x y, t.prv x = some y → t.nxt y = some x ∧ t.par y = t.par x
  j5 : ∀ x p, t.par x = some p → t.prv x = none → t.fst p = some x
  j6 : ∀ x p, t.par x = some p → t.nxt x = none → t.lst p = some x
  j7 : ∀ x, t.par x = none → t.prv x = none ∧ t.nxt x = none
  j8 : ∀ x, t.fst x = none ↔ t.lst x = none
/-- all neighbours are nodes -/
structure Within (t : Tr) (n : Nat) : Prop where
  b1 : ∀ x c, t.par x = some c → x < n ∧ c < n
  b2 : ∀ x c, t.fst x = some c → x < n ∧ c < n
  b3 : ∀ x c, t.lst x = some c → x < n ∧ c < n
  b4 : ∀ x c, t.prv x = some c → x < n ∧ c < n
  b5 : ∀ x c, t.nxt x = some c → x < n ∧ c < n

theorem unl_par (t : Tr) (n : Nat) : (unl t n).par = upd t.par n none := by
  rcases hp : t.prv n with _ | p <;> rcases hx : t.nxt n with _ | m <;> rcases hq : t.par n with _ | q <;>
    simp only [unl, unl1, unl2, unl3, hp, hx, hq, upd_at, ite_self]
theorem unl_agree {t : Tr} (h : Agree t) (n : Nat) : Agree (unl t n) := by
  obtain ⟨j1, j2, j3, j4, j5, j6, j7, j8⟩ := h
  rcases hp : t.prv n with _ | p <;> rcases hx : t.nxt n with _ | m <;> rcases hq : t.par n with _ | q <;>
    simp only [unl, unl1, unl2, unl3, hp, hx, hq, upd_at, ite_self] <;> constructor <;> grind [upd]
theorem unl_root {t : Tr} (n : Nat) : (unl t n).par n = none := by
  rw [unl_par, upd_at, if_pos rfl]
theorem app_agree {t : Tr} (h : Agree t) (n c : Nat) (hc : t.par c = none) : Agree (app t n c) := by
  obtain ⟨j1, j2, j3, j4, j5, j6, j7, j8⟩ := h
  rcases hl : t.lst n with _ | k <;> simp only [app, hl] <;> constructor <;> grind [upd]
theorem ins_agree {t : Tr} (h : Agree t) (n s : Nat) (hs : t.par s = none) (hn : t.par n ≠ none) : Agree (ins t n s) := by
  obtain ⟨j1, j2, j3, j4, j5, j6, j7, j8⟩ := h
  rcases hp : t.prv n with _ | p <;> rcases hq : t.par n with _ | q <;> simp only [ins, hp, hq] <;> constructor <;> grind [upd]

end Go.Proofs.YtccofockeemmkaaRR
