/- Ids: what makes an id unique, over the ids that were given before. Plain law, no program in sight. -/
import Derived.Maps.OwnSet
import Derived.Test.YtnkjnlmghnomiaaDoorBase
namespace Go.Proofs.YtnkjnlmghnomiaaDoor
open Go.Maps

/-- the ids that were given, each with its count -/
def Ids := ByteArray → Option Int
def Ids.upd (f : Ids) (s : ByteArray) (v : Int) : Ids := fun t => if t = s then some v else f t
theorem Ids.upd_isSome (f : Ids) (s : ByteArray) (v : Int) (t : ByteArray) : (f.upd s v t).isSome = ((f t).isSome || decide (t = s)) := by
  unfold Ids.upd
  by_cases h : t = s <;> simp [h]

/-- the datum of a map reads as ids with counts -/
structure MapIs (D : DataW Unit) (f : Ids) : Prop where
  map : IsMap D
  has : ∀ s : ByteArray, Maps.has D (.string s.data.toList) = (f s).isSome
  at' : ∀ s : ByteArray, D.atKey (.string s.data.toList) (.lit (.int .i64 0)) = .lit (.int .i64 ((f s).getD 0))

theorem MapIs.empty : MapIs (.map []) (fun _ => none) := ⟨⟨[], rfl⟩, fun _ => rfl, fun _ => rfl⟩
theorem key_inj {s t : ByteArray} (h : t ≠ s) : Lit.string t.data.toList ≠ Lit.string s.data.toList := by
  intro e
  injection e with e
  exact h (ByteArray.ext (Array.toList_inj.1 e))
theorem MapIs.put {D : DataW Unit} {f : Ids} (h : MapIs D f) (s : ByteArray) (v : Int) : MapIs (D.put (.string s.data.toList) (.lit (.int .i64 v))) (f.upd s v) := by
  have hk : WideAt.IsKeyLit (.string s.data.toList) := by trivial
  refine ⟨?_, fun t => ?_, fun t => ?_⟩
  · obtain ⟨es, he⟩ := h.map
    subst he
    exact ⟨_, rfl⟩
  · by_cases e : t = s
    · subst e
      rw [has_put_same h.map hk]
      simp [Ids.upd]
    · rw [has_put_other (key_inj e), h.has]
      simp [Ids.upd, e]
  · by_cases e : t = s
    · subst e
      rw [atKey_put_same h.map hk]
      simp [Ids.upd]
    · rw [atKey_put_other (key_inj e), h.at']
      simp [Ids.upd, e]

/-- at most M bytes an id, counts from 0 to c -/
structure Good (f : Ids) (c : Int) (M : Nat) : Prop where
  val : ∀ s, 0 ≤ (f s).getD 0 ∧ (f s).getD 0 ≤ c
  len : ∀ s, (f s).isSome = true → s.size ≤ M
theorem Good.mono {f : Ids} {c c' : Int} {M M' : Nat} (h : Good f c M) (hc : c ≤ c') (hM : M ≤ M') : Good f c' M' :=
  ⟨fun s => ⟨(h.val s).1, Int.le_trans (h.val s).2 hc⟩, fun s hs => Nat.le_trans (h.len s hs) hM⟩
theorem Good.upd {f : Ids} {c : Int} {M : Nat} (h : Good f c M) (s : ByteArray) (v : Int) (h0 : 0 ≤ v) (h1 : v ≤ c) (hs : s.size ≤ M) : Good (f.upd s v) c M := by
  refine ⟨fun t => ?_, fun t ht => ?_⟩
  · unfold Ids.upd
    by_cases e : t = s
    · simp [e, h0, h1]
    · simp only [e, if_false]; exact h.val t
  · by_cases e : t = s
    · rw [e]; exact hs
    · unfold Ids.upd at ht
      simp only [e, if_false] at ht
      exact h.len t ht
theorem Good.empty : Good (fun _ => none) 0 0 := ⟨fun _ => ⟨Int.le_refl _, Int.le_refl _⟩, fun _ h => by cases h⟩

/-- one text begins another -/
def Pre (s t : ByteArray) : Prop := s.data.toList <+: t.data.toList
theorem Pre.refl (s : ByteArray) : Pre s s := List.prefix_rfl
theorem Pre.trans {s t u : ByteArray} (h1 : Pre s t) (h2 : Pre t u) : Pre s u := List.IsPrefix.trans h1 h2
theorem Pre.app (s t : ByteArray) : Pre s (s ++ t) := by
  unfold Pre
  rw [ByteArray.data_append, Array.toList_append]
  exact List.prefix_append _ _

/-- a call hands back t for s -/
structure Made (f : Ids) (s : ByteArray) (f' : Ids) (t : ByteArray) : Prop where
  new : (f t).isSome = false
  pre : Pre s t
  same : (f s).isSome = false → t = s
  keys : ∀ x, (f' x).isSome = ((f x).isSome || decide (x = t))

/-- what was handed back for the first ids, and what was given out then -/
structure Runs (ids got : Nat → ByteArray) (n : Nat) (f : Ids) : Prop where
  keys : ∀ x, (f x).isSome = true ↔ ∃ k, k < n ∧ got k = x
  pre : ∀ i, i < n → Pre (ids i) (got i)
  diff : ∀ i k, i < n → k < n → got i = got k → i = k
  same : ∀ i, i < n → (∀ k, k < i → got k ≠ ids i) → got i = ids i
theorem Runs.start (ids got : Nat → ByteArray) : Runs ids got 0 (fun _ => none) :=
  ⟨fun x => ⟨(fun h => by cases h), fun ⟨k, hk, _⟩ => absurd hk (Nat.not_lt_zero k)⟩, fun i hi => absurd hi (Nat.not_lt_zero i), fun i k hi => absurd hi (Nat.not_lt_zero i), fun i hi => absurd hi (Nat.not_lt_zero i)⟩
theorem Runs.step {ids got : Nat → ByteArray} {n : Nat} {f f' : Ids} (h : Runs ids got n f) (hm : Made f (ids n) f' (got n)) : Runs ids got (n + 1) f' := by
  have hnew : ∀ k, k < n → got k ≠ got n := by
    intro k hk e
    have := (h.keys (got n)).2 ⟨k, hk, e⟩
    rw [hm.new] at this
    cases this
  refine ⟨fun x => ?_, fun i hi => ?_, fun i k hi hk e => ?_, fun i hi hall => ?_⟩
  · rw [hm.keys, Bool.or_eq_true, h.keys, decide_eq_true_eq]
    constructor
    · rintro (⟨k, hk, e⟩ | e)
      · exact ⟨k, by omega, e⟩
      · exact ⟨n, by omega, e.symm⟩
    · rintro ⟨k, hk, e⟩
      by_cases hkn : k < n
      · exact Or.inl ⟨k, hkn, e⟩
      · have : k = n := by omega
        subst this
        exact Or.inr e.symm
  · by_cases hin : i < n
    · exact h.pre i hin
    · have : i = n := by omega
      subst this
      exact hm.pre
  · by_cases hin : i < n
    · by_cases hkn : k < n
      · exact h.diff i k hin hkn e
      · have : k = n := by omega
        subst this
        exact absurd e (hnew i hin)
    · have hi2 : i = n := by omega
      by_cases hkn : k < n
      · rw [hi2] at e
        exact absurd e.symm (hnew k hkn)
      · omega
  · by_cases hin : i < n
    · exact h.same i hin hall
    · have : i = n := by omega
      subst this
      refine hm.same ?_
      cases hx : (f (ids i)).isSome with
      | false => rfl
      | true =>
        obtain ⟨k, hk, e⟩ := (h.keys _).1 hx
        exact absurd e (hall k hk)
/-- an id that no other one is or begins stays -/
theorem Runs.alone {ids got : Nat → ByteArray} {n : Nat} {f : Ids} (h : Runs ids got n f) {i : Nat} (hi : i < n) (ha : ∀ k, k < n → k ≠ i → ¬ Pre (ids k) (ids i)) : got i = ids i := by
  refine h.same i hi fun k hk e => ?_
  have := h.pre k (by omega)
  rw [e] at this
  exact ha k (by omega) (by omega) this

end Go.Proofs.YtnkjnlmghnomiaaDoor
