/- Trees: what impl.TreeRun makes, and what keeps it. Lemmas on worlds. -/
import Derived.Test.YtccofockeemmkaaRRTreeL
import Derived.Deep.AppendLies
import Derived.Deep.RegionHeldLaw
namespace Go.Proofs.YtccofockeemmkaaRR
open Go.ChangeShapes Go.WideShapes Go.ChangeAt Go.RowKit

/-- the neighbours of a node as numbers -/
def lcells (t : Tr) (k : Nat) : List Value := [.int .i64 (num1 (t.par k)), .int .i64 (num1 (t.fst k)), .int .i64 (num1 (t.lst k)), .int .i64 (num1 (t.prv k)), .int .i64 (num1 (t.nxt k))]
def links (t : Tr) (n : Nat) : List Value := (List.range n).flatMap (lcells t)
theorem links_succ (t : Tr) (n : Nat) : links t (n + 1) = links t n ++ lcells t n := by
  unfold links
  rw [List.range_succ, List.flatMap_append]
  simp
theorem links_len (t : Tr) (n : Nat) : (links t n).length = n * 5 := by
  induction n with
  | zero => rfl
  | succ n ih => rw [links_succ, List.length_append, ih]; simp [lcells]; omega
theorem links_at (t : Tr) (n k d : Nat) (hk : k < n) (hd : d < 5) : (links t n)[k * 5 + d]? = (lcells t k)[d]? := by
  induction n with
  | zero => omega
  | succ n ih =>
    rw [links_succ]
    by_cases e : k = n
    · subst e
      rw [List.getElem?_append_right (by rw [links_len]; omega), links_len]
      congr 1
      omega
    · rw [List.getElem?_append_left (by rw [links_len]; omega)]
      exact ih (by omega)

def tr0 : Tr := ⟨fun _ => none, fun _ => none, fun _ => none, fun _ => none, fun _ => none⟩
theorem tr0_agree : Agree tr0 := by
  constructor <;> simp [tr0]
theorem tr0_within : Within tr0 0 := by
  constructor <;> simp [tr0]
theorem Tree.start (w : World) (A : Nat → Nat) : Tree w w.heap.size (.slice none 0 0) 0 A tr0 :=
  ⟨Nat.le_refl _, World.ownsRow_nil _ _ _ _, ⟨fun i hi => absurd hi (Nat.not_lt_zero i), fun i _ hi => absurd hi (Nat.not_lt_zero i)⟩, tr0_agree, tr0_within, fun i hi => absurd hi (Nat.not_lt_zero i)⟩

/-- a state stays in a later world that has the same blocks -/
theorem Tree.later {w w' : World} {B : Nat} {v : Value} {n : Nat} {A : Nat → Nat} {t : Tr} (h : Tree w B v n A t) (hb : Below w.heap.size w w') : Tree w' B v n A t := by
  refine ⟨Nat.le_trans h.base hb.size, ownsRow_keep h.row fun k hk => hb.block k (World.ownsRow.lt h.row k hk).2, h.nodes.keep fun i hi => hb.block _ ?_, h.agree, h.within, h.above⟩
  obtain ⟨f, hr, _⟩ := h.nodes.rows i hi
  exact hr.lt
theorem own_later {w w' : World} {B : Nat} {e : TypeId} {sz : Nat} {v : Value} {n : Nat} {xs : List Value} (h : w.ownsRow B e sz v n xs) (hb : Below w.heap.size w w') : w'.ownsRow B e sz v n xs :=
  ownsRow_keep h fun k hk => hb.block k (World.ownsRow.lt h k hk).2
theorem own_base {w : World} {B B' : Nat} {e : TypeId} {sz : Nat} {v : Value} {n : Nat} {xs : List Value} (h : w.ownsRow B e sz v n xs) (hb : B' ≤ B) : w.ownsRow B' e sz v n xs := by
  refine ⟨h.1, ?_⟩
  rcases h.2 with h0 | ⟨g, cap, cur, hv, hB, hr⟩
  · exact Or.inl h0
  · exact Or.inr ⟨g, cap, cur, hv, by omega, hr⟩
theorem own_spare {w w' : World} {B : Nat} {e : TypeId} {sz : Nat} {v : Value} {n : Nat} {xs : List Value} (h : w.ownsRow B e sz v n xs) (hs : Spare w w') (h1 : e ≠ 61) (h2 : e ≠ 44) : w'.ownsRow B e sz v n xs := by
  refine ⟨h.1, ?_⟩
  rcases h.2 with h0 | ⟨g, cap, cur, hv, hB, hg, hr⟩
  · exact Or.inl h0
  · exact Or.inr ⟨g, cap, cur, hv, hB, by rw [hs.block g cur e _ hg h1 h2]; exact hg, hr⟩

/-- the rows of neighbours that have been gathered -/
def Rows' (w : World) (B : Nat) (nn : Nat → Nat) (tt : Nat → Tr) (rows : List Value) (m : Nat) : Prop :=
  rows.length = m ∧ ∀ j r, rows[j]? = some r → w.ownsRow B 37 5 r (nn (j + 1)) (links (tt (j + 1)) (nn (j + 1)))
theorem Rows'.later {w w' : World} {B : Nat} {nn : Nat → Nat} {tt : Nat → Tr} {rows : List Value} {m : Nat} (h : Rows' w B nn tt rows m) (hb : Below w.heap.size w w') : Rows' w' B nn tt rows m :=
  ⟨h.1, fun j r hr => own_later (h.2 j r hr) hb⟩
theorem Rows'.spare {w w' : World} {B : Nat} {nn : Nat → Nat} {tt : Nat → Tr} {rows : List Value} {m : Nat} (h : Rows' w B nn tt rows m) (hs : Spare w w') : Rows' w' B nn tt rows m :=
  ⟨h.1, fun j r hr => own_spare (h.2 j r hr) hs (by decide) (by decide)⟩

theorem own_block {w : World} {B : Nat} {e : TypeId} {sz : Nat} {v : Value} {n : Nat} {xs : List Value} (h : w.ownsRow B e sz v n xs) {k : Nat} (hk : v.ownBlock = some k) : ∃ cs, w.heap[k]? = some (.cells cs e (0, 0)) := by
  rcases h.2 with ⟨hv, _⟩ | ⟨g, cap, cur, hv, _, hgb, _⟩
  · rw [hv] at hk
    cases hk
  · rw [hv] at hk
    have e' : g = k := by simpa [Value.ownBlock] using hk
    exact ⟨cur, by rw [← e']; exact hgb⟩
/-- only the row of rows has turned -/
theorem own_aside {w w' : World} {B B' : Nat} {e e' : TypeId} {sz sz' : Nat} {v ov : Value} {n j : Nat} {xs rows : List Value} (h : w.ownsRow B e sz v n xs) (hO : w.ownsRow B' e' sz' ov j rows) (hne : e ≠ e')
    (hk : ∀ k, k < w.heap.size → some k ≠ ov.ownBlock → w'.heap[k]? = w.heap[k]?) : w'.ownsRow B e sz v n xs :=
  ownsRow_keep h fun k hv => by
    obtain ⟨cs, hc⟩ := own_block h hv
    exact hk k (blk_lt hc) (own_no hO hc hne)
theorem Tree.aside {w w' : World} {B B' : Nat} {v ov : Value} {n j : Nat} {A : Nat → Nat} {t : Tr} {rows : List Value} (h : Tree w B v n A t) (hO : w.ownsRow B' 35 1 ov j rows) (hs : w.heap.size ≤ w'.heap.size)
    (hk : ∀ k, k < w.heap.size → some k ≠ ov.ownBlock → w'.heap[k]? = w.heap[k]?) : Tree w' B v n A t := by
  refine ⟨Nat.le_trans h.base hs, own_aside h.row hO (by decide) hk, h.nodes.keep fun i hi => ?_, h.agree, h.within, h.above⟩
  obtain ⟨f, hr, _⟩ := h.nodes.rows i hi
  obtain ⟨cs, hc, _⟩ := hr
  exact hk _ (blk_lt hc) (own_no hO hc (by decide))
theorem Rows'.aside {w w' : World} {B B' : Nat} {ov : Value} {j : Nat} {nn : Nat → Nat} {tt : Nat → Tr} {rows orows : List Value} {m : Nat} (h : Rows' w B nn tt rows m) (hO : w.ownsRow B' 35 1 ov j orows)
    (hk : ∀ k, k < w.heap.size → some k ≠ ov.ownBlock → w'.heap[k]? = w.heap[k]?) : Rows' w' B nn tt rows m :=
  ⟨h.1, fun i r hr => own_aside (h.2 i r hr) hO (by decide) hk⟩
theorem Rows'.more {w : World} {B : Nat} {nn : Nat → Nat} {tt : Nat → Tr} {rows : List Value} {m : Nat} (h : Rows' w B nn tt rows m) {r : Value} (hr : w.ownsRow B 37 5 r (nn (m + 1)) (links (tt (m + 1)) (nn (m + 1)))) : Rows' w B nn tt (rows ++ [r]) (m + 1) := by
  refine ⟨by simp [h.1], fun j x hx => ?_⟩
  have hl := h.1
  rcases Nat.lt_or_ge j rows.length with hlt | hge
  · rw [List.getElem?_append_left hlt] at hx
    exact h.2 j x hx
  · rw [List.getElem?_append_right hge] at hx
    have e : j - rows.length = 0 := by
      rcases Nat.eq_zero_or_pos (j - rows.length) with e | e
      · exact e
      · rw [List.getElem?_eq_none (by simp; omega)] at hx; cases hx
    rw [e] at hx
    simp only [List.getElem?_cons_zero, Option.some.injEq] at hx
    have e2 : j = m := by omega
    rw [← hx, e2]
    exact hr

theorem links_info : (Try.prog.info? 37).map (fun i => (i.zero, i.size, i.bytes)) = some (some (.agg #[.int .i64 0, .int .i64 0, .int .i64 0, .int .i64 0, .int .i64 0]), 5, 40) := by kernel_rfl
theorem linksS_info : (Try.prog.info? 35).map (fun i => (i.zero, i.size, i.bytes)) = some (some (.slice none 0 0), 1, 24) := by kernel_rfl

/-- appending one row of neighbours, at a step of a region that draws -/
theorem app_links {ops : Array Oper} {o : Oper} {a : Act} {K : Act → World → Prop} {Q : Exit → Act → World → Prop} {E : Prop} (hgd : o.guard = none) (s x : Operand)
    (ho : o.op = .call { callee := .builtin .append, args := #[s, x], argTypes := #[35, 35] }) (B : Nat) (W W1 W2 : World) (v : Value) (k : Nat) (t : Tr) (hs : a.eval s = v)
    (hown : W1.ownsRow B 37 5 v k (links t k)) (hB : B ≤ W1.heap.size) (hbel : Below B W W1) (hn : k ≤ 1000000) (hW : W2 = (W1.alloc (.cells (lcells t k).toArray 37)))
    (hx : a.eval x = .slice (some ⟨W1.heap.size, 0, none⟩) 1 1)
    (h : ∀ v' w', (∃ p c, v' = .slice p (k + 1) c) → w'.ownsRow B 37 5 v' (k + 1) (links t (k + 1)) → Below B W w' → K (a.put o.dst v') w') :
    if Region.wanted o (yielded ops a.tmps) = true then Oper.wp Try.prog o a W2 K Q else E := by
  subst hW
  obtain ⟨i0, hi, hz0, hz1, hz2⟩ := info_parts links_info
  refine step_append_lies _ hgd s x 35 ho B 37 i0 _ 5 40 Try.underlying35 hi hz0 hz1 hz2 rfl (by decide) v k (links t k) hs (World.ownsRow.alloc hown _) ⟨W1.heap.size, 0, none⟩ 1 1 (lcells t k) hx (by simp [lcells]) ?_ ?_ (by decide) (by unfold maxLen; omega) (by omega) (by simp; omega) _ rfl ?_
  · intro j y hj
    rw [Addr.add_lit, Nat.zero_add, World.cell?_alloc_mark]
    simpa using hj
  · intro u hu
    simp only [lcells, List.mem_cons, List.not_mem_nil, or_false] at hu
    rcases hu with rfl | rfl | rfl | rfl | rfl <;> rfl
  · intro g cap w' h1 h2 h3 h4
    rw [← links_succ] at h1
    refine h _ _ ⟨_, _, rfl⟩ h1 ?_
    exact (hbel.alloc hB _).grown h2 (by simp; omega) (fun j hj => (World.ownsRow.lt hown j hj).1)

end Go.Proofs.YtccofockeemmkaaRR
