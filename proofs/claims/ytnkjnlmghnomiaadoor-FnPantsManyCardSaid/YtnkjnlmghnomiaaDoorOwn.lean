/- The copies of a slice of bytes (impl.own, bytes.Clone): the copy reads as the slice, and nothing that was there has turned. No condition but the length's bound. -/
import Derived.Test.YtnkjnlmghnomiaaDoorBase
namespace Go.Proofs.YtnkjnlmghnomiaaDoor
open Go.ChangeShapes Go.WideShapes Go.ChangeAt Go.RowKit

/-- the cells of a list of bytes -/
def vals (l : List UInt8) : List Value := l.map fun c => Value.int .u8 (c.toNat : Int)

theorem vals_length (l : List UInt8) : (vals l).length = l.length := by simp [vals]
theorem vals_get (l : List UInt8) (j : Nat) (h : j < l.length) : (vals l)[j]? = some (.int .u8 (bat l j)) := by
  simp [vals, bat, h]
theorem vals_append (l m : List UInt8) : vals (l ++ m) = vals l ++ vals m := by simp [vals]
theorem vals_one (l : List UInt8) : ∀ u ∈ vals l, u.oneCell' = true := by
  intro u hu
  obtain ⟨x, _, rfl⟩ := List.mem_map.1 hu
  rfl

/-- a new block of a text's bytes -/
theorem Bs.new (w : World) (l : List UInt8) (cs : Array Value) (t : TypeId) (m : Nat × Nat) (n : Nat) (hn : l.length = n) (hc : cs.toList = vals l) : Bs (w.alloc (.cells cs t m)) (some ⟨w.heap.size, 0, none⟩) n l := by
  refine ⟨hn, fun _ => ⟨w.heap.size, 0, rfl, by simp, fun i hi => ?_⟩⟩
  have hv := vals_get l i (by omega)
  rw [Nat.zero_add, World.cell?_alloc_mark]
  rw [← hv, ← hc]
  simp

theorem Bs.newAt (w : World) (b : Nat) (hb : b = w.heap.size) (l : List UInt8) (cs : Array Value) (t : TypeId) (m : Nat × Nat) (n : Nat) (hn : l.length = n) (hc : cs.toList = vals l) : Bs (w.alloc (.cells cs t m)) (some ⟨b, 0, none⟩) n l := by
  subst hb
  exact Bs.new w l cs t m n hn hc

/-- the value v is a slice of the call's own (from block B on) that holds the bytes l -/
def Owns (w : World) (B : Nat) (v : Value) (l : List UInt8) : Prop := w.ownsRow B 5 1 v l.length (vals l)

theorem Owns.bs {w : World} {B : Nat} {v : Value} {l : List UInt8} (h : Owns w B v l) : ∃ p c, v = .slice p l.length c ∧ l.length ≤ c ∧ c ≤ maxLen ∧ Bs w p l.length l := by
  have h' : w.ownsRow B 5 1 v l.length (vals l) := h
  rcases h.2 with ⟨hv, h0⟩ | ⟨g, cap, cur, hv, hB, hg, hn, hcm, _, _⟩
  · exact ⟨none, 0, by rw [hv, h0], by omega, Nat.zero_le _, rfl, fun hp => by omega⟩
  · refine ⟨_, cap, hv, hn, hcm, rfl, fun hp => ⟨g, 0, rfl, (Array.getElem?_eq_some_iff.1 hg).1, fun i hi => ?_⟩⟩
    have := h'.cells (g := g) (by rw [hv]; rfl) i _ (vals_get l i hi)
    have hadd : (⟨g, 0, none⟩ : Addr).add i = ⟨g, i, none⟩ := by unfold Addr.add; split <;> simp_all
    rw [hadd] at this
    simpa using this

theorem Tryd.info5 : (Tryd.prog.info? 5).map (fun i => (i.zero, i.size, i.bytes)) = some (some (.int .u8 0), 1, 1) := by kernel_rfl

set_option maxHeartbeats 400000 in
theorem own_any (p : Option Addr) (n c : Nat) (l : List UInt8) (w : World) (h : Bs w p n l) (hn : n ≤ 140737488355328) :
    Calls Tryd.prog 21 #[.slice p n c] w fun e w' => ∃ v', e = .returned v' ∧ Owns w' w.heap.size v' l ∧ Below w.heap.size w w' := by
  have q22 : ∀ (w : World) (a : Option Addr) (n c n' c' : Nat), (binOp .eql 27 (.slice a n c) (.slice none n' c')).run Tryd.prog w = .ok (.bool a.isNone) w := fun w a n c n' c' => Lib.run_eql_slice_nil w _ _ a n c n' c' Tryd.underlying27
  have HL := Lib.hid h.len
  cases p with
  | none =>
    have h0 : n = 0 := by
      by_cases hp : 0 < n
      · obtain ⟨b, o, e, _⟩ := h.cells hp
        cases e
      · omega
    clear h
    go_enter Tryd.func21, Tryd.ntmps21
    go_wp2
    go_ret
    have hl : l = [] := List.eq_nil_of_length_eq_zero (by rw [HL.out, h0])
    subst hl
    exact ⟨_, rfl, World.ownsRow_nil _ _ _ _, Below.refl _ _⟩
  | some a =>
    have H := Lib.hid h
    clear h
    obtain ⟨i0, hi, hz0, hz1, hz2⟩ := info_parts Tryd.info5
    go_enter Tryd.func21, Tryd.ntmps21
    go_wp2_with (at_builtin; refine wpList_append_own _ rfl _ _ 27 rfl w.heap.size 5 i0 (.int .u8 0) 1 1 Tryd.underlying27 hi hz0 hz1 hz2 rfl (by decide) _ _ _ rfl (World.ownsRow_made w #[] 0 (Nat.le_refl _) (Nat.zero_le _) rfl) a n c (vals l) rfl ?qc1 ?qc2 ?qc3 ?qc4 ?qc5 ?qc6 ?_)
    case qc1 => rw [vals_length, HL.out, Nat.mul_one]
    case qc2 =>
      intro j u hj
      have hjn : j < n := by
        have := (List.getElem?_eq_some_iff.1 hj).1
        rw [vals_length, HL.out] at this
        exact this
      have hjl : j < l.length := by rw [HL.out]; exact hjn
      refine Lib.cell?_alloc_some _ ?_
      rw [vals_get l j hjl] at hj
      obtain ⟨b, o, e, _, hc⟩ := H.out.cells (by omega)
      cases e
      rw [Addr.add_lit]
      rw [← hj]
      exact hc j hjn
    case qc3 => exact vals_one l
    case qc4 => unfold maxLen; omega
    case qc5 => omega
    case qc6 => simp
    intro v' w1 hown hgrow hnil
    go_wp2
    go_ret
    refine ⟨v', rfl, ?_, ?_⟩
    · unfold Owns
      rw [HL.out]
      simpa using hown
    · exact ((Below.refl _ w).alloc (Nat.le_refl _) _).grown hgrow (by simp) (by intro k hk; simp [Value.ownBlock] at hk; omega)

/-- the copy, as a slice that reads as the bytes -/
theorem own_bs (p : Option Addr) (n c : Nat) (l : List UInt8) (w : World) (h : Bs w p n l) (hn : n ≤ 140737488355328) :
    Calls Tryd.prog 21 #[.slice p n c] w fun e w' => ∃ p' c', e = .returned (.slice p' n c') ∧ n ≤ c' ∧ c' ≤ maxLen ∧ Bs w' p' n l ∧ Below w.heap.size w w' :=
  (own_any p n c l w h hn).mono fun e w' ⟨v', he, ho, hb⟩ => by
    obtain ⟨p', c', hv, hc, hcm, hbs⟩ := ho.bs
    have hl := h.len
    exact ⟨p', c', by rw [he, hv, hl], by omega, hcm, hl ▸ hbs, hb⟩

/-- one byte is appended to a row of bytes of the call's own -/
theorem app_byte {ops : Array Oper} {rest : List Oper} {o : Oper} {a : Act} {Q : Exit → Act → World → Prop} (hgd : o.guard = none) (s x : Operand)
    (ho : o.op = .call { callee := .builtin .append, args := #[s, x], argTypes := #[27, 27] }) (B : Nat) (v : Value) (l : List UInt8) (hs : a.eval s = v) {W : World}
    (hown : Owns W B v l) (u : Value) (c : UInt8) (hu : u = .int .u8 (c.toNat : Int)) (hx : a.eval x = .slice (some ⟨W.heap.size, 0, none⟩) 1 1) (hn : l.length ≤ 1000000000) (hB : B ≤ W.heap.size)
    (h : ∀ v' w', Owns w' B v' (l ++ [c]) → v' ≠ .slice none 0 0 → Below B W w' → (∀ k, k < W.heap.size → some k ≠ v.ownBlock → w'.heap[k]? = W.heap[k]?) → wpList Tryd.prog ops Q rest (a.put o.dst v') w') :
    wpList Tryd.prog ops Q (o :: rest) a (W.alloc (.cells #[u] 5)) := by
  obtain ⟨i0, hi, hz0, hz1, hz2⟩ := info_parts Tryd.info5
  refine wpList_append_own _ hgd s x 27 ho B 5 i0 (.int .u8 0) 1 1 Tryd.underlying27 hi hz0 hz1 hz2 rfl (by decide) v l.length (vals l) hs (World.ownsRow.alloc hown _) ⟨W.heap.size, 0, none⟩ 1 1 [u] hx rfl ?_ ?_ (by unfold maxLen; omega) (by omega) (by simp; omega) ?_
  · intro j y hj
    match j with
    | 0 =>
      simp at hj
      subst hj
      simp [Addr.add, World.cell?_alloc_new]
    | j + 1 => simp at hj
  · intro y hy
    simp at hy
    subst hy
    rw [hu]
    rfl
  · intro v' w' hown' hg hnil
    refine h v' w' ?_ ?_ (((Below.refl B W).alloc hB _).grown hg (by simp; omega) (fun k hk => ?_)) (fun k hk hne => ?_)
    · unfold Owns
      rw [vals_append, List.length_append, ← (show [u] = vals [c] by rw [hu]; rfl)]
      exact hown'
    · intro e
      have := (hnil.1 e).2
      omega
    · exact (World.ownsRow.lt hown k hk).1
    · rw [hg.block k (by simp; omega) hne]
      exact Below.heap_alloc _ _ _ hk

theorem Owns.kept {w w' : World} {B : Nat} {v : Value} {l : List UInt8} (h : Owns w B v l) (hk : ∀ k, k < w.heap.size → w'.heap[k]? = w.heap[k]?) : Owns w' B v l := by
  refine ⟨h.1, ?_⟩
  rcases h.2 with hn | ⟨g, cap, cur, hv, hB, hg, rest⟩
  · exact .inl hn
  · exact .inr ⟨g, cap, cur, hv, hB, by rw [hk g (Array.getElem?_eq_some_iff.1 hg).1]; exact hg, rest⟩

theorem Owns.below {w w' : World} {B B' : Nat} {v : Value} {l : List UInt8} (h : Owns w B v l) (hb : Below B' w w') (hB : w.heap.size ≤ B') : Owns w' B v l :=
  h.kept fun k hk => hb.block k (by omega)

/-- what a row's proof is told of a slice of integers that came in -/
def IsRow (k : IntKind) (w : World) (a : Option Addr) (len cap : Nat) (zs : List Int) : Prop :=
  (a = none ∧ len = 0 ∧ cap = 0 ∧ zs = []) ∨
  ∃ x, a = some x ∧ len ≤ cap ∧ cap ≤ maxLen ∧ zs.length = cap ∧ (∀ i, i < zs.length → w.cell? (x.add i) = some (.int k (zs.getD i 0))) ∧ ∀ n ∈ zs, (Lit.int k n).wf = true

theorem u8_back (n : Int) (h : (Lit.int .u8 n).wf = true) : ((UInt8.ofNat n.toNat).toNat : Int) = n := by
  have := bounds_u8 h
  simp only [UInt8.toNat_ofNat']
  omega

/-- a slice of bytes that came in reads as a list of bytes -/
theorem IsRow.bs {w : World} {a : Option Addr} {len cap : Nat} {zs : List Int} (h : IsRow .u8 w a len cap zs) : ∃ l, Bs w a len l ∧ len ≤ cap ∧ cap ≤ maxLen := by
  rcases h with ⟨rfl, rfl, rfl, rfl⟩ | ⟨x, rfl, hl, hm, hz, hc, hw⟩
  · exact ⟨[], ⟨rfl, fun h => absurd h (Nat.lt_irrefl 0)⟩, Nat.le_refl _, Nat.zero_le _⟩
  · refine ⟨(zs.take len).map (fun n => UInt8.ofNat n.toNat), ⟨by simp; omega, fun hn => ?_⟩, hl, hm⟩
    obtain ⟨b, off, spot⟩ := x
    have h0 := hc 0 (by omega)
    have hspot : spot = none := by simpa [Addr.add] using World.cell?_spot h0
    subst hspot
    have e0 : w.cell? ⟨b, off, none⟩ = some (.int .u8 (zs.getD 0 0)) := by simpa [Addr.add] using h0
    refine ⟨b, off, rfl, World.block_lt_of_cell? w _ e0, fun i hi => ?_⟩
    have hi2 : i < zs.length := by omega
    have h1 := hc i hi2
    have hadd : (⟨b, off, none⟩ : Addr).add i = ⟨b, off + i, none⟩ := by unfold Addr.add; split <;> simp_all
    rw [hadd] at h1
    rw [h1]
    have hb : bat ((zs.take len).map (fun n => UInt8.ofNat n.toNat)) i = zs.getD i 0 := by
      unfold bat
      simp only [List.getD, List.getElem?_map, List.getElem?_take, if_pos hi, List.getElem?_eq_getElem hi2, Option.map_some, Option.getD_some]
      exact u8_back _ (hw _ (List.getElem_mem hi2))
    rw [hb]

end Go.Proofs.YtnkjnlmghnomiaaDoor
