/- Smart punctuation: laws.zzFits28 walked; what the law FnPantsMany lays and reads. Condition: the rows of pieces lie in memory as they are read. -/
import Derived.Test.YtnkjnlmghnomiaaDoorPamB
import Derived.Test.YtnkjnlmghnomiaaDoorPanY
namespace Go.Proofs.YtnkjnlmghnomiaaDoor
open Go.ChangeShapes Go.WideShapes Go.ChangeAt Go.RowKit

/-- a row of pieces that came in -/
structure RI where
  p : Option Addr
  n : Nat
  c : Nat
  S : Nat → PI
/-- rows of pieces in memory -/
structure PRows (w : World) (p : Option Addr) (n : Nat) (R : Nat → RI) : Prop where
  cells : 0 < n → ∃ b o, p = some ⟨b, o, none⟩ ∧ b < w.heap.size ∧ ∀ i, i < n → w.cell? ⟨b, o + i, none⟩ = some (.slice (R i).p (R i).n (R i).c)
  rows : ∀ i, i < n → Pcs w (R i).p (R i).n (R i).S ∧ (R i).n ≤ 9223372036854775807
theorem PRows.below {w w' : World} {p : Option Addr} {n : Nat} {R : Nat → RI} {B : Nat} (h : PRows w p n R) (hb : Below B w w') (hB : w.heap.size ≤ B) : PRows w' p n R := by
  refine ⟨fun hm => ?_, fun i hi => ⟨(h.rows i hi).1.below hb hB, (h.rows i hi).2⟩⟩
  obtain ⟨b, o, hp, hlt, hc⟩ := h.cells hm
  refine ⟨b, o, hp, Nat.lt_of_lt_of_le hlt hb.size, fun i hi => ?_⟩
  rw [hb.cell (p := ⟨b, o + i, none⟩) (by show b < B; omega)]
  exact hc i hi

def FitsR (R : RI) : Prop := ∀ j, j < R.n → (R.S j).a.size ≤ 2147483647 ∧ (R.S j).b.size ≤ 2147483647

set_option maxHeartbeats 4000000 in
set_option maxRecDepth 100000 in
theorem zzFits28_any (p : Option Addr) (n c : Nat) (R : Nat → RI) (w : World) (hR : PRows w p n R) (hn : n ≤ 9223372036854775807) :
    Calls Tryd.prog 10 #[.slice p n c] w fun e w' => ∃ r, e = .returned (.bool r) ∧ Below w.heap.size w w' ∧ (r = true → ∀ i, i < n → FitsR (R i)) := by
  have HR := Lib.hid hR
  clear hR
  by_cases hbig : 2147483647 < n
  · go_enter Tryd.func10, Tryd.ntmps10
    go_wp2_with fail
    go_ret
    exact ⟨false, rfl, Below.refl _ _, fun h => by cases h⟩
  go_enter Tryd.func10, Tryd.ntmps10
  go_wp2_with fail
  go_loopw [10] (fun t wr => ∃ i : Nat, i ≤ n ∧ t = .int .i64 i ∧ Below w.heap.size w wr ∧ ∀ j, j < i → FitsR (R j)) (fun t _ => n - (intOf t).toNat)
  case atStart => exact ⟨0, Nat.zero_le _, rfl, Below.refl _ _, fun j hj => absurd hj (Nat.not_lt_zero j)⟩
  case round =>
    obtain ⟨i, hi, rfl, hB, hall⟩ := hrel
    have HB := Lib.hid hB
    have HAll := Lib.hid hall
    clear hB hall
    by_cases hlt : i < n
    · obtain ⟨b, o, rfl, hb, hc⟩ := HR.out.cells (by omega)
      have d0 := (HB.out.cell (p := ⟨b, o + i, none⟩) hb).trans (hc i hlt)
      obtain ⟨hr1, hr2⟩ := HR.out.rows i hlt
      obtain ⟨s, hs⟩ : ∃ s, s = R i := ⟨_, rfl⟩
      rw [← hs] at d0 hr1 hr2
      have HSi := Lib.hid hs
      have HZ := Lib.hid (zzFits24_any s.p s.n s.c s.S wr (hr1.below HB.out (Nat.le_refl _)) hr2)
      clear hc hs hb hr1 hr2
      go_wp2_with fail
      refine HZ.out.mono ?_
      rintro e w1 ⟨r, rfl, hb1, hr⟩
      have HB1 := Lib.hid hb1
      have HRr := Lib.hid hr
      clear hb1 hr d0 HZ
      cases r with
      | false =>
        go_wp2_with fail
        go_ret
        exact ⟨false, rfl, HB.out.trans (HB1.out.mono HB.out.size), fun h => by cases h⟩
      | true =>
        go_wp2_with fail
        go_roundw
        case rel =>
          refine ⟨i + 1, by omega, by go_num, HB.out.trans (HB1.out.mono HB.out.size), fun j hj => ?_⟩
          by_cases e : j = i
          · rw [e, ← HSi.out]
            exact (HRr.out trivial).2
          · exact HAll.out j (by omega)
        case measure => simp [intOf]; omega
    · obtain rfl : i = n := by omega
      clear hlt
      go_wp2_with fail
      go_ret
      exact ⟨true, rfl, HB.out, fun _ => HAll.out⟩

/-- an own row of strings and one of texts, side by side -/
theorem own_cells {w : World} {B : Nat} {e : TypeId} {v : Value} {n : Nat} {V : Nat → Value} (h : w.ownsRow B e 1 v n (rowV V n)) : ∃ p c, v = .slice p n c ∧ (0 < n → ∃ b, p = some ⟨b, 0, none⟩ ∧ b < w.heap.size ∧ ∀ i, i < n → w.cell? ⟨b, i, none⟩ = some (V i)) := by
  rcases h.2 with ⟨hv, h0⟩ | ⟨g, cap, cur, hv, hB, hg, hn, hcm, _, _⟩
  · exact ⟨none, 0, by rw [hv, h0], fun hp => by omega⟩
  · refine ⟨_, cap, hv, fun hp => ⟨g, rfl, heap_in hg, fun i hi => ?_⟩⟩
    have hc := h.cells (g := g) (by rw [hv]; rfl) i _ (rowV_get V n i hi)
    have hadd : (⟨g, 0, none⟩ : Addr).add i = ⟨g, i, none⟩ := by unfold Addr.add; split <;> simp_all
    rw [hadd] at hc
    exact hc
theorem rowV_congr {V V' : Nat → Value} {n : Nat} (h : ∀ i, i < n → V' i = V i) : rowV V' n = rowV V n := List.map_congr_left fun i hi => h i (List.mem_range.1 hi)
theorem TRow.congr {w : World} {B k : Nat} {v : Value} {L L' : Nat → List UInt8} (h : TRow w B v k L) (he : ∀ i, i < k → L' i = L i) : TRow w B v k L' := by
  obtain ⟨V, hrow, hel⟩ := h.row
  exact ⟨V, hrow, fun i hi => by rw [he i hi]; exact hel i hi⟩
/-- blocks of other kinds stand when an own row grows -/
theorem own_grown {w w' : World} {B B' sz sz' n n' : Nat} {e e' : TypeId} {v v' : Value} {xs xs' : List Value} (h : w.ownsRow B e sz v n xs) (ho : w.ownsRow B' e' sz' v' n' xs') (he : e ≠ e') (hg : w.grownBy w' v'.ownBlock) : w'.ownsRow B e sz v n xs := by
  refine ⟨h.1, ?_⟩
  rcases h.2 with hn | ⟨g, cap, cur, hv, hB, hgb, rest⟩
  · exact .inl hn
  · refine .inr ⟨g, cap, cur, hv, hB, ?_, rest⟩
    rw [hg.block g (heap_in hgb) (fun e1 => ?_)]
    · exact hgb
    · rcases ho.2 with ⟨hv2, _⟩ | ⟨g2, cap2, cur2, hv2, _, hg2, _⟩
      · rw [hv2] at e1; cases e1
      · rw [hv2] at e1
        have e2 : g = g2 := by simpa [Value.ownBlock] using e1
        rw [e2, hg2] at hgb
        injection hgb with h1
        injection h1 with _ h2 _
        exact he h2.symm

theorem own_moved {w w' : World} {B sz n : Nat} {e : TypeId} {v : Value} {xs : List Value} (h : w.ownsRow B e sz v n xs) (hk : ∀ b, B ≤ b → b < w.heap.size → w'.heap[b]? = w.heap[b]?) : w'.ownsRow B e sz v n xs := by
  refine ⟨h.1, ?_⟩
  rcases h.2 with hn | ⟨g, cap, cur, hv, hB, hg, rest⟩
  · exact .inl hn
  · exact .inr ⟨g, cap, cur, hv, hB, by rw [hk g hB (heap_in hg)]; exact hg, rest⟩
theorem Tryd.info9T : (Tryd.prog.info? 9).map (fun i => (i.zero, i.size, i.bytes)) = some (some (.string ⟨#[]⟩), 1, 16) := by kernel_rfl

/-- a text that '[]byte(s)' made -/
theorem made_el (W : World) (l : List UInt8) (hl : l.length ≤ 100000) : El (Lib.bytesWorld W 5 (str l)) W.heap.size (.slice (some ⟨W.heap.size, 0, none⟩) (str l).size (grownCap W (str l).size 0 5)) l := by
  have hs := str_size l
  refine ⟨_, _, by rw [hs], by rw [← hs]; exact made_bs W (str l) l rfl, by rw [← hs]; exact grownCap_ge _ _ _ _, grownCap_le_maxLen _ _ _ _ (by unfold maxLen; omega), fun a ha => ?_⟩
  cases ha
  exact ⟨Nat.le_refl _, _, _, Lib.bytesWorld_at_new W 5 (str l)⟩

/-- where the law's first loop stands, k rows done -/
structure LR (F : Cfg) (w1 : World) (R : Nat → RI) (k : Nat) (v5 v6 : Value) (Ps : Nat → List Pc) (wr : World) : Prop where
  txs : TRow wr w1.heap.size v5 k fun i => lineL (Ps i)
  want : wr.ownsRow w1.heap.size 9 1 v6 k (rowV (fun i => .string (str (meanL F (Ps i)))) k)
  ok : ∀ i, i < k → OkL false (Ps i) ∧ (Ps i).length ≤ 12
  below : Below w1.heap.size w1 wr

/-- one row more -/
theorem LR.step {F : Cfg} {w1 w2 w3 w4 : World} {R : Nat → RI} {k : Nat} {v5 v6 v5' v6' : Value} {Ps : Nat → List Pc} {ps : List Pc} {V : Nat → Value} {x : Value} {o : Obj}
    (ht : w2.ownsRow w1.heap.size 27 1 v5 k (rowV V k)) (hel : ∀ i, i < k → El w2 w1.heap.size (V i) (lineL (Ps i))) (hx : El w2 w1.heap.size x (lineL ps)) (hw : w2.ownsRow w1.heap.size 9 1 v6 k (rowV (fun i => .string (str (meanL F (Ps i)))) k))
    (hg : w2.grownBy w3 v5.ownBlock) (ht3 : w3.ownsRow w1.heap.size 27 1 v5' (k + 1) (rowV V k ++ [x]))
    (hg4 : (w3.alloc o).grownBy w4 v6.ownBlock) (hw4 : w4.ownsRow w1.heap.size 9 1 v6' (k + 1) (rowV (fun i => .string (str (meanL F (Ps i)))) k ++ [.string (str (meanL F ps))]))
    (hok : ∀ i, i < k → OkL false (Ps i) ∧ (Ps i).length ≤ 12) (h1 : OkL false ps) (h2 : ps.length ≤ 12) (hb : Below w1.heap.size w1 w2) : LR F w1 R (k + 1) v5' v6' (fun i => if i < k then Ps i else ps) w4 := by
  have hs := hb.size
  have hs3 := hg.size
  have h8 : Kept8 w1.heap.size w2 w3 := Kept8.grown hg ht (by decide)
  have hw3 := own_grown hw ht (by decide) hg
  have hw3a : (w3.alloc o).ownsRow w1.heap.size 9 1 v6 k (rowV (fun i => .string (str (meanL F (Ps i)))) k) := World.ownsRow.alloc hw3 o
  have h84 : Kept8 w1.heap.size w3 w4 := (Kept8.alloc _ _ _).trans (Kept8.grown hg4 hw3a (by decide))
  have ht4 := own_grown (World.ownsRow.alloc ht3 o) hw3a (by decide) hg4
  refine ⟨⟨fun i => if i < k then V i else x, by rw [rowV_snoc]; exact ht4, fun i hi => ?_⟩, ?_, fun i hi => ?_, ?_⟩
  · show El w4 w1.heap.size (if i < k then V i else x) (lineL (if i < k then Ps i else ps))
    by_cases e : i < k
    · rw [if_pos e, if_pos e]
      exact ((hel i e).kept h8).kept h84
    · rw [if_neg e, if_neg e]
      exact (hx.kept h8).kept h84
  · have e1 : rowV (fun i => Value.string (str (meanL F (if i < k then Ps i else ps)))) (k + 1) = rowV (fun i => Value.string (str (meanL F (Ps i)))) k ++ [.string (str (meanL F ps))] := by
      rw [← rowV_snoc]
      refine rowV_congr fun i hi => ?_
      by_cases e : i < k
      · rw [if_pos e, if_pos e]
      · rw [if_neg e, if_neg e]
    rw [e1]
    exact hw4
  · show OkL false (if i < k then Ps i else ps) ∧ (if i < k then Ps i else ps).length ≤ 12
    by_cases e : i < k
    · rw [if_pos e]; exact hok i e
    · rw [if_neg e]; exact ⟨h1, h2⟩
  · exact ((hb.grown hg hs (fun x hx => (ht.lt x hx).1)).alloc (by omega) o).grown hg4 (by simp; omega) (fun x hx => (hw3a.lt x hx).1)

end Go.Proofs.YtnkjnlmghnomiaaDoor
