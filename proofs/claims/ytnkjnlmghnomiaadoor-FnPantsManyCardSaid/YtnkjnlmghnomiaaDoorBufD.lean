/- bytes.Buffer: WriteString, Write, WriteByte walked. Condition: lengths are bounded. -/
import Derived.Test.YtnkjnlmghnomiaaDoorBufC
import Derived.Laws.CopyRow
namespace Go.Proofs.YtnkjnlmghnomiaaDoor
open Go.ChangeShapes Go.WideShapes Go.ChangeAt Go.RowKit

/-- the text m was written -/
def WroteAt (b : Nat) (g : Option Nat) (l m : List UInt8) (w w' : World) : Prop :=
  ∃ g', BufAt w' b g' (l ++ m) ∧ But (fun k => k = b ∨ some k = g) w w' ∧ ∀ r, g' = some r → g = some r ∨ w.heap.size ≤ r
theorem But.setRow {K : Nat → Prop} {a w : World} (h : But K a w) (r : Nat) (cs : Array Value) (hr : K r ∨ a.heap.size ≤ r) : But K a (w.setRow r cs) :=
  ⟨h.os, h.tape, h.output, by simpa using h.size, fun k hk hn => by
    rw [setRow_other _ _ _ _ (fun e => by subst e; rcases hr with h1 | h1; exact hn h1; omega)]
    exact h.block k hk hn⟩
theorem strCells_vals (s : ByteArray) : Lib.byteCells s.data.toList = vals s.data.toList := by simp [Lib.byteCells, vals]
theorem room_put {w : World} {b r n cap : Nat} {l : List UInt8} {cur : Array Value} (hrb : r ≠ b) (hB : Bf w b (.slice (some ⟨r, 0, none⟩) (l.length + n) cap)) (hr : w.heap[r]? = some (.cells cur 5 (0, 0))) (hs : cur.size = cap) (hc : l.length + n ≤ cap) (hm : cap ≤ maxLen)
    (ht : cur.toList.take l.length = vals l) (m : List UInt8) (hml : m.length = n) (hn : 1 ≤ n) : BufAt (w.setRow r (cur.toList.take l.length ++ (vals m ++ cur.toList.drop (l.length + n))).toArray) b (some r) (l ++ m) := by
  rw [← List.append_assoc]
  have hcl : cur.toList.length = cap := by rw [Array.length_toList]; exact hs
  have hlv : (vals l).length = l.length := vals_length l
  refine Or.inr ⟨r, cap, _, rfl, hrb, by rw [List.length_append]; omega, ?_, setRow_heap _ _ _ _ _ _ hr, ?_, by rw [List.length_append]; omega, hm, ?_⟩
  · rw [List.length_append, hml]
    exact hB.of_block (setRow_other _ _ _ _ (fun e => hrb e.symm))
  · rw [ht]
    simp only [List.size_toArray, List.length_append, List.length_drop, vals_length]
    omega
  · rw [ht, vals_append]
    show ((vals l ++ vals m ++ cur.toList.drop (l.length + n)).toArray.toList).take (l ++ m).length = _
    rw [List.toList_toArray, List.take_left']
    rw [List.length_append, List.length_append, vals_length, vals_length]
/-- from the buffer's room to what was written -/
theorem wrote_of {w w1 w2 : World} {b r : Nat} {g : Option Nat} {l m : List UInt8} (h0 : But (fun k => k = b) w w1) (hgr : g = some r ∨ w.heap.size ≤ r) (h1 : BufAt w2 b (some r) (l ++ m)) (h2 : ∀ K : Nat → Prop, But K w w1 → (K r ∨ w.heap.size ≤ r) → But K w w2) : WroteAt b g l m w w2 := by
  refine ⟨some r, h1, h2 _ (h0.mono fun k _ e => Or.inl e) ?_, fun r' e => by cases e; exact hgr⟩
  rcases hgr with e | e
  · exact Or.inl (Or.inr e.symm)
  · exact Or.inr e

theorem grow_at (hG : GrowOk) (b : Nat) (g : Option Nat) (l : List UInt8) (n R : Nat) (w : World) (h : NoRoomFor w b g l n) (hn1 : 1 ≤ n) (hl : l.length + n ≤ 1000000000) (hR : w.heap.size = R) :
    Calls Tryd.prog 63 #[.pointer (some ⟨b, 0, none⟩), .int .i64 n] w fun e w' => e = .returned (.int .i64 l.length) ∧ RoomAt w' b R l n ∧ But (fun k => k = b) w w' ∧ R < w'.heap.size := by
  subst hR
  exact grow_any hG b g l n w h hn1 hl
theorem Bs.of_but {K : Nat → Prop} {w w' : World} {p : Option Addr} {n : Nat} {l : List UInt8} (h : Bs w p n l) (hb : But K w w') (hK : ∀ a, p = some a → ¬ K a.block) : Bs w' p n l := by
  refine ⟨h.len, fun hn => ?_⟩
  obtain ⟨b, o, hp, hlt, hc⟩ := h.cells hn
  refine ⟨b, o, hp, Nat.lt_of_lt_of_le hlt hb.size, fun i hi => ?_⟩
  have := hb.block b hlt (hK _ hp)
  rw [← hc i hi]
  simp [World.cell?, this]
theorem Bs.src {w : World} {b o n : Nat} {l : List UInt8} (h : Bs w (some ⟨b, o, none⟩) n l) : ∀ j v, (vals l)[j]? = some v → w.cell? ((⟨b, o, none⟩ : Addr).add j) = some v := by
  intro j v hj
  have hjl : j < l.length := by have := (List.getElem?_eq_some_iff.1 hj).1; rwa [vals_length] at this
  rw [vals_get l j hjl] at hj
  obtain ⟨b', o', e', _, hc⟩ := h.cells (by have := h.len; omega)
  cases e'
  rw [Addr.add_lit, ← hj]
  exact hc j (by have := h.len; omega)

set_option maxHeartbeats 2000000 in
set_option maxRecDepth 100000 in
theorem writeString_any (hG : GrowOk) (b : Nat) (g : Option Nat) (l : List UInt8) (s : ByteArray) (w : World) (h : BufAt w b g l) (hs1 : 1 ≤ s.size) (hl : l.length + s.size ≤ 1000000000) :
    Calls Tryd.prog 54 #[.pointer (some ⟨b, 0, none⟩), .string s] w fun e w' => e = .returned (.tuple #[.int .i64 s.size, .nilIface]) ∧ WroteAt b g l s.data.toList w w' := by
  have HSl := Lib.hid (Lib.size_eq s)
  have hinfo : (Tryd.prog.info? 5).map (·.size) = some 1 := by kernel_rfl
  obtain ⟨⟨u2, c2⟩, hf⟩ := h.cells
  have f2 := hf 2
  have HG := Lib.hid hG
  have HT := Lib.hid (try_any b g l s.size _ (h.set2 0) hs1 hl)
  have HB0 := Lib.hid (show But (fun k => k = b) w (w.setCell ⟨b, 2, none⟩ (.int .i8 0)) from (But.refl _ w).set ⟨b, 2, none⟩ _ rfl)
  have HSz := Lib.hid (show (w.setCell ⟨b, 2, none⟩ (.int .i8 0)).heap.size = w.heap.size by simp)
  clear h hG hf
  go_enter Tryd.func54, Tryd.ntmps54
  go_wp2_with fail
  refine HT.out.mono ?_
  rintro e w1 (⟨rfl, ⟨r, hg, hrb, cap, cur, hB, hr, hcs, hc, hm, ht⟩, hbut, hsz⟩ | ⟨rfl, rfl, hno⟩)
  · have d0 := hB.c0
    have hcp := Lib.run_copy_row_string (P := Tryd.prog) w1 27 9 3 5 r l.length s.size (cap - l.length) s cur 5 Tryd.underlying27 hinfo hr (Nat.le_refl _) (by omega)
    rw [strCells_vals, List.append_assoc] at hcp
    have HP := Lib.hid (room_put hrb hB hr hcs hc hm ht s.data.toList HSl.out.symm hs1)
    have HBu := Lib.hid hbut
    have HGr := Lib.hid hg
    have hne : ¬ cap = l.length := by omega
    unfold maxLen at hm
    clear hB hr ht hbut hg HT
    go_wp2_with fail
    exact bodyPost_ret (v := .tuple #[.int .i64 s.size, .nilIface]) (by simp [results, Tryd.results54, go_sem]) rfl ⟨rfl, wrote_of (HB0.out.trans HBu.out) (Or.inl HGr.out) HP.out (fun K hb hk => hb.setRow r _ hk)⟩
  · have HGw := Lib.hid (grow_at HG.out b g l s.size w.heap.size _ hno hs1 hl HSz.out)
    clear hno HT
    go_wp2_with fail
    refine HGw.out.mono ?_
    rintro e w2 ⟨rfl, ⟨hrb, cap, cur, hB, hr, hcs, hc, hm, ht⟩, hbut, hsz⟩
    obtain ⟨r, hrw⟩ : ∃ r, r = w.heap.size := ⟨_, rfl⟩
    rw [← hrw] at hrb hB hr
    have HRw := Lib.hid hrw
    have d0 := hB.c0
    have hcp := Lib.run_copy_row_string (P := Tryd.prog) w2 27 9 3 5 r l.length s.size (cap - l.length) s cur 5 Tryd.underlying27 hinfo hr (Nat.le_refl _) (by omega)
    rw [strCells_vals, List.append_assoc] at hcp
    have HP := Lib.hid (room_put hrb hB hr hcs hc hm ht s.data.toList HSl.out.symm hs1)
    have HBu := Lib.hid hbut
    have hne : ¬ cap = l.length := by omega
    unfold maxLen at hm
    clear hB hr ht hbut hrw HGw
    go_wp2_with fail
    exact bodyPost_ret (v := .tuple #[.int .i64 s.size, .nilIface]) (by simp [results, Tryd.results54, go_sem]) rfl ⟨rfl, wrote_of (HB0.out.trans HBu.out) (Or.inr (Nat.le_of_eq HRw.out.symm)) HP.out (fun K hb hk => hb.setRow r _ hk)⟩

set_option maxHeartbeats 2000000 in
set_option maxRecDepth 100000 in
theorem write_any (hG : GrowOk) (b pb po n c : Nat) (g : Option Nat) (l m : List UInt8) (w : World) (h : BufAt w b g l) (hp : Bs w (some ⟨pb, po, none⟩) n m) (hpb : pb ≠ b) (hs1 : 1 ≤ n) (hl : l.length + n ≤ 1000000000) :
    Calls Tryd.prog 57 #[.pointer (some ⟨b, 0, none⟩), .slice (some ⟨pb, po, none⟩) n c] w fun e w' => e = .returned (.tuple #[.int .i64 n, .nilIface]) ∧ WroteAt b g l m w w' := by
  have HSl := Lib.hid hp.len
  have Hp := Lib.hid hp
  have Hpb := Lib.hid hpb
  clear hp hpb
  have hinfo : (Tryd.prog.info? 5).map (·.size) = some 1 := by kernel_rfl
  obtain ⟨⟨u2, c2⟩, hf⟩ := h.cells
  have f2 := hf 2
  have HG := Lib.hid hG
  have HT := Lib.hid (try_any b g l n _ (h.set2 0) hs1 hl)
  have HB0 := Lib.hid (show But (fun k => k = b) w (w.setCell ⟨b, 2, none⟩ (.int .i8 0)) from (But.refl _ w).set ⟨b, 2, none⟩ _ rfl)
  have HSz := Lib.hid (show (w.setCell ⟨b, 2, none⟩ (.int .i8 0)).heap.size = w.heap.size by simp)
  clear h hG hf
  go_enter Tryd.func57, Tryd.ntmps57
  go_wp2_with fail
  refine HT.out.mono ?_
  rintro e w1 (⟨rfl, ⟨r, hg, hrb, cap, cur, hB, hr, hcs, hc, hm, ht⟩, hbut, hsz⟩ | ⟨rfl, rfl, hno⟩)
  · have d0 := hB.c0
    have hsrc := (Hp.out.of_but (HB0.out.trans hbut) (fun a e => by cases e; exact Hpb.out)).src
    have hcp := run_copy_row (P := Tryd.prog) w1 27 27 3 5 r l.length n (cap - l.length) ⟨pb, po, none⟩ n c cur 5 (vals m) Tryd.underlying27 hinfo hr (by rw [vals_length, HSl.out]; exact (Nat.min_self n).symm) hsrc (by rw [vals_length, HSl.out]; omega) (vals_one m)
    rw [vals_length, HSl.out, List.append_assoc] at hcp
    clear hsrc
    have HP := Lib.hid (room_put hrb hB hr hcs hc hm ht m HSl.out hs1)
    have HBu := Lib.hid hbut
    have HGr := Lib.hid hg
    have hne : ¬ cap = l.length := by omega
    unfold maxLen at hm
    clear hB hr ht hbut hg HT
    go_wp2_with fail
    exact bodyPost_ret (v := .tuple #[.int .i64 n, .nilIface]) (by simp [results, Tryd.results57, go_sem]) rfl ⟨rfl, wrote_of (HB0.out.trans HBu.out) (Or.inl HGr.out) HP.out (fun K hb hk => hb.setRow r _ hk)⟩
  · have HGw := Lib.hid (grow_at HG.out b g l n w.heap.size _ hno hs1 hl HSz.out)
    clear hno HT
    go_wp2_with fail
    refine HGw.out.mono ?_
    rintro e w2 ⟨rfl, ⟨hrb, cap, cur, hB, hr, hcs, hc, hm, ht⟩, hbut, hsz⟩
    obtain ⟨r, hrw⟩ : ∃ r, r = w.heap.size := ⟨_, rfl⟩
    rw [← hrw] at hrb hB hr
    have HRw := Lib.hid hrw
    have d0 := hB.c0
    have hsrc := (Hp.out.of_but (HB0.out.trans hbut) (fun a e => by cases e; exact Hpb.out)).src
    have hcp := run_copy_row (P := Tryd.prog) w2 27 27 3 5 r l.length n (cap - l.length) ⟨pb, po, none⟩ n c cur 5 (vals m) Tryd.underlying27 hinfo hr (by rw [vals_length, HSl.out]; exact (Nat.min_self n).symm) hsrc (by rw [vals_length, HSl.out]; omega) (vals_one m)
    rw [vals_length, HSl.out, List.append_assoc] at hcp
    clear hsrc
    have HP := Lib.hid (room_put hrb hB hr hcs hc hm ht m HSl.out hs1)
    have HBu := Lib.hid hbut
    have hne : ¬ cap = l.length := by omega
    unfold maxLen at hm
    clear hB hr ht hbut hrw HGw
    go_wp2_with fail
    exact bodyPost_ret (v := .tuple #[.int .i64 n, .nilIface]) (by simp [results, Tryd.results57, go_sem]) rfl ⟨rfl, wrote_of (HB0.out.trans HBu.out) (Or.inr (Nat.le_of_eq HRw.out.symm)) HP.out (fun K hb hk => hb.setRow r _ hk)⟩

end Go.Proofs.YtnkjnlmghnomiaaDoor
