/- Smart punctuation: impl.PantsMany walked: texts one behind the other by one renderer. Condition: lengths are bounded. -/
import Derived.Test.YtnkjnlmghnomiaaDoorPamA
namespace Go.Proofs.YtnkjnlmghnomiaaDoor
open Go.ChangeShapes Go.WideShapes Go.ChangeAt Go.RowKit

/-- where the loop stands: the renderer lies in block B, the world behind it is w1 -/
structure MR (F : Cfg) (B : Nat) (va : Value) (w1 : World) (v : Value) (k : Nat) (O : Nat → List UInt8) (wr : World) : Prop where
  row : TRow wr w1.heap.size v k O
  rd : Rd F B va wr
  but : But (fun x => x = B) w1 wr
theorem MR.amp {F : Cfg} {B : Nat} {va : Value} {w1 : World} {v : Value} {k : Nat} {O : Nat → List UInt8} {wr : World} (h : MR F B va w1 v k O wr) (ha : Amp F B va w1) : Amp F B va wr := ha.on h.but.size fun x h1 h2 => h.but.block x h1 h2
theorem MR.below {F : Cfg} {B : Nat} {va : Value} {w1 : World} {v : Value} {k : Nat} {O : Nat → List UInt8} {wr : World} (h : MR F B va w1 v k O wr) (hB : B ≤ w1.heap.size) : Below B w1 wr := h.but.toBelow hB fun k hk e => by omega
theorem But.drewN {K : Nat → Prop} {a w : World} (h : But K a w) (n : Nat) : But K a (w.drewN n) := ⟨h.os, h.tape, h.output, h.size, h.block⟩

/-- what PantsMany answers -/
def ManySaid (n : Nat) (O : Nat → List UInt8) (w : World) (e : Ending) (w' : World) : Prop := ∃ p c, e = .returned (.slice p n c) ∧ Txs w' p n O ∧ Below w.heap.size w w'

set_option maxHeartbeats 4000000 in
set_option maxRecDepth 100000 in
theorem pantsMany_any (flags : Int) (p : Option Addr) (n c : Nat) (L O : Nat → List UInt8) (w : World) (h : Txs w p n L) (hn : n ≤ 8) (hL : ∀ i, i < n → 0 < (L i).length ∧ (L i).length ≤ 100000 ∧ PantAt (cfgOf flags) (L i) 0 (O i)) :
    Calls Tryd.prog 11 #[.int .i64 flags, .slice p n c] w (ManySaid n O w) := by
  have HT := Lib.hid h
  have HL := Lib.hid hL
  clear h hL
  obtain ⟨i0, hi, hz0, hz1, hz2⟩ := info_parts Tryd.info27T
  go_enter Tryd.func11, Tryd.ntmps11
  go_wp2_with fail
  refine (newSP_any flags w).mono ?_
  rintro e w1 ⟨va, rfl, hrow, hamp, hb1⟩
  have hrd := Rd.new hrow
  have hlt := hrd.lt
  have HRd := Lib.hid hrd
  have HLt := Lib.hid hlt
  have HAmp := Lib.hid hamp
  have HB1 := Lib.hid hb1
  clear hrow hrd hlt hamp hb1
  go_wp2_with fail
  go_loopw [14, 6] (fun t v wr => ∃ k : Nat, k ≤ n ∧ t = .int .i64 k ∧ MR (cfgOf flags) w.heap.size va w1 v k O wr) (fun t _ _ => n - (intOf t).toNat)
  case atStart => exact ⟨0, Nat.zero_le _, rfl, TRow.nil _ _ _, HRd.out, But.refl _ _⟩
  case round =>
    obtain ⟨k, hk, rfl, hmr⟩ := hrel
    have HM := Lib.hid hmr
    clear hmr
    by_cases hlt : k < n
    · obtain ⟨b, o, hp, hbl, hcl⟩ := HT.out.cells (by omega)
      subst hp
      obtain ⟨q, cq, hck0, hbs0⟩ := hcl k hlt
      have hbel : Below w.heap.size w wr := HB1.out.trans (HM.out.below (Nat.le_of_lt HLt.out))
      have hck : wr.cell? ⟨b, o + k, none⟩ = some (.slice q (L k).length cq) := (hbel.cell (p := ⟨b, o + k, none⟩) hbl).trans hck0
      obtain ⟨l, hl⟩ : ∃ l, l = L k := ⟨_, rfl⟩
      obtain ⟨ol, hol⟩ : ∃ ol, ol = O k := ⟨_, rfl⟩
      obtain ⟨hl0, hl1, hP⟩ := HL.out k hlt
      rw [← hl] at hck hbs0 hl0 hl1 hP
      rw [← hol] at hP
      have HPl := Lib.hid hP.len
      have HP := Lib.hid hP
      have HO := Lib.hid hol
      have HBs := Lib.hid (hbs0.below hbel (Nat.le_refl _))
      have HBel := Lib.hid hbel
      have HL0 := Lib.hid (And.intro hl0 hl1)
      obtain ⟨ln, hln⟩ : ∃ ln, ln = l.length := ⟨_, rfl⟩
      rw [← hln] at hck
      have HLn := Lib.hid hln
      clear hck0 hbs0 hcl hbl hbel hl hol hl0 hl1 hP hln
      obtain ⟨W1, hW1⟩ : ∃ W1, W1 = wr.alloc (.cells #[.slice none 0 0, .int .i64 0, .int .i8 0] 47) := ⟨_, rfl⟩
      have hb1 : Below wr.heap.size wr W1 := by rw [hW1]; exact (Below.refl _ _).alloc (Nat.le_refl _) _
      have hf1 : BufAt W1 wr.heap.size none [] := by rw [hW1]; exact fresh_buf wr
      have hs1 : W1.heap.size = wr.heap.size + 1 := by rw [hW1]; simp
      have H1 := Lib.hid hf1
      have HBW := Lib.hid hb1
      have HS1 := Lib.hid hs1
      have HOw := Lib.hid (own_any q l.length cq l W1 (HBs.out.below hb1 (Nat.le_refl _)) (by have := HL0.out.2; omega))
      rw [← HLn.out] at HOw
      clear hf1 hb1 hs1
      go_wp2_with fail
      rw [← hW1]
      clear hW1
      refine HOw.out.mono ?_
      rintro e w3 ⟨v', rfl, hown, hb3⟩
      obtain ⟨g, c', rfl, hg, hc1, hc2, hbs⟩ := hown.at HL0.out.1
      have hrlt := HM.out.rd.lt
      have hsz := HS1.out
      have hs3 := hb3.size
      have hwk : ∀ x, x < wr.heap.size → w3.heap[x]? = wr.heap[x]? := fun x hx => (hb3.block x (by omega)).trans (HBW.out.block x hx)
      have hamp3 : Amp (cfgOf flags) w.heap.size va w3 := (HM.out.amp HAmp.out).on (by omega) (fun x hx _ => hwk x hx)
      have hbf3 : BufAt w3 wr.heap.size none [] := H1.out.of_block (hb3.block _ (by omega)) (fun _ e => by cases e)
      have hpr := process_from (cfgOf flags) w.heap.size va wr.heap.size g l.length c' l ol w3 hbf3 (HM.out.rd.of_block (hwk _ hrlt)) hamp3 (by omega) hbs (by omega) (by omega) HP.out HL0.out.1 HL0.out.2 hc1 hc2
      have HPr := Lib.hid hpr
      have HW3 := Lib.hid hwk
      have HA3 := Lib.hid hamp3
      have HF3 := Lib.hid hbf3
      have HS3 := Lib.hid hs3
      have HB3 := Lib.hid hb3
      have HRl := Lib.hid hrlt
      clear hpr hown hbs hc1 hc2 hb3 hrlt hsz hs3 hwk hamp3 hbf3 HOw
      go_wp2_with fail
      refine HPr.out.mono ?_
      rintro e w4 ⟨rfl, hc4⟩
      obtain ⟨gg, hbuf, hnew⟩ := hc4.buf
      have HC4 := Lib.hid hc4.but
      have HR4 := Lib.hid hc4.rd
      have HBy := Lib.hid (bytes_any wr.heap.size gg ol w4 hbuf (by have := HPl.out; have := HL0.out.2; omega))
      clear hc4 hbuf hnew HPr
      go_wp2_with fail
      refine HBy.out.mono ?_
      rintro e w5 ⟨p5, c5, rfl, hb5, _, z, rfl⟩
      have HO5 := Lib.hid (own_any p5 ol.length c5 ol (w4.drewN z) (hb5.drewN z) (by have := HPl.out; have := HL0.out.2; omega))
      clear hb5
      go_wp2_with fail
      refine HO5.out.mono ?_
      rintro e w6 ⟨v6, rfl, hown6, hb6⟩
      have hs1 := HS1.out
      have hs3 := HS3.out
      have hs4 := HC4.out.size
      have hs6 := hb6.size
      have hsd : (w4.drewN z).heap.size = w4.heap.size := rfl
      have hms := HM.out.but.size
      have hlt1 := HLt.out
      have hkeep : ∀ x, x < wr.heap.size → x ≠ w.heap.size → w6.heap[x]? = wr.heap[x]? := fun x hx hne =>
        ((hb6.block x (by omega)).trans (HC4.out.block x (by omega) (by omega))).trans (HW3.out x hx)
      have htr : TRow w6 w1.heap.size _ k O := HM.out.row.moved fun x hx1 hx2 => hkeep x hx2 (by omega)
      have hb4 : But (fun x => x = w.heap.size) w1 w4 := ((HM.out.but.below HBW.out).below HB3.out).join HC4.out (fun x hx e => by
        rcases e with e | e
        · omega
        · exact e)
      have hbut6 : But (fun x => x = w.heap.size) w1 w6 := (hb4.drewN z).below hb6
      have hrd6 : Rd (cfgOf flags) w.heap.size va w6 := HR4.out.of_block (hb6.block _ (by have := HR4.out.lt; omega))
      have hel6 : El w6 w1.heap.size v6 ol := (El.of_owns hown6).down (by omega)
      obtain ⟨V, hrow, hels⟩ := htr.row
      have HRow := Lib.hid hrow
      have HEls := Lib.hid hels
      have HBut6 := Lib.hid hbut6
      have HRd6 := Lib.hid hrd6
      have HEl6 := Lib.hid hel6
      have HS6 := Lib.hid (show w1.heap.size ≤ w6.heap.size by omega)
      have HLt6 := Lib.hid hlt1
      obtain ⟨p6, c6, rfl, _⟩ := hel6.val
      clear hown6 hb6 hs1 hs3 hs4 hs6 hsd hms hlt1 hkeep htr hb4 hbut6 hrd6 hel6 hrow hels HO5 HBy
      go_wp2_with (at_builtin; refine wpList_append_own _ rfl _ _ 32 rfl w1.heap.size 27 i0 (.slice none 0 0) 1 24 Tryd.underlying32 hi hz0 hz1 hz2 rfl (by decide) _ k (rowV V k) rfl (World.ownsRow.alloc HRow.out _) ⟨w6.heap.size, 0, none⟩ 1 1 [.slice p6 ol.length c6] rfl rfl ?qc2 ?qc3 ?qc4 ?qc5 ?qc6 ?_)
      case qc2 =>
        intro j y hj
        match j with
        | 0 =>
          simp at hj
          subst hj
          simp [Addr.add, World.cell?_alloc_new]
        | j + 1 => simp at hj
      case qc3 =>
        intro y hy
        simp at hy
        subst hy
        rfl
      case qc4 => unfold maxLen; omega
      case qc5 => omega
      case qc6 => have := HS6.out; simp; omega
      intro v7 w7 hown7 hgrow7 _
      have hel8 : ∀ i, i < k → El (w6.alloc (.cells #[.slice p6 ol.length c6] 27)) w1.heap.size (V i) (O i) := fun i hi => (HEls.out i hi).kept (Kept8.alloc _ _ _)
      have htr7 : TRow w7 w1.heap.size v7 (k + 1) O := TRow.snoc (World.ownsRow.alloc HRow.out _) hel8 (HEl6.out.kept (Kept8.alloc _ _ _)) hgrow7 hown7 HO.out.symm
      have hrow8 : (w6.alloc (.cells #[.slice p6 ol.length c6] 27)).ownsRow w1.heap.size 27 1 _ k (rowV V k) := World.ownsRow.alloc HRow.out _
      have hne : ∀ x, x < w1.heap.size → some x ≠ Value.ownBlock _ := fun x hx e => by
        have := (hrow8.lt x e.symm).1
        omega
      have hk7 : ∀ x, x < w6.heap.size → some x ≠ Value.ownBlock _ → w7.heap[x]? = w6.heap[x]? := fun x hx e => (hgrow7.block x (by simp; omega) e).trans (Below.heap_alloc _ _ _ hx)
      have hmr : MR (cfgOf flags) w.heap.size va w1 v7 (k + 1) O w7 := by
        have hl6 := HLt6.out
        have hs6 := HS6.out
        have hs7 := hgrow7.size
        simp at hs7
        exact ⟨htr7, HRd6.out.of_block (hk7 _ (by omega) (hne _ (by omega))), hgrow7.os.trans HBut6.out.os, hgrow7.tape.trans HBut6.out.tape, hgrow7.output.trans HBut6.out.output, by omega,
          fun x hx hx2 => (hk7 x (by omega) (hne x hx)).trans (HBut6.out.block x hx hx2)⟩
      have HMr := Lib.hid hmr
      clear hown7 hgrow7 hel8 htr7 hrow8 hne hk7 hmr
      go_wp2_with fail
      go_roundw
      case rel => exact ⟨k + 1, by omega, by go_num, HMr.out⟩
      case measure => simp [intOf]; omega
    · obtain rfl : k = n := by omega
      go_wp2_with fail
      go_ret
      obtain ⟨p', c', hv, htx⟩ := HM.out.row.txs
      exact ⟨p', c', by rw [hv]; rfl, htx, HB1.out.trans (HM.out.below (Nat.le_of_lt HLt.out))⟩

end Go.Proofs.YtnkjnlmghnomiaaDoor
