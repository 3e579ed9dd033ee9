/- Ids: strconv.Itoa at small numbers and ensureUniqueHeadingID walked. Condition: sizes and counts are bounded. -/
import Derived.Test.YtnkjnlmghnomiaaDoorUniA
import Derived.Maps.OwnOps
namespace Go.Proofs.YtnkjnlmghnomiaaDoor
open Go.ChangeShapes Go.WideShapes Go.ChangeAt Go.RowKit Go.Maps Go.WideMaps

/-- a call hands back a short string -/
def ShortSaid (w : World) (e : Ending) (w' : World) : Prop := ∃ d : ByteArray, d.size ≤ 2 ∧ e = .returned (.string d) ∧ w = w'

theorem extract_small (s : ByteArray) (a b : Nat) (h : b ≤ a + 2) : (s.extract a b).size ≤ 2 := by
  simp only [ByteArray.size_extract]
  omega
set_option maxRecDepth 100000 in
theorem small_any (i : Int) (w : World) (h0 : 0 ≤ i) (h1 : i < 100) : Calls Tryd.prog 73 #[.int .i64 i] w (ShortSaid w) := by
  by_cases hlt : i < 10
  · go_enter Tryd.func73, Tryd.ntmps73
    go_wp2_with fail
    go_ret
    exact ⟨_, extract_small _ _ _ (by omega), rfl, rfl⟩
  · go_enter Tryd.func73, Tryd.ntmps73
    go_wp2_with fail
    go_ret
    exact ⟨_, extract_small _ _ _ (by omega), rfl, rfl⟩
theorem format_any (i : Int) (w : World) (h0 : 0 ≤ i) (h1 : i < 100) : Calls Tryd.prog 71 #[.int .i64 i, .int .i64 10] w (ShortSaid w) := by
  have H := Lib.hid (small_any i w h0 h1)
  go_enter Tryd.func71, Tryd.ntmps71
  go_wp2_with fail
  refine H.out.mono ?_
  rintro e w1 ⟨d, hd, rfl, rfl⟩
  go_wp2_with fail
  go_ret
  exact ⟨d, hd, rfl, rfl⟩
theorem itoa1_any (i : Int) (w : World) (h0 : 0 ≤ i) (h1 : i < 100) : Calls Tryd.prog 64 #[.int .i64 i] w (ShortSaid w) := by
  have H := Lib.hid (format_any i w h0 h1)
  go_enter Tryd.func64, Tryd.ntmps64
  go_wp2_with fail
  refine H.out.mono ?_
  rintro e w1 ⟨d, hd, rfl, rfl⟩
  go_wp2_with fail
  go_ret
  exact ⟨d, hd, rfl, rfl⟩
theorem itoa_any (i : Int) (w : World) (h0 : 0 ≤ i) (h1 : i < 100) : Calls Tryd.prog 58 #[.int .i64 i] w (ShortSaid w) := by
  have H := Lib.hid (itoa1_any i w h0 h1)
  go_enter Tryd.func58, Tryd.ntmps58
  go_wp2_with fail
  refine H.out.mono ?_
  rintro e w1 ⟨d, hd, rfl, rfl⟩
  go_wp2_with fail
  go_ret
  exact ⟨d, hd, rfl, rfl⟩

/-- what the walk is told of a key -/
theorem key_facts {D : DataW Unit} {f : Ids} (h : MapIs D f) (s : ByteArray) (hs : s.size ≤ 1000000) :
    ∃ kl, keyOf Tryd.prog 9 (.string s) = some kl ∧ Maps.has D kl = (f s).isSome ∧ D.atKey kl (.lit (.int .i64 0)) = .lit (.int .i64 ((f s).getD 0)) ∧ kl = .string s.data.toList :=
  ⟨_, keyOf_string_mk Tryd.underlying9 (by unfold maxLen; omega), h.has s, h.at' s, rfl⟩
theorem strLaw : Keyed Tryd.prog 9 := string_keyed Tryd.underlying9
theorem zeroI (w : World) : (zeroValue 3).run Tryd.prog w = .ok (.int .i64 0) w := by kernel_rfl
abbrev ownsI (w : World) (m k : Nat) (D : DataW Unit) : Prop := w.ownsMap Tryd.prog 9 (plainElem Tryd.prog 3) m k D

theorem cell_of_block {w w' : World} {k i : Nat} (h : w'.heap[k]? = w.heap[k]?) : w'.cell? ⟨k, i, none⟩ = w.cell? ⟨k, i, none⟩ := by simp [World.cell?, h]
/-- where the loop stands: the id, its count, whether it was given -/
structure Mid (w : World) (H m k M : Nat) (c : Int) (f : Ids) (s : ByteArray) (g : Nat) (i : ByteArray) (x : Int) (b : Bool) (wr : World) : Prop where
  pre : Pre s i
  same : (f s).isSome = false → i = s
  size : i.size ≤ M + 5
  grown : w.grownBy wr (some m)
  g : g = M + 6 - i.size
  more : ∃ (fr : Ids) (D : DataW Unit) (kr : Nat), x = (fr i).getD 0 ∧ b = (fr i).isSome ∧ MapIs D fr ∧ ownsI wr m kr D ∧ (∀ y, (fr y).isSome = (f y).isSome) ∧ ((b = false ∧ Good fr (c + 1) M ∧ kr ≤ k + 1) ∨ (Good fr c M ∧ kr ≤ k))

/-- an id was made unique -/
def UniqueSaid (m k M : Nat) (c : Int) (f : Ids) (s : ByteArray) (w : World) (e : Ending) (w' : World) : Prop :=
  ∃ (t : ByteArray) (f' : Ids) (D' : DataW Unit), e = .returned (.string t) ∧ Made f s f' t ∧ MapIs D' f' ∧ Good f' (c + 1) (M + 5) ∧ ownsI w' m (k + 2) D' ∧ w.grownBy w' (some m)

set_option maxHeartbeats 4000000 in
set_option maxRecDepth 100000 in
theorem ensure_any (H m k M : Nat) (c : Int) (D : DataW Unit) (f : Ids) (s : ByteArray) (w : World) (hc : w.cell? ⟨H, 11, none⟩ = some (.map (some m))) (hHm : H ≠ m) (hown : ownsI w m k D) (hI : MapIs D f) (hg : Good f c M) (hs : s.size ≤ M) (hc0 : 0 ≤ c) (hc1 : c ≤ 90) (hM : M ≤ 100000) (hk : k ≤ 100000) :
    Calls Tryd.prog 47 #[.pointer (some ⟨H, 0, none⟩), .string s] w (UniqueSaid m k M c f s w) := by
  obtain ⟨kl, hkl, hhas, hat0, -⟩ := key_facts hI s (by omega)
  obtain ⟨b0, hb0⟩ : ∃ b0, b0 = (f s).isSome := ⟨_, rfl⟩
  rw [← hb0] at hhas
  have HO := Lib.hid hown
  have HI := Lib.hid hI
  have HG := Lib.hid hg
  have HK := Lib.hid hkl
  have HA := Lib.hid hat0
  have HB0 := Lib.hid hb0
  have HN := Lib.hid hHm
  clear hown hI hg hkl hat0 hb0 hHm
  go_enter Tryd.func47, Tryd.ntmps47
  go_wp2_with (at_lookup; refine wpList_lookup_own_ok_int _ rfl _ _ 80 rfl 9 3 .i64 strLaw Tryd.underlying80 Tryd.underlying3 (zeroI _) m k _ rfl HO.out _ kl rfl HK.out ?_; intro x0 hx0 _)
  have HX := Lib.hid hx0
  clear hx0
  have HV := Lib.hid (show x0 = (f s).getD 0 by
    have := HX.out
    rw [HA.out] at this
    injection this with e
    injection e with _ e2
    exact e2.symm)
  clear HA
  go_loopg [1, 5, 6] (M + 6 - s.size) (fun g t1 t5 t6 wr => ∃ (i : ByteArray) (x : Int) (b : Bool), t1 = .string i ∧ t5 = .int .i64 x ∧ t6 = .bool b ∧ Mid w H m k M c f s g i x b wr)
  case atStart => exact ⟨s, x0, b0, rfl, rfl, rfl, ⟨Pre.refl s, fun _ => rfl, by omega, World.grownBy.refl _ _, rfl, f, D, k, HV.out, HB0.out, HI.out, HO.out, fun _ => rfl, Or.inr ⟨HG.out, Nat.le_refl _⟩⟩⟩
  case round =>
    obtain ⟨i, x, b, rfl, rfl, rfl, hmid⟩ := hrel
    obtain ⟨hpre, hsame, hsize, hgr, hgg, fr, Dr, kr, hx, hb, hIr, hor, hkeys, hmore⟩ := hmid
    have HPre := Lib.hid hpre
    have HSame := Lib.hid hsame
    have HGr := Lib.hid hgr
    have HGg := Lib.hid hgg
    have Hx := Lib.hid hx
    have Hb := Lib.hid hb
    have HIr := Lib.hid hIr
    have HOr := Lib.hid hor
    have HKeys := Lib.hid hkeys
    have hlt : H < wr.heap.size := Nat.lt_of_lt_of_le (World.block_lt_of_cell? w _ hc) hgr.size
    have hcr : wr.cell? ⟨H, 11, none⟩ = some (.map (some m)) := by
      have hlt := World.block_lt_of_cell? w _ hc
      have := hgr.block H hlt (by simpa using HN.out)
      simp only [World.cell?, this]
      exact hc
    have HMore := Lib.hid hmore
    clear hpre hsame hgr hgg hx hb hIr hor hkeys hmore
    cases b with
    | false =>
      obtain ⟨ki, hki, hhi, -, hke⟩ := key_facts HIr.out i (by omega)
      rw [← Hb.out] at hhi
      have HKi := Lib.hid hki
      have HKe := Lib.hid hke
      have hkr : kr ≤ k + 1 := by rcases HMore.out with ⟨_, _, h⟩ | ⟨_, h⟩ <;> omega
      have HGood := Lib.hid (show Good fr (c + 1) M by rcases HMore.out with ⟨_, h, _⟩ | ⟨h, _⟩; exact h; exact h.mono (by omega) (Nat.le_refl _))
      clear hki hke
      go_wp2_with (first | (at_lookup; refine wpList_lookup_own_ok_int _ rfl _ _ 80 rfl 9 3 .i64 strLaw Tryd.underlying80 Tryd.underlying3 (zeroI _) m kr _ rfl HOr.out _ ki rfl HKi.out ?_; intro x1 _ _) | (at_mapUpdate; refine wpList_mapUpdate_own _ rfl _ _ _ 80 rfl 9 3 strLaw Tryd.underlying80 _ m kr _ rfl HOr.out (by unfold maxLen; omega) _ _ _ rfl rfl HKi.out _ [] (plainElem_int Tryd.underlying3 (WalkArith.wf_i64 (by decide))) ?_; intro w2 hown2 hgrow2))
      have HO2 := Lib.hid hown2
      have HG2 := Lib.hid hgrow2
      clear hown2 hgrow2
      go_wp2_with fail
      go_ret
      refine ⟨i, fr.upd i 0, Dr.put ki (.lit (.int .i64 0)), rfl, ⟨?_, HPre.out, HSame.out, fun y => ?_⟩, ?_, (HGood.out.mono (Int.le_refl _) (by omega)).upd i 0 (Int.le_refl _) (by omega) (by omega), HO2.out.mono (by omega), HGr.out.trans HG2.out⟩
      · rw [← HKeys.out, ← Hb.out]
      · rw [Ids.upd_isSome, HKeys.out]
      · rw [HKe.out]
        exact HIr.out.put i 0
    | true =>
      have hkr : kr ≤ k := by rcases HMore.out with ⟨h, _, _⟩ | ⟨_, h⟩; cases h; exact h
      have HGood := Lib.hid (show Good fr c M by rcases HMore.out with ⟨h, _, _⟩ | ⟨h, _⟩; cases h; exact h)
      have hx0 : 0 ≤ x := by rw [Hx.out]; exact (HGood.out.val i).1
      have hx1 : x ≤ c := by rw [Hx.out]; exact (HGood.out.val i).2
      have hi : i.size ≤ M := HGood.out.len i Hb.out.symm
      obtain ⟨ki, hki, -, -, hke⟩ := key_facts HIr.out i (by omega)
      have HKi := Lib.hid hki
      have HKe := Lib.hid hke
      clear hki hke
      go_wp2_with fail
      refine (itoa_any _ _ (by omega) (by omega)).mono ?_
      rintro e w1 ⟨d, hd, rfl, rfl⟩
      obtain ⟨tm, htm⟩ : ∃ tm, tm = i ++ (⟨#[45]⟩ : ByteArray) ++ d := ⟨_, rfl⟩
      have hts : tm.size ≤ M + 3 := by
        have h1 : (⟨#[45]⟩ : ByteArray).size = 1 := rfl
        rw [htm]
        simp only [ByteArray.size_append, h1]
        omega
      have htp : Pre i tm := by
        rw [htm, ByteArray.append_assoc]
        exact Pre.app _ _
      have HTp := Lib.hid htp
      obtain ⟨kt, hkt, hht, hat, hkte⟩ := key_facts HIr.out tm (by omega)
      rw [htm] at hkt
      have HKt := Lib.hid hkt
      have HKte := Lib.hid hkte
      have HTm := Lib.hid htm
      have HAt := Lib.hid hat
      clear hkt hkte htm htp hat
      cases hft : (fr tm).isSome with
      | false =>
        rw [hft] at hht
        have HFt := Lib.hid hft
        clear hft
        go_wp2_with (first | (at_lookup; refine wpList_lookup_own_ok_int _ rfl _ _ 80 rfl 9 3 .i64 strLaw Tryd.underlying80 Tryd.underlying3 (zeroI _) m kr _ rfl HOr.out _ kt rfl HKt.out ?_; intro x1 _ _) | (at_mapUpdate; refine wpList_mapUpdate_own _ rfl _ _ _ 80 rfl 9 3 strLaw Tryd.underlying80 _ m kr _ rfl HOr.out (by unfold maxLen; omega) _ _ _ rfl rfl HKi.out _ [] (plainElem_int Tryd.underlying3 (WalkArith.wf_i64 (by omega))) ?_; intro w2 hown2 hgrow2; have hc2 : w2.cell? ⟨H, 11, none⟩ = some (.map (some m)) := (cell_of_block (hgrow2.block H hlt (by simpa using HN.out))).trans hcr; refine Hid.out ?_))
        refine Lib.hid ?_
        have HO2 := Lib.hid hown2
        have HG2 := Lib.hid hgrow2
        clear hown2 hgrow2 hht
        have hI2 : MapIs (Dr.put ki (.lit (.int .i64 (x + 1)))) (fr.upd i (x + 1)) := by rw [HKe.out]; exact HIr.out.put i (x + 1)
        have hne : tm ≠ i := by
          intro e
          have h1 := HFt.out
          rw [e, ← Hb.out] at h1
          cases h1
        have hht2 : Maps.has (Dr.put ki (.lit (.int .i64 (x + 1)))) kt = false := by
          rw [HKte.out, hI2.has, Ids.upd_isSome, HFt.out]
          simp [hne]
        have hat2 := hI2.at' tm
        rw [← HKte.out] at hat2
        have HA2 := Lib.hid hat2
        have HI2 := Lib.hid hI2
        have HNe := Lib.hid hne
        clear hat2 hI2 hne
        go_wp2_with (at_lookup; refine wpList_lookup_own_ok_int _ rfl _ _ 80 rfl 9 3 .i64 strLaw Tryd.underlying80 Tryd.underlying3 (zeroI _) m (kr + 1) _ rfl HO2.out _ kt rfl HKt.out ?_; intro x2 hx2 _)
        have HX2 := Lib.hid hx2
        clear hx2
        go_roundg (M + 6 - tm.size)
        case measure =>
          have h1 : (⟨#[45]⟩ : ByteArray).size = 1 := rfl
          have : tm.size = i.size + 1 + d.size := by rw [HTm.out]; simp only [ByteArray.size_append, h1]
          have := HGg.out
          omega
        case rel =>
          rw [← HTm.out]
          refine ⟨tm, x2, false, rfl, rfl, rfl, ⟨HPre.out.trans HTp.out, ?_, by omega, HGr.out.trans HG2.out, rfl, fr.upd i (x + 1), _, kr + 1, ?_, ?_, HI2.out, HO2.out, fun y => ?_, Or.inl ⟨rfl, (HGood.out.mono (by omega) (Nat.le_refl _)).upd i (x + 1) (by omega) (by omega) hi, by omega⟩⟩⟩
          · intro hfs
            exfalso
            have h1 := HSame.out hfs
            have h2 := HKeys.out i
            rw [← Hb.out, h1, hfs] at h2
            cases h2
          · have := HX2.out
            rw [HA2.out] at this
            injection this with e
            injection e with _ e2
            exact e2.symm
          · rw [Ids.upd_isSome, HFt.out]
            simp [HNe.out]
          · rw [Ids.upd_isSome, HKeys.out]
            by_cases e : y = i
            · rw [e, ← HKeys.out, ← Hb.out]; rfl
            · simp [e]
      | true =>
        rw [hft] at hht
        obtain ⟨t2, ht2⟩ : ∃ t2, t2 = i ++ (⟨#[45, 49]⟩ : ByteArray) := ⟨_, rfl⟩
        have h1 : (⟨#[45, 49]⟩ : ByteArray).size = 2 := rfl
        have hs2 : t2.size = i.size + 2 := by rw [ht2]; simp only [ByteArray.size_append, h1]
        have hp2 : Pre i t2 := by rw [ht2]; exact Pre.app _ _
        obtain ⟨k2, hk2, hh2, ha2, -⟩ := key_facts HIr.out t2 (by omega)
        rw [ht2] at hk2
        have HK2 := Lib.hid hk2
        have HT2 := Lib.hid ht2
        have HA2 := Lib.hid ha2
        have HP2 := Lib.hid hp2
        have HS2 := Lib.hid hs2
        obtain ⟨b2, hb2⟩ : ∃ b2, b2 = (fr t2).isSome := ⟨_, rfl⟩
        rw [← hb2] at hh2
        have Hb2 := Lib.hid hb2
        clear hk2 ht2 ha2 hp2 hs2 hb2 hft h1
        go_wp2_with (first | (at_lookup; refine wpList_lookup_own_ok_int _ rfl _ _ 80 rfl 9 3 .i64 strLaw Tryd.underlying80 Tryd.underlying3 (zeroI _) m kr _ rfl HOr.out _ kt rfl HKt.out ?_; intro x1 _ _) | (at_lookup; refine wpList_lookup_own_ok_int _ rfl _ _ 80 rfl 9 3 .i64 strLaw Tryd.underlying80 Tryd.underlying3 (zeroI _) m kr _ rfl HOr.out _ k2 rfl HK2.out ?_; intro x2 hx2 _))
        have HX2 := Lib.hid hx2
        clear hx2
        go_roundg (M + 6 - t2.size)
        case measure =>
          have := HGg.out
          have := HS2.out
          omega
        case rel =>
          rw [← HT2.out]
          refine ⟨t2, x2, b2, rfl, rfl, rfl, ⟨HPre.out.trans HP2.out, ?_, by have := HS2.out; omega, HGr.out, rfl, fr, Dr, kr, ?_, Hb2.out, HIr.out, HOr.out, HKeys.out, Or.inr ⟨HGood.out, hkr⟩⟩⟩
          · intro hfs
            exfalso
            have h1 := HSame.out hfs
            have h2 := HKeys.out i
            rw [← Hb.out, h1, hfs] at h2
            cases h2
          · have := HX2.out
            rw [HA2.out] at this
            injection this with e
            injection e with _ e2
            exact e2.symm

end Go.Proofs.YtnkjnlmghnomiaaDoor
