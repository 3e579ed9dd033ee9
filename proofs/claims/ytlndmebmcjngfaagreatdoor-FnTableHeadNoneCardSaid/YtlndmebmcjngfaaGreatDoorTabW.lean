/- Tables: the law FnTableHeadNone walked: it returns true. No condition. -/
import Derived.Test.YtlndmebmcjngfaaGreatDoorTabV
import Derived.Test.YtlndmebmcjngfaaGreatDoorTabK
namespace Go.Proofs.YtlndmebmcjngfaaGreatDoor
open Go.ChangeShapes Go.WideShapes Go.ChangeAt Go.RowKit

set_option maxHeartbeats 8000000 in
set_option maxRecDepth 100000 in
theorem tableNone_law (pn pa ph : Option Addr) (n cn m ca m2 ch : Nat) (bg en : Bool) (S : Nat → ByteArray) (al hl : List UInt8) (dr : Nat) (w : World) (hS : Strs w pn n S) (hA : Bs w pa m al) (hH : Bs w ph m2 hl) (hca : m ≤ ca) (hch : m2 ≤ ch) (hcam : ca ≤ maxLen) (hchm : ch ≤ maxLen) (hdr : dr ≤ 255) :
    Calls Tryz.prog 3 #[.agg #[.slice pn n cn, .slice pa m ca, .slice ph m2 ch, .bool bg, .bool en], .int .u8 (dr : Int)] w fun e w' => e = .returned (.bool true) ∧ Below w.heap.size w w' := by
  obtain ⟨B, hB⟩ : ∃ B, B = w.heap.size := ⟨_, rfl⟩
  have HN := Lib.hid (TBox.new w (.slice pn n cn) (.slice pa m ca) (.slice ph m2 ch) bg en)
  rw [← hB] at HN
  have HB := Lib.hid hB
  have HS := Lib.hid hS
  have HA := Lib.hid hA
  have HH := Lib.hid hH
  clear hS hA hH hB
  go_enter Tryz.func3, Tryz.ntmps3
  go_upto_region 0 with fail
  go_cut [2, 4] (fun s t wx => s = .pointer (some ⟨B, 0, none⟩) ∧ t = .bool false ∧ TBox B w (.slice pn n cn) (.slice pa m ca) (.slice ph m2 ch) bg en wx)
  case first => as_aux_lemma =>
    go_wp2_with fail
    go_meet
    exact ⟨by rw [HB.out], rfl, HN.out⟩
  obtain ⟨rfl, rfl, hbx⟩ := hcut
  have HBle := Lib.hid (Nat.le_of_eq HB.out.symm)
  have HF := Lib.hid (zzFits31_any pn pa ph n cn m ca m2 ch bg en S wc (HS.out.below hbx.below (Nat.le_refl _)))
  have HT := Lib.hid hbx
  obtain ⟨c0, c1, c2, c3, c4, hb0, hz0⟩ := hbx
  clear hb0 hz0 HN HB
  go_wp2_with fail
  refine HF.out.mono ?_
  rintro e w1 ⟨⟨b, rfl, hP⟩, hb1⟩
  have HT1 := Lib.hid (HT.out.on HBle.out hb1)
  clear c0 c1 c2 c3 c4 HF hb1
  cases b with
  | false =>
    go_wp2_with fail
    go_ret
    exact ⟨rfl, HT1.out.below⟩
  | true =>
    obtain ⟨hn, hm, hm2, hs⟩ := hP rfl
    have HI := Lib.hid (isTable_any pn pa ph n cn m ca m2 ch bg en S al hl w1 (HS.out.below HT1.out.below (Nat.le_refl _)) (HA.out.below HT1.out.below (Nat.le_refl _)) (HH.out.below HT1.out.below (Nat.le_refl _)) hn hm hm2 hs)
    have c0 := HT1.out.c0
    have c1 := HT1.out.c1
    have c2 := HT1.out.c2
    have c3 := HT1.out.c3
    have c4 := HT1.out.c4
    clear hn hm hm2 hs hP
    go_wp2_with fail
    refine HI.out.mono ?_
    rintro e w2 ⟨b, rfl, hP, hb2⟩
    have HT2 := Lib.hid (HT1.out.on HBle.out hb2)
    clear c0 c1 c2 c3 c4 HI hb2
    cases b with
    | false =>
      go_wp2_with fail
      go_ret
      exact ⟨rfl, HT2.out.below⟩
    | true =>
      have hline := hP rfl
      have hn2 := hline.n2
      have hn8 := hline.n8
      obtain rfl := hline.m
      obtain rfl := hline.m2
      have HLi := Lib.hid hline
      obtain ⟨k, hk⟩ : ∃ k, k = dr % m2 := ⟨_, rfl⟩
      have hkm : k < m2 := by rw [hk]; exact Nat.mod_lt _ (by omega)
      have HK := Lib.hid hk
      have c0 := HT2.out.c0
      have c1 := HT2.out.c1
      have c2 := HT2.out.c2
      have c3 := HT2.out.c3
      have c4 := HT2.out.c4
      clear hline hP hk
      go_upto_region 5 with fail
      go_cut [5] (fun t wx => t = .int .i64 (k : Int) ∧ wx = w2)
      case first => as_aux_lemma =>
        go_wp2_with fail
        go_meet
        exact ⟨congrArg (Value.int .i64) (by rw [HK.out]; rfl), rfl⟩
      obtain ⟨rfl, hwc⟩ := hcut
      subst wc
      have HSk := Lib.hid (show ∀ w', Below w2.heap.size w2 w' → (w'.cell? ⟨B, 0, none⟩ = some (.slice pn m2 cn) ∧ w'.cell? ⟨B, 1, none⟩ = some (.slice pa m2 ca) ∧ w'.cell? ⟨B, 2, none⟩ = some (.slice ph m2 ch) ∧ w'.cell? ⟨B, 3, none⟩ = some (.bool bg) ∧ w'.cell? ⟨B, 4, none⟩ = some (.bool en)) from fun w' hb => by
        have h := HT2.out.on HBle.out hb
        exact ⟨h.c0, h.c1, h.c2, h.c3, h.c4⟩)
      obtain ⟨b2, o2, rfl, hb2l, hc2⟩ := (HA.out.below HT2.out.below (Nat.le_refl _)).cells (by omega)
      obtain ⟨b3, o3, rfl, hb3l, hc3⟩ := (HH.out.below HT2.out.below (Nat.le_refl _)).cells (by omega)
      have HAw := Lib.hid (HA.out.below HT2.out.below (Nat.le_refl _))
      have HHw := Lib.hid (HH.out.below HT2.out.below (Nat.le_refl _))
      have HA1 := Lib.hid (HAw.out.take k (by omega))
      have HH1 := Lib.hid (HHw.out.take k (by omega))
      obtain ⟨x2, hx2⟩ : ∃ x2, x2 = if ca = k + 1 then o2 else o2 + (k + 1) := ⟨_, rfl⟩
      obtain ⟨x3, hx3⟩ : ∃ x3, x3 = if ch = k + 1 then o3 else o3 + (k + 1) := ⟨_, rfl⟩
      have HA2 := Lib.hid (HAw.out.drop (k + 1) ca (by omega) hca)
      have HH2 := Lib.hid (HHw.out.drop (k + 1) ch (by omega) hch)
      have hsl1 := fun W => slice_to b2 o2 m2 ca k (by omega) W
      have hsl2 : ∀ W, (Instr.slice 23 (.slice (some ⟨b2, o2, none⟩) m2 ca) (some (.int .i64 ((k : Int) + 1))) none none).run Tryz.prog W = .ok (.slice (some ⟨b2, x2, none⟩) (m2 - (k + 1)) (ca - (k + 1))) W := fun W => by rw [hx2]; exact slice_from b2 o2 m2 ca (k + 1) (by omega) hca W
      have hwr : IntKind.i64.wrap ((k : Int) + 1) = (k : Int) + 1 := by rw [IntKind.wrap_i64]; omega
      have hsl3 := fun W => slice_to b3 o3 m2 ch k (by omega) W
      have hsl4 : ∀ W, (Instr.slice 23 (.slice (some ⟨b3, o3, none⟩) m2 ch) (some (.int .i64 ((k : Int) + 1))) none none).run Tryz.prog W = .ok (.slice (some ⟨b3, x3, none⟩) (m2 - (k + 1)) (ch - (k + 1))) W := fun W => by rw [hx3]; exact slice_from b3 o3 m2 ch (k + 1) (by omega) hch W
      rw [← hx2] at HA2
      rw [← hx3] at HH2
      have hp : Two none w2.heap.size w2 w2.drew (.slice none 0 0) [] (.slice none 0 0) [] := ⟨Below.drewN (Below.refl _ _) 1, World.ownsRow_nil _ _ _ _, World.ownsRow_nil _ _ _ _, fun g h => by simp [Value.ownBlock] at h, Nat.le_refl _, fun x h => by cases h⟩
      have hpa : Two (some w2.heap.size) w2.heap.size w2 (w2.alloc zLine).drew (.slice none 0 0) [] (.slice none 0 0) [] := hp.track
      have HAl := Lib.hid HAw.out.len
      have HHl := Lib.hid HHw.out.len
      clear hc2 hc3 hx2 hx3
      go_upto_region 6 with fail
      go_cut [6] (fun s wx => ∃ X p q c d, s = .pointer (some ⟨X, 0, none⟩) ∧ Few w2 wx X (.slice pn m2 cn) p q c d (m2 - 1) (cut1 al k) (cut1 hl k) bg en)
      case first => as_aux_lemma =>
        go_region_held_law (fun w' => w'.cell? ⟨B, 0, none⟩ = some (.slice pn m2 cn) ∧ w'.cell? ⟨B, 1, none⟩ = some (.slice (some ⟨b2, o2, none⟩) m2 ca) ∧ w'.cell? ⟨B, 2, none⟩ = some (.slice (some ⟨b3, o3, none⟩) m2 ch) ∧ w'.cell? ⟨B, 3, none⟩ = some (.bool bg) ∧ w'.cell? ⟨B, 4, none⟩ = some (.bool en))
          (first | with_reducible exact HSk.out _ hp.below | with_reducible exact HSk.out _ hpa.below | with_reducible exact HSk.out _ hp.track.below | with_reducible exact HSk.out _ (hp.below.alloc hp.size _) | with_reducible exact HSk.out _ (((((hp.below.setCell (hp.tr _ rfl).2.2.2 _).setCell (hp.tr _ rfl).2.2.2 _).setCell (hp.tr _ rfl).2.2.2 _).setCell (hp.tr _ rfl).2.2.2 _).setCell (hp.tr _ rfl).2.2.2 _))
          (first
            | (refine step_two rfl (.const (.slice none 0 0)) (.tmp 30) rfl _ w2.heap.size w2 _ _ [] _ _ hp rfl b2 o2 k ca _ rfl HA1.out hb2l (by simp) (by omega) ?_; intro u1 w3 hp; try (have hz := hp.zeros; obtain ⟨z0, z1, z2, z3, z4, g0, g1, g2, g3, g4⟩ := hz))
            | (refine step_two rfl (.const (.slice none 0 0)) (.tmp 30) rfl _ w2.heap.size w2 _ _ [] _ _ hpa rfl b2 o2 k ca _ rfl HA1.out hb2l (by simp) (by omega) ?_; intro u1 w3 hp; have hz := hp.zeros; obtain ⟨z0, z1, z2, z3, z4, g0, g1, g2, g3, g4⟩ := hz)
            | (refine step_two rfl (.const (.slice none 0 0)) (.tmp 30) rfl _ w2.heap.size w2 _ _ [] _ _ hp.track rfl b2 o2 k ca _ rfl HA1.out hb2l (by simp) (by omega) ?_; intro u1 w3 hp; have hz := hp.zeros; obtain ⟨z0, z1, z2, z3, z4, g0, g1, g2, g3, g4⟩ := hz)
            | (refine step_two rfl (.tmp 31) (.tmp 36) rfl _ w2.heap.size w2 _ _ _ _ _ hp rfl b2 _ _ _ _ rfl HA2.out hb2l (by have := HA1.out.len; simp [this]; omega) (by omega) ?_; intro u2 w3 hp; obtain ⟨pu, cu, rfl, _⟩ := own_cut hp.ou HAl.out hkm; try (have hz := hp.zeros; obtain ⟨z0, z1, z2, z3, z4, g0, g1, g2, g3, g4⟩ := hz))
            | (refine step_two rfl (.tmp 31) (.tmp 36) rfl _ w2.heap.size w2 _ _ _ _ _ hp.track rfl b2 _ _ _ _ rfl HA2.out hb2l (by have := HA1.out.len; simp [this]; omega) (by omega) ?_; intro u2 w3 hp; obtain ⟨pu, cu, rfl, _⟩ := own_cut hp.ou HAl.out hkm; have hz := hp.zeros; obtain ⟨z0, z1, z2, z3, z4, g0, g1, g2, g3, g4⟩ := hz)
            | (refine step_two_r rfl (.const (.slice none 0 0)) (.tmp 41) rfl _ w2.heap.size w2 _ _ _ _ [] hp rfl b3 o3 k ch _ rfl HH1.out hb3l (by simp) (by omega) ?_; intro v1 w3 hp; try (have hz := hp.zeros; obtain ⟨z0, z1, z2, z3, z4, g0, g1, g2, g3, g4⟩ := hz))
            | (refine step_two_r rfl (.const (.slice none 0 0)) (.tmp 41) rfl _ w2.heap.size w2 _ _ _ _ [] hpa rfl b3 o3 k ch _ rfl HH1.out hb3l (by simp) (by omega) ?_; intro v1 w3 hp; have hz := hp.zeros; obtain ⟨z0, z1, z2, z3, z4, g0, g1, g2, g3, g4⟩ := hz)
            | (refine step_two_r rfl (.const (.slice none 0 0)) (.tmp 41) rfl _ w2.heap.size w2 _ _ _ _ [] hp.track rfl b3 o3 k ch _ rfl HH1.out hb3l (by simp) (by omega) ?_; intro v1 w3 hp; have hz := hp.zeros; obtain ⟨z0, z1, z2, z3, z4, g0, g1, g2, g3, g4⟩ := hz)
            | (refine step_two_r rfl (.tmp 42) (.tmp 47) rfl _ w2.heap.size w2 _ _ _ _ _ hp rfl b3 _ _ _ _ rfl HH2.out hb3l (by have := HH1.out.len; simp [this]; omega) (by omega) ?_; intro v2 w3 hp; obtain ⟨pv, cv, rfl, _⟩ := own_cut hp.ov HHl.out hkm; try (have hz := hp.zeros; obtain ⟨z0, z1, z2, z3, z4, g0, g1, g2, g3, g4⟩ := hz))
            | (refine step_two_r rfl (.tmp 42) (.tmp 47) rfl _ w2.heap.size w2 _ _ _ _ _ hp.track rfl b3 _ _ _ _ rfl HH2.out hb3l (by have := HH1.out.len; simp [this]; omega) (by omega) ?_; intro v2 w3 hp; obtain ⟨pv, cv, rfl, _⟩ := own_cut hp.ov HHl.out hkm; have hz := hp.zeros; obtain ⟨z0, z1, z2, z3, z4, g0, g1, g2, g3, g4⟩ := hz))
        all_goals go_wp2_with fail
        all_goals go_meet
        all_goals first
          | exact ⟨_, _, _, _, _, rfl, Few.set hp (own_cut2 hp.ou HAl.out hkm) (own_cut2 hp.ov HHl.out hkm)⟩
          | exact ⟨_, _, _, _, _, rfl, Few.new hp (own_cut2 hp.ou HAl.out hkm) (own_cut2 hp.ov HHl.out hkm)⟩
      obtain ⟨X, p1, q1, c1', d1', rfl, hF⟩ := hcut
      have HFw := Lib.hid hF
      have HTc := Lib.hid (HT2.out.on HBle.out hF.below)
      have hs60 : ∀ i, i < m2 → (S i).size ≤ 60 := fun i hi => by
        have := HLi.out.doc i hi
        unfold docL at this
        rw [Bool.and_eq_true, decide_eq_true_eq] at this
        rw [Lib.size_eq]
        exact this.2
      obtain ⟨m1, rfl⟩ : ∃ m1, m2 = m1 + 1 := ⟨m2 - 1, by omega⟩
      rw [Nat.add_sub_cancel] at HFw
      have hAl : al.length = m1 + 1 := HA.out.len
      have hHl : hl.length = m1 + 1 := HH.out.len
      have hok1 := cut1_ok HLi.out.cols hAl hHl (show k ≤ m1 by omega)
      have Hs60 := Lib.hid hs60
      have HOk1 := Lib.hid hok1
      have HX := Lib.hid (headText_any pn p1 q1 (m1 + 1) cn m1 c1' d1' bg en S (cut1 al k) (cut1 hl k) wc (HS.out.below HTc.out.below (Nat.le_refl _)) HFw.out.bp HFw.out.bq hn8 hs60 hok1)
      have HLen1 := Lib.hid (headL_len (bg := bg) (en := en) hn8 hs60 hok1)
      have HLen2 := Lib.hid (headL_len (bg := bg) (en := en) hn8 hs60 HLi.out.cols)
      have c0 := HFw.out.c0
      have c1 := HFw.out.c1
      have c2 := HFw.out.c2
      have c3 := HFw.out.c3
      have c4 := HFw.out.c4
      clear hF hs60 hok1 hAl hHl hsl1 hsl2 hsl3 hsl4 hwr hp hpa
      go_wp2_with fail
      refine HX.out.mono ?_
      rintro e w3 ⟨v3, rfl, ho3, hb3⟩
      have HO3 := Lib.hid ho3
      have HB3 := Lib.hid hb3
      have HZ3 := Lib.hid hb3.size
      clear ho3 hb3 HX c0 c1 c2 c3 c4
      go_wp2_with (at_builtin; refine app_byte rfl _ _ rfl wc.heap.size _ (headL S (m1 + 1) (cut1 al k) (cut1 hl k) m1 bg en) rfl HO3.out _ 10 rfl rfl (by have := HLen1.out; omega) HZ3.out ?_; intro v4 w4 hown4 hnil4 hbel4 hk4)
      have HO4 := Lib.hid hown4
      have HT4 := Lib.hid (HTc.out.on HBle.out (HB3.out.trans hbel4))
      clear hown4 hnil4 hbel4 hk4
      refine (head_said false v4 wc.heap.size S (m1 + 1) m1 (cut1 al k) (cut1 hl k) bg en w4 HO4.out (by omega) hn8 Hs60.out HLi.out.doc HOk1.out rfl).mono ?_
      rintro e w5 ⟨s1, x1, rfl, hs1, hb5⟩
      have hs1 : s1 = 0 := hs1
      subst hs1
      have HT5 := Lib.hid (HT4.out.on HBle.out hb5)
      have HDoc := Lib.hid (HLi.out.doc 0 (by omega))
      obtain ⟨bn, on, e0, hbn, hcn⟩ := (HS.out.below HT5.out.below (Nat.le_refl _)).cells (by omega)
      subst e0
      have cn0 := hcn 0 (by omega)
      rw [Nat.add_zero] at cn0
      have c0 := HT5.out.c0
      have c1 := HT5.out.c1
      have c2 := HT5.out.c2
      have c3 := HT5.out.c3
      have c4 := HT5.out.c4
      clear hb5 hbn hcn
      go_wp2_with fail
      refine (doc_two w5 _ (S 0) ⟨#[45, 45, 45]⟩ (S 0).data.toList [45, 45, 45] rfl rfl rfl (by have := Hs60.out 0 (by omega); rw [Lib.size_eq] at this; omega) (by simp)).mono ?_
      rintro e w6 ⟨v6, rfl, ho6, hb6⟩
      have HO6 := Lib.hid ho6
      have HT6 := Lib.hid (HT5.out.on HBle.out hb6)
      clear ho6 hb6 c0 c1 c2 c3 c4 cn0
      go_wp2_with fail
      refine (plain_said v6 w5.heap.size (S 0).data.toList.length _ w6 HO6.out (noBar_of HDoc.out) (by have := Hs60.out 0 (by omega); rw [Lib.size_eq] at this; simp only [List.length_append, List.length_cons, List.length_nil]; omega)).mono ?_
      rintro e w7 ⟨s2, x2', rfl, hs2, hb7⟩
      have hs2 : s2 = 0 := hs2
      subst hs2
      have HT7 := Lib.hid (HT6.out.on HBle.out hb7)
      have HX7 := Lib.hid (headText_any (some ⟨bn, on, none⟩) (some ⟨b2, o2, none⟩) (some ⟨b3, o3, none⟩) (m1 + 1) cn (m1 + 1) ca ch bg en S al hl w7 (HS.out.below HT7.out.below (Nat.le_refl _)) (HA.out.below HT7.out.below (Nat.le_refl _)) (HH.out.below HT7.out.below (Nat.le_refl _)) hn8 Hs60.out HLi.out.cols)
      have c0 := HT7.out.c0
      have c1 := HT7.out.c1
      have c2 := HT7.out.c2
      have c3 := HT7.out.c3
      have c4 := HT7.out.c4
      clear hb7
      go_wp2_with fail
      refine HX7.out.mono ?_
      rintro e w8 ⟨v8, rfl, ho8, hb8⟩
      have HO8 := Lib.hid ho8
      have HB8 := Lib.hid hb8
      have HZ8 := Lib.hid hb8.size
      clear ho8 hb8 HX7 c0 c1 c2 c3 c4
      go_wp2_with (at_builtin; refine app_byte rfl _ _ rfl w7.heap.size _ (headL S (m1 + 1) al hl (m1 + 1) bg en) rfl HO8.out _ 10 rfl rfl (by have := HLen2.out; omega) HZ8.out ?_; intro v9 w9 hown9 hnil9 hbel9 hk9)
      have HO9 := Lib.hid hown9
      have HT9 := Lib.hid (HT7.out.on HBle.out (HB8.out.trans hbel9))
      clear hown9 hnil9 hbel9 hk9
      refine (head_said true v9 w7.heap.size S (m1 + 1) (m1 + 1) al hl bg en w9 HO9.out (by omega) hn8 Hs60.out HLi.out.doc HLi.out.cols rfl).mono ?_
      rintro e wA ⟨s3, x3', rfl, hs3, hbA⟩
      have hs3 : 0 < s3 := hs3
      have HTA := Lib.hid (HT9.out.on HBle.out hbA)
      clear hbA
      go_wp2_with fail
      go_ret
      exact ⟨rfl, HTA.out.below⟩

end Go.Proofs.YtlndmebmcjngfaaGreatDoor
