/- Smart punctuation: the law FnPantsMany walked: it returns true. Condition: the rows of pieces lie in memory as they are read. -/
import Derived.Test.YtnkjnlmghnomiaaDoorPamC
import Derived.Deep.QuietTactic
import Derived.BigQuiet
namespace Go.Proofs.YtnkjnlmghnomiaaDoor
open Go.ChangeShapes Go.WideShapes Go.ChangeAt Go.RowKit

/-- three dots by themselves -/
theorem dots_pant (F : Cfg) : PantAt F [46, 46, 46] 0 hellipL := by
  have h := PantAt.act (F := F) (l := [46, 46, 46]) (i := 0) (k := 2) (o := hellipL) (o' := []) (by decide) (by simp [cbI, bat]) (Act.e3 (by decide) (by decide) (by decide) (by decide)) PantAt.stop
  simpa using h
theorem dots_any (W : World) :
    Calls Tryd.prog 9 #[.int .i64 0, .slice (some ⟨W.heap.size, 0, none⟩) 3 3] (W.alloc (.cells #[.int .u8 46, .int .u8 46, .int .u8 46] 5 (3, 4))) fun e w' => ∃ v', e = .returned v' ∧ Owns w' W.heap.size v' hellipL ∧ Below W.heap.size W w' := by
  refine (pants_any 0 _ 3 3 [46, 46, 46] hellipL _ (Bs.new W [46, 46, 46] _ _ _ 3 rfl rfl) (by omega) (by omega) (dots_pant _)).mono ?_
  rintro e w' ⟨v', rfl, ho, hb⟩
  exact ⟨v', rfl, ho.down (by simp), ((Below.refl _ _).alloc (Nat.le_refl _) _).trans (hb.mono (by simp))⟩

/-- what the law answers -/
def TrueSaid (w : World) (e : Ending) (w' : World) : Prop := e = .returned (.bool true) ∧ Below w.heap.size w w'

set_option maxHeartbeats 4000000 in
set_option maxRecDepth 100000 in
theorem fnPantsMany_any (flags : Int) (p : Option Addr) (n c : Nat) (R : Nat → RI) (w : World) (hR : PRows w p n R) (hn : n ≤ 9223372036854775807) :
    Calls Tryd.prog 4 #[.int .i64 flags, .slice p n c] w (TrueSaid w) := by
  have HR0 := Lib.hid hR
  have HZ := Lib.hid (zzFits28_any p n c R w hR hn)
  have HFl := Lib.hid (fun w => isPantFlags_any flags w)
  clear hR
  obtain ⟨i0, hi, hz0, hz1, hz2⟩ := info_parts Tryd.info27T
  obtain ⟨i1, hj, hy0, hy1, hy2⟩ := info_parts Tryd.info9T
  go_enter Tryd.func4, Tryd.ntmps4
  go_wp2_with fail
  refine HZ.out.mono ?_
  rintro e w1 ⟨r1, rfl, hb1, hr1⟩
  have HB1 := Lib.hid hb1
  have HR1 := Lib.hid hr1
  clear hb1 hr1 HZ
  cases r1 with
  | false =>
    go_wp2_with fail
    go_ret
    exact ⟨rfl, HB1.out⟩
  | true =>
  have HF := Lib.hid (HR1.out rfl)
  obtain ⟨fl, hfl⟩ : ∃ fl, fl = pantF flags := ⟨_, rfl⟩
  rw [← hfl] at HFl
  have HFf := Lib.hid hfl
  clear hfl HR1
  cases fl with
  | false =>
    go_wp2_with fail
    refine (HFl.out _).mono ?_
    rintro e w2 ⟨rfl, rfl⟩
    go_wp2_with fail
    go_ret
    exact ⟨rfl, HB1.out⟩
  | true =>
  by_cases h8 : 8 < n
  · go_wp2_with fail
    refine (HFl.out _).mono ?_
    rintro e w2 ⟨rfl, rfl⟩
    go_wp2_with fail
    go_ret
    exact ⟨rfl, HB1.out⟩
  have hfl := HFf.out.symm
  unfold pantF at hfl
  rw [Bool.and_eq_true, decide_eq_true_eq, decide_eq_true_eq] at hfl
  have HFb := Lib.hid hfl
  have HR := Lib.hid (HR0.out.below HB1.out (Nat.le_refl _))
  clear hfl HFf HR0
  go_wp2_with fail
  refine (HFl.out _).mono ?_
  rintro e w2 ⟨rfl, rfl⟩
  clear HFl
  go_wp2_with fail
  go_loopw [28, 5, 6] (fun t v5 v6 wr => ∃ (k : Nat) (Ps : Nat → List Pc), k ≤ n ∧ t = .int .i64 k ∧ LR (cfgOf flags) w1 R k v5 v6 Ps wr) (fun t _ _ _ => n - (intOf t).toNat)
  case atStart => exact ⟨0, fun _ => [], Nat.zero_le _, rfl, TRow.nil _ _ _, World.ownsRow_nil _ _ _ _, fun i hi => absurd hi (Nat.not_lt_zero i), Below.refl _ _⟩
  case round =>
    obtain ⟨k, Ps, hk, rfl, hlr⟩ := hrel
    have HL := Lib.hid hlr
    clear hlr
    by_cases hlt : k < n
    · obtain ⟨b, o, hp, hbl, hcl⟩ := HR.out.cells (by omega)
      subst hp
      have hck := (HL.out.below.cell (p := ⟨b, o + k, none⟩) hbl).trans (hcl k hlt)
      obtain ⟨hr1, hr2⟩ := HR.out.rows k hlt
      have hft := HF.out k hlt
      obtain ⟨s, hs⟩ : ∃ s, s = R k := ⟨_, rfl⟩
      rw [← hs] at hck hr1 hr2 hft
      have HS := Lib.hid (And.intro hr1 hr2)
      have HFt := Lib.hid hft
      clear hcl hbl hs hr1 hr2 hft
      by_cases h12 : 12 < s.n
      · go_wp2_with fail
        go_ret
        exact ⟨rfl, HB1.out.trans (HL.out.below.mono HB1.out.size)⟩
      · have HLi := Lib.hid (pantLine_any (cfgOf flags) flags s.p s.n s.c s.S wr (HS.out.1.below HL.out.below (Nat.le_refl _)) HFt.out (by omega) HFb.out.1 (by have := HFb.out.2; omega) rfl)
        go_wp2_with fail
        refine HLi.out.mono ?_
        rintro e w2 ⟨s1, s2, r, rfl, hb2, hr2⟩
        have HB2 := Lib.hid hb2
        have HR2 := Lib.hid hr2
        clear hb2 hr2 HLi
        cases r with
        | false =>
          go_wp2_with fail
          go_ret
          exact ⟨rfl, HB1.out.trans ((HL.out.below.trans (HB2.out.mono HL.out.below.size)).mono HB1.out.size)⟩
        | true =>
          obtain ⟨ps, hok, hpl, rfl, rfl⟩ := HR2.out rfl
          have hln := lineL_le hok
          have hel := made_el w2 (lineL ps) (by omega)
          have hsz1 := HL.out.below.size
          have hsz2 := HB2.out.size
          have kc := Lib.run_convert_string_bytes (P := Tryd.prog) w2 9 27 5 (str (lineL ps)) Tryd.underlying9 Tryd.underlying27 Tryd.underlying5
          have hbw := Lib.bytesWorld_below w2 5 (str (lineL ps))
          have hws := Lib.bytesWorld_size w2 5 (str (lineL ps))
          have hat : ∀ x, x < wr.heap.size → (Lib.bytesWorld w2 5 (str (lineL ps))).heap[x]? = wr.heap[x]? := fun x hx => (hbw.block x (by omega)).trans (HB2.out.block x hx)
          obtain ⟨W2, hW2⟩ : ∃ W, W = Lib.bytesWorld w2 5 (str (lineL ps)) := ⟨_, rfl⟩
          obtain ⟨cx, hcx⟩ : ∃ c, c = grownCap w2 (str (lineL ps)).size 0 5 := ⟨_, rfl⟩
          obtain ⟨nx, hnx⟩ : ∃ n, n = (str (lineL ps)).size := ⟨_, rfl⟩
          rw [← hcx, ← hnx, ← hW2] at hel
          rw [← hcx, ← hnx, ← hW2] at kc
          rw [← hW2] at hbw hws hat
          obtain ⟨V, hV, hVe⟩ := (HL.out.txs.moved fun x _ hx2 => hat x hx2 : TRow W2 w1.heap.size _ k _).row
          have HRow := Lib.hid hV
          have HEls := Lib.hid hVe
          have HWant := Lib.hid (own_moved HL.out.want fun x _ hx2 => hat x hx2 : W2.ownsRow w1.heap.size 9 1 _ k _)
          have HX := Lib.hid (hel.down (by omega : w1.heap.size ≤ w2.heap.size))
          have HBW := Lib.hid ((HL.out.below.trans (HB2.out.mono hsz1)).trans (hbw.mono (by omega)) : Below w1.heap.size w1 W2)
          have HSz := Lib.hid (show w1.heap.size ≤ W2.heap.size by omega)
          have HOk := Lib.hid (And.intro hok hpl)
          clear hel hbw hws hat hW2 hcx hnx hV hVe hok hpl hsz1 hsz2 hln HR2
          go_wp2_with (at_builtin; refine wpList_append_own _ rfl _ _ 32 rfl w1.heap.size 27 i0 (.slice none 0 0) 1 24 Tryd.underlying32 hi hz0 hz1 hz2 rfl (by decide) _ k (rowV V k) rfl (World.ownsRow.alloc HRow.out _) ⟨W2.heap.size, 0, none⟩ 1 1 [.slice (some ⟨w2.heap.size, 0, none⟩) nx cx] rfl rfl ?qc2 ?qc3 ?qc4 ?qc5 ?qc6 ?_)
          case qc2 =>
            intro j y hj
            match j with
            | 0 =>
              simp at hj
              subst hj
              simp [Addr.add, World.cell?_alloc_new]
            | j + 1 => simp at hj
          case qc3 =>
            intro y hy
            simp at hy
            subst hy
            rfl
          case qc4 => unfold maxLen; omega
          case qc5 => omega
          case qc6 => have := HSz.out; simp; omega
          intro v7 w7 hown7 hgrow7 _
          have HO7 := Lib.hid hown7
          have HG7 := Lib.hid hgrow7
          have HW7 := Lib.hid (own_grown (World.ownsRow.alloc HWant.out _) (World.ownsRow.alloc HRow.out _) (by decide) hgrow7)
          have HS7 := Lib.hid (show w1.heap.size ≤ w7.heap.size by have := HSz.out; have := hgrow7.size; simp at this; omega)
          clear hown7 hgrow7
          go_wp2_with (at_builtin; refine wpList_append_own _ rfl _ _ 33 rfl w1.heap.size 9 i1 (.string ⟨#[]⟩) 1 16 Tryd.underlying33 hj hy0 hy1 hy2 rfl (by decide) _ k _ rfl (World.ownsRow.alloc HW7.out _) ⟨w7.heap.size, 0, none⟩ 1 1 [.string (str (meanL (cfgOf flags) ps))] rfl rfl ?qd2 ?qd3 ?qd4 ?qd5 ?qd6 ?_)
          case qd2 =>
            intro j y hj
            match j with
            | 0 =>
              simp at hj
              subst hj
              simp [Addr.add, World.cell?_alloc_new]
            | j + 1 => simp at hj
          case qd3 =>
            intro y hy
            simp at hy
            subst hy
            rfl
          case qd4 => unfold maxLen; omega
          case qd5 => omega
          case qd6 => have := HS7.out; simp; omega
          intro v8 w8 hown8 hgrow8 _
          have HLR := Lib.hid (LR.step (F := cfgOf flags) (R := R) (World.ownsRow.alloc HRow.out _) (fun i hi => (HEls.out i hi).kept (Kept8.alloc _ _ _)) (HX.out.kept (Kept8.alloc _ _ _)) (World.ownsRow.alloc HWant.out _) HG7.out HO7.out hgrow8 hown8 HL.out.ok HOk.out.1 (by have := HOk.out.2; omega) (HBW.out.alloc HSz.out _))
          clear hown8 hgrow8
          go_wp2_with fail
          go_roundw
          case rel => exact ⟨k + 1, fun i => if i < k then Ps i else ps, by omega, by go_num, HLR.out⟩
          case measure => simp [intOf]; omega
    · obtain rfl : k = n := by omega
      have HBel := Lib.hid (HB1.out.trans (HL.out.below.mono HB1.out.size) : Below w.heap.size w wr)
      obtain ⟨p5, c5, hv5, htxs⟩ := HL.out.txs.txs
      obtain ⟨p6, c6, hv6, hws⟩ := own_cells HL.out.want
      subst hv5
      subst hv6
      have HWs := Lib.hid hws
      have HM := Lib.hid (pantsMany_any flags p5 k c5 (fun i => lineL (Ps i)) (fun i => meanL (cfgOf flags) (Ps i)) wr htxs (by omega) (fun i hi => by
        have h1 := lineL_len (Ps i)
        have h2 := lineL_le (HL.out.ok i hi).1
        have h3 := (HL.out.ok i hi).2
        exact ⟨by omega, by omega, line_pant (HL.out.ok i hi).1⟩))
      clear htxs hws
      go_wp2_with fail
      refine HM.out.mono ?_
      rintro e w3 ⟨pg, cg, rfl, htg, hbg⟩
      have HTg := Lib.hid htg
      have HBg := Lib.hid hbg
      have HD := Lib.hid (dots_any w3)
      have kc : (convert 27 27 (.slice (some ⟨w3.heap.size, 0, none⟩) 3 3)).run Tryd.prog (w3.alloc (.cells #[.int .u8 46, .int .u8 46, .int .u8 46] 5)) = .ok (.slice (some ⟨w3.heap.size, 0, none⟩) 3 3) (w3.alloc (.cells #[.int .u8 46, .int .u8 46, .int .u8 46] 5 (3, 4))) := conv_first w3 #[.int .u8 46, .int .u8 46, .int .u8 46] 3 3
      clear htg hbg HM
      go_wp2_with fail
      refine HD.out.mono ?_
      rintro e w4 ⟨v', rfl, ho, hb4⟩
      obtain ⟨p4, c4, rfl, _, _, hbs⟩ := ho.bs
      have hcv := hbs.convert c4
      have hlit : str hellipL = ⟨#[38, 104, 101, 108, 108, 105, 112, 59]⟩ := rfl
      rw [hlit] at hcv
      have HB4 := Lib.hid hb4
      clear hb4 ho hbs HD kc hlit
      go_wp2_with fail
      have hw34 : Below wr.heap.size wr w4 := HBg.out.trans (HB4.out.mono HBg.out.size)
      have HAt := Lib.hid (show ∀ i, i < k → ∃ b b2 o2 q c, p6 = some ⟨b, 0, none⟩ ∧ pg = some ⟨b2, o2, none⟩ ∧ w4.cell? ⟨b, i, none⟩ = some (.string (str (meanL (cfgOf flags) (Ps i)))) ∧ w4.cell? ⟨b2, o2 + i, none⟩ = some (.slice q (meanL (cfgOf flags) (Ps i)).length c) ∧ Bs w4 q (meanL (cfgOf flags) (Ps i)).length (meanL (cfgOf flags) (Ps i)) from fun i hi => by
        obtain ⟨b, hp, hlt, hc⟩ := HWs.out (by omega)
        obtain ⟨b2, o2, hp2, hlt2, hc2⟩ := (HTg.out.below HB4.out (Nat.le_refl _)).cells (by omega)
        obtain ⟨q, c, h1, h2⟩ := hc2 i hi
        exact ⟨b, b2, o2, q, c, hp, hp2, (hw34.cell (p := ⟨b, i, none⟩) hlt).trans (hc i hi), h1, h2⟩)
      have HBe := Lib.hid (HBel.out.trans (hw34.mono HBel.out.size) : Below w.heap.size w w4)
      clear hw34
      go_loopw [71] (fun t wy => ∃ (j nd : Nat), j ≤ k ∧ t = .int .i64 j ∧ wy = w4.drewN nd) (fun t _ => k - (intOf t).toNat)
      case atStart => exact ⟨0, 0, Nat.zero_le _, rfl, rfl⟩
      case round =>
        obtain ⟨j, nd, hj2, rfl, rfl⟩ := hrel
        by_cases hlt : j < k
        · obtain ⟨b, b2, o2, q, c, hp, hp2, h1, h2, h3⟩ := HAt.out j hlt
          subst hp
          subst hp2
          obtain ⟨m, hm⟩ : ∃ m, m = meanL (cfgOf flags) (Ps j) := ⟨_, rfl⟩
          rw [← hm] at h1 h2 h3
          have v1 : ∀ z : Nat, (convert 27 9 (.slice q m.length c)).run Tryd.prog (w4.drewN z) = .ok (.string (str m)) (w4.drewN z) := fun z => (h3.drewN z).convert c
          have x1 : ∀ z : Nat, (w4.drewN z).cell? ⟨b, j, none⟩ = some (.string (str m)) := fun z => h1
          have x2 : ∀ z : Nat, (w4.drewN z).cell? ⟨b2, o2 + j, none⟩ = some (.slice q m.length c) := fun z => h2
          clear h1 h2 h3 hm
          go_upto_region 23 with fail
          go_quiet (fail)
          go_wp2_with fail
          go_roundw
          case rel => exact ⟨j + 1, _, by omega, by go_num, rfl⟩
          case measure => simp [intOf]; omega
        · obtain rfl : j = k := by omega
          go_wp2_with fail
          go_ret
          exact ⟨rfl, Below.drewN HBe.out _⟩

end Go.Proofs.YtnkjnlmghnomiaaDoor
