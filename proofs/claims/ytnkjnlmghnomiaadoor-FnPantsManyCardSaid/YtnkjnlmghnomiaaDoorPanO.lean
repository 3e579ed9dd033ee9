/- Smart punctuation: Process walked. Condition: lengths are bounded. -/
import Derived.Test.YtnkjnlmghnomiaaDoorPanN
namespace Go.Proofs.YtnkjnlmghnomiaaDoor
open Go.ChangeShapes Go.WideShapes Go.ChangeAt Go.RowKit

theorem want_none {F : Cfg} {B : Nat} {va : Value} {x : Int} (h0 : 0 ≤ x) (h : cbI F x = false) : want F B va x.toNat = .nilFunc := by
  obtain ⟨c, rfl⟩ : ∃ c : Nat, x = c := ⟨x.toNat, by omega⟩
  rw [Int.toNat_natCast]
  unfold cbI at h
  simp at h
  obtain ⟨⟨⟨⟨⟨⟨⟨⟨h1, h2⟩, h3⟩, h4⟩, h5⟩, h6⟩, h7⟩, h8⟩, h9⟩ := h
  unfold want
  rw [if_neg (by omega), if_neg (by omega), if_neg (by omega), if_neg (by omega)]
  by_cases e : c = 45
  · rw [if_pos e]
    have : F.dash = false := by
      cases hd : F.dash
      · rfl
      · have := h5 hd
        omega
    rw [if_neg (by rw [this]; decide)]
  · rw [if_neg e, if_neg (by omega)]
    by_cases e2 : 49 ≤ c ∧ c ≤ 57
    · rw [if_pos e2]
      by_cases hf : F.frac = true
      · rw [if_pos hf] at h7
        omega
      · rw [if_neg hf] at h7
        rw [if_neg hf, if_neg (by omega)]
    · rw [if_neg e2, if_neg (by omega), if_neg (by omega)]
theorem Act.pos {F : Cfg} {prev : Int} {m o : List UInt8} {k : Nat} (h : Act F prev m o k) : 1 ≤ o.length := by
  cases h <;> first
    | (simp [rsquoL, copyL, regL, tradeL, mdashL, ndashL, hellipL, fracL, supL]; done)
    | (unfold quoL; simp only [List.length_append, List.length_cons, List.length_nil]; omega)
    | (rw [List.length_take]; omega)
    | (simp only [List.length_append, supL, List.length_cons]; omega)

theorem Cb.inner {F : Cfg} {B : Nat} {va : Value} {b t : Nat} {w0 w w1 w2 : World} {l o : List UInt8} (h : Cb F B va b w0 w l) (hb : Below w.heap.size w w1) (ht : w.heap.size ≤ t) (k : Cb F B va t w1 w2 o) : Cb F B va b w0 w2 l := by
  have h1 := h.below hb
  obtain ⟨g, hg, hn⟩ := h1.buf
  have hs := h.but.size
  have hs1 := h1.but.size
  have hblt := h.blt
  have hlt := h.lt
  have hbs := hb.size
  obtain ⟨g', hg', hn'⟩ := h.buf
  refine ⟨⟨g', ?_, hn'⟩, h1.but.join k.but (fun x hx e => ?_), k.rd, h.bB, h.lt, h.blt⟩
  · refine (hg'.of_block ?_ ?_)
    · exact (k.but.block b (by omega) (by have := h.bB; omega)).trans (hb.block b hg'.lt)
    · intro r e
      have hr : r < w.heap.size := by
        rcases hg' with ⟨e2, _⟩ | ⟨r', _, _, e2, _, _, _, h5, _⟩
        · rw [e2] at e; cases e
        · rw [e2] at e
          cases e
          exact (Array.getElem?_eq_some_iff.1 h5).1
      have := hn' r e
      exact (k.but.block r (by omega) (by omega)).trans (hb.block r hr)
  · omega

theorem PantAt.inv_end {F : Cfg} {l o : List UInt8} {i : Nat} (h : PantAt F l i o) (hi : i = l.length) : o = [] := by
  cases h with
  | stop => rfl
  | plain h hc r => omega
  | act h hc a r => omega
theorem PantAt.inv_plain {F : Cfg} {l o : List UInt8} {i : Nat} (h : PantAt F l i o) (hi : i < l.length) (hc : cbI F (bat l i) = false) : ∃ o', o = l.getD i 0 :: o' ∧ PantAt F l (i + 1) o' := by
  cases h with
  | stop => omega
  | plain h hc r => exact ⟨_, rfl, r⟩
  | act h hc2 a r => rw [hc] at hc2; cases hc2
theorem PantAt.inv_act {F : Cfg} {l o : List UInt8} {i : Nat} (h : PantAt F l i o) (hi : i < l.length) (hc : cbI F (bat l i) = true) : ∃ k a o', o = a ++ o' ∧ i + k < l.length ∧ Act F (prevI l i) (l.drop i) a k ∧ PantAt F l (i + k + 1) o' := by
  cases h with
  | stop => omega
  | plain h hc2 r => rw [hc] at hc2; cases hc2
  | act h hc a r => exact ⟨_, _, _, rfl, h, a, r⟩
/-- the methods that are callbacks -/
def methL : List Nat := [36, 37, 38, 39, 40, 41, 42, 43, 44, 45, 46]
theorem want_fun {F : Cfg} {B : Nat} {va : Value} {x : Int} (h0 : 0 ≤ x) (h : cbI F x = true) : (∃ f, f ∈ methL ∧ want F B va x.toNat = meth B f) ∨ want F B va x.toNat = va := by
  obtain ⟨c, rfl⟩ : ∃ c : Nat, x = c := ⟨x.toNat, by omega⟩
  rw [Int.toNat_natCast]
  unfold want
  by_cases e1 : c = 34
  · rw [if_pos e1]; refine Or.inl ⟨_, ?_, rfl⟩; first | decide | (split <;> decide)
  rw [if_neg e1]
  by_cases e2 : c = 38
  · rw [if_pos e2]; exact Or.inr rfl
  rw [if_neg e2]
  by_cases e3 : c = 39
  · rw [if_pos e3]; refine Or.inl ⟨_, ?_, rfl⟩; first | decide | (split <;> decide)
  rw [if_neg e3]
  by_cases e4 : c = 40
  · rw [if_pos e4]; refine Or.inl ⟨_, ?_, rfl⟩; first | decide | (split <;> decide)
  rw [if_neg e4]
  by_cases e5 : c = 45
  · subst e5
    have hd : F.dash = true := by
      cases hd : F.dash
      · cases hf : F.frac <;> simp [cbI, hd, hf] at h
      · rfl
    rw [if_pos rfl, if_pos hd]; refine Or.inl ⟨_, ?_, rfl⟩; first | decide | (split <;> decide)
  rw [if_neg e5]
  by_cases e6 : c = 46
  · rw [if_pos e6]; refine Or.inl ⟨_, ?_, rfl⟩; first | decide | (split <;> decide)
  rw [if_neg e6]
  by_cases e7 : 49 ≤ c ∧ c ≤ 57
  · rw [if_pos e7]
    by_cases hf : F.frac = true
    · rw [if_pos hf]; refine Or.inl ⟨_, ?_, rfl⟩; first | decide | (split <;> decide)
    · rw [if_neg hf]
      by_cases e8 : c = 49 ∨ c = 51
      · rw [if_pos e8]; refine Or.inl ⟨_, ?_, rfl⟩; first | decide | (split <;> decide)
      · exfalso
        unfold cbI at h
        rw [if_neg hf] at h
        simp at h
        omega
  rw [if_neg e7]
  by_cases e8 : c = 60
  · rw [if_pos e8]; refine Or.inl ⟨_, ?_, rfl⟩; first | decide | (split <;> decide)
  rw [if_neg e8]
  by_cases e9 : c = 96
  · rw [if_pos e9]; refine Or.inl ⟨_, ?_, rfl⟩; first | decide | (split <;> decide)
  exfalso
  unfold cbI at h
  cases hf : F.frac <;> simp [hf] at h <;> omega
theorem neqFn {v : Value} (h : ∃ f r c, v = .func f r c) (w : World) : (binOp .neq 69 v .nilFunc).run Tryd.prog w = .ok (.bool true) w := by
  obtain ⟨f, r, c, rfl⟩ := h
  kernel_rfl
theorem eqgFn {v : Value} (h : ∃ f r c, v = .func f r c) (w : World) : (eqGuard .neq 69 (.tmp 26) (.const .nilFunc) v .nilFunc).run Tryd.prog w = .ok () w := by
  obtain ⟨f, r, c, rfl⟩ := h
  kernel_rfl
theorem bodyPost_end0 {P : Program} {fn : Func} {R : Ending → World → Prop} {a : Go.Act} {w : World} (hr : fn.results = #[]) (hd : a.defers = []) (hR : R (.returned (.tuple #[])) w) : bodyPost P fn R .normal a w :=
  bodyPost_end (results_none hr _ _ _) hd hR
theorem Cb.any {F : Cfg} {B : Nat} {va : Value} {b : Nat} {w0 w W : World} {l : List UInt8} (h : Cb F B va b w0 w l) (hW : W.heap = w.heap ∧ W.os = w.os ∧ W.tape = w.tape ∧ W.output = w.output) : Cb F B va b w0 W l := by
  obtain ⟨e1, e2, e3, e4⟩ := hW
  exact h.below ⟨e2, e3, e4, by rw [e1]; exact Nat.le_refl _, fun k _ => by rw [e1]⟩
theorem Bs.same {w w' : World} {p : Option Addr} {n : Nat} {l : List UInt8} (h : Bs w p n l) (e : w'.heap = w.heap) : Bs w' p n l :=
  ⟨h.len, fun hn => by
    obtain ⟨b, o, e1, hlt, hc⟩ := h.cells hn
    exact ⟨b, o, e1, by rw [e]; exact hlt, fun i hi => by have := hc i hi; simpa [World.cell?, e] using this⟩⟩
theorem drop_snoc (l : List UInt8) (i k : Nat) (hk : k ≤ i) (hi : i < l.length) : (l.take (i + 1)).drop k = (l.take i).drop k ++ [l.getD i 0] := by
  rw [List.take_add_one, List.drop_append_of_le_length (by rw [List.length_take]; omega), List.getElem?_eq_getElem hi]
  simp [List.getD, List.getElem?_eq_getElem hi]

set_option maxHeartbeats 16000000 in
set_option maxRecDepth 100000 in
theorem process_any (F : Cfg) (B : Nat) (va : Value) (b tb t0 n c : Nat) (l o : List UInt8) (w : World) (h : Cb F B va b w w []) (ht : Bs w (some ⟨tb, t0, none⟩) n l) (h1 : tb ≠ b) (h2 : tb ≠ B) (hA : ∀ w', But (fun k => k = b ∨ k = B) w w' → Amp F B va w') (hP : PantAt F l 0 o) (hn0 : 0 < n) (hn : n ≤ 100000) (hnc : n ≤ c) (hcm : c ≤ maxLen) :
    Calls Tryd.prog 20 #[.pointer (some ⟨B, 0, none⟩), .iface 52 (.pointer (some ⟨b, 0, none⟩)), .slice (some ⟨tb, t0, none⟩) n c] w fun e w' => e = .returned (.tuple #[]) ∧ Cb F B va b w w' o := by
  have hln := ht.len
  have HLn := Lib.hid hln
  have hna : ∀ w, (nilAhead 233 52 (.pointer (some ⟨b, 0, none⟩)) "Write").run Tryd.prog w = .ok (some false) w := fun _ => by kernel_rfl
  have hm : ∀ w, (method 233 52 (.pointer (some ⟨b, 0, none⟩)) "Write").run Tryd.prog w = .ok (57, .pointer (some ⟨b, 0, none⟩)) w := fun _ => by kernel_rfl
  have qnn : ∀ w, (binOp .neq 69 .nilFunc .nilFunc).run Tryd.prog w = .ok (.bool false) w := fun _ => by kernel_rfl
  have HH := Lib.hid h
  have HT := Lib.hid ht
  have HA := Lib.hid hA
  have HP := Lib.hid hP
  have HNb := Lib.hid (show ∀ a : Addr, some ⟨tb, t0, none⟩ = some a → a.block ≠ b ∧ a.block ≠ B from fun a e => by cases e; exact ⟨h1, h2⟩)
  have Hol := Lib.hid (show o.length ≤ 4000000 by have := hP.len; omega)
  unfold maxLen at hcm
  clear h ht hA hP hln
  go_enter Tryd.func20, Tryd.ntmps20
  go_wp2_with fail
  go_loopw [6, 7] (fun mk ix wr => ∃ (i k : Nat) (l' o' : List UInt8), k ≤ i ∧ i ≤ n ∧ mk = .int .i64 k ∧ ix = .int .i64 i ∧ Cb F B va b w wr l' ∧ PantAt F l i o' ∧ l' ++ ((l.take i).drop k ++ o') = o) (fun _ ix _ => n - (intOf ix).toNat)
  case atStart => exact ⟨0, 0, [], o, Nat.le_refl _, Nat.zero_le _, rfl, rfl, HH.out, HP.out, by simp⟩
  case round =>
    obtain ⟨i, k, l', o', hki, hin, rfl, rfl, hcb, hpa, hso⟩ := hrel
    have HCb := Lib.hid hcb
    have HSo := Lib.hid hso
    have HPa := Lib.hid hpa
    clear hcb hso hpa
    by_cases hi : i < n
    · have ci : wr.cell? ⟨tb, t0 + i, none⟩ = some (.int .u8 (bat l i)) := by
        obtain ⟨b', o', e, _, hc⟩ := (HCb.out.text HT.out HNb.out).cells hn0
        cases e
        exact hc i hi
      obtain ⟨x, hx⟩ : ∃ x : Nat, bat l i = x := ⟨(bat l i).toNat, by have := bat_nonneg l i; omega⟩
      have hx2 : x < 256 := by have := bat_lt l i; omega
      rw [hx] at ci
      have cc := HCb.out.rd.call x hx2
      cases hcb : cbI F (bat l i) with
      | false =>
        have hw := want_none (F := F) (B := B) (va := va) (bat_nonneg l i) hcb
        rw [hx, Int.toNat_natCast] at hw
        rw [hw] at cc
        have HC0 := Lib.hid hcb
        clear hw hcb
        go_upto_region 4 with fail
        go_quiet (fail)
        go_wp2_with fail
        go_roundw
        case rel =>
          obtain ⟨o2, e1, e2⟩ := HPa.out.inv_plain (by have := HLn.out; omega) HC0.out
          refine ⟨i + 1, k, l', o2, by omega, by omega, rfl, by go_num, HCb.out.below (Below.drewN (Below.refl _ _) nq), e2, ?_⟩
          rw [drop_snoc l i k hki (by have := HLn.out; omega), List.append_assoc, List.singleton_append, ← e1]
          exact HSo.out
        case measure => simp [intOf]; omega
      | true =>
        obtain ⟨k2, a, o2, e1, e2, e3, e4⟩ := HPa.out.inv_act (by have := HLn.out; omega) hcb
        have HE1 := Lib.hid e1
        have HE2 := Lib.hid e2
        have HE3 := Lib.hid e3
        have HE4 := Lib.hid e4
        obtain ⟨v, hv⟩ : ∃ v, v = want F B va x := ⟨_, rfl⟩
        have hfn : ∃ f r c, v = .func f r c := by
          rw [hv]
          have := want_fun (F := F) (B := B) (va := va) (bat_nonneg l i) hcb
          rw [hx, Int.toNat_natCast] at this
          rcases this with ⟨f, _, e⟩ | e
          · exact ⟨_, _, _, e⟩
          · obtain ⟨x, y, z, e9, _⟩ := (HA.out w (But.refl _ w)).val
            exact ⟨_, _, _, e.trans e9⟩
        have HFb := Lib.hid (show (∃ f, f ∈ methL ∧ v = meth B f) ∨ v = va by
          have := want_fun (F := F) (B := B) (va := va) (bat_nonneg l i) hcb
          rwa [hx, Int.toNat_natCast, ← hv] at this)
        have qn := neqFn hfn
        have qg := eqgFn hfn
        clear hfn
        rw [← hv] at cc
        have HV := Lib.hid hv
        clear hv e1 e2 e3 e4 hcb
        go_upto_region 4 with fail
        go_quiet (fail)
        have HCb1 := Lib.hid (HCb.out.below (Below.drewN (Below.refl _ _) nq))
        clear cc ci
        go_upto_if 30 with fail
        go_cut [] (fun wx => Cb F B va b w wx (l' ++ (l.take i).drop k))
        case first =>
          by_cases hk : k < i
          · have HW := Lib.hid (fun W (hW : Cb F B va b w W l') => hW.write (c := c - k) ((hW.text HT.out HNb.out).part k i hk (by omega)) h1 (by omega) (by have := congrArg List.length HSo.out; rw [List.length_append] at this; have := Hol.out; omega))
            go_upto_region 7 with fail
            go_region_with (
              go_at_call 57
              refine (HW.out _ ?_).mono ?_
              first | exact HCb1.out | exact HCb.out.below (Below.drewN (Below.refl _ _) _)
              rintro e w2 ⟨rfl, hc⟩)
            all_goals
              go_wp2_with fail
              go_meet
              exact hc
          · obtain rfl : k = i := by omega
            go_wp2_with fail
            go_meet
            rw [show (l.take k).drop k = [] from List.drop_eq_nil_of_le (by rw [List.length_take]; omega), List.append_nil]
            exact HCb1.out
        obtain ⟨L, hL⟩ : ∃ L, L = l' ++ (l.take i).drop k := ⟨_, rfl⟩
        rw [← hL] at hcut
        have HL := Lib.hid hL
        have HC2 := Lib.hid hcut
        clear hcut hL HCb HCb1
        have cp : ∀ j, j < n → wc.cell? ⟨tb, t0 + j, none⟩ = some (.int .u8 (bat l j)) := by
          obtain ⟨b', o', e, _, hc⟩ := (HC2.out.text HT.out HNb.out).cells hn0
          cases e
          exact hc
        have HCp := Lib.hid cp
        clear cp
        obtain ⟨W, hW⟩ : ∃ W, W = wc := ⟨_, rfl⟩
        have HWe := Lib.hid hW
        clear hW
        go_upto_if 41 with fail
        go_cut [9] (fun p wx => p = .int .u8 (prevI l i) ∧ wx = W)
        case first =>
          by_cases h0 : i = 0
          · subst h0
            go_wp2_with fail
            go_meet
            exact ⟨rfl, HWe.out.symm⟩
          · have cp := HCp.out (i - 1) (by omega)
            have hi1 : 0 < i := by omega
            have HE := Lib.hid (show prevI l i = bat l (i - 1) by unfold prevI; rw [if_neg h0])
            clear h0
            go_wp2_with fail
            go_meet
            exact ⟨congrArg (Value.int .u8) HE.out.symm, HWe.out.symm⟩
        obtain ⟨rfl, hw1⟩ := hcut
        have hw2 := hw1.trans HWe.out
        subst hw2
        clear HWe hw1
        obtain ⟨W1, hW1⟩ : ∃ W1, W1 = wc.alloc (.cells #[.slice none 0 0, .int .i64 0, .int .i8 0] 47) := ⟨_, rfl⟩
        have HAc := Lib.hid (show CallsAct F B va wc.heap.size tb (t0 + i) (n - i) (c - i) (prevI l i) v W1 (CbSaid F B va wc.heap.size a k2 W1) ∧ Below wc.heap.size wc W1 ∧ W1.heap.size = wc.heap.size + 1 by
          have hbe : Below wc.heap.size wc W1 := by rw [hW1]; exact (Below.refl wc.heap.size wc).alloc (Nat.le_refl _) _
          have hc2 := HC2.out.below hbe
          have hfr : BufAt W1 wc.heap.size none [] := by rw [hW1]; exact fresh_buf wc
          have hBlt := HC2.out.rd.lt
          have htl : tb < w.heap.size := by obtain ⟨b', o', e, hlt, _⟩ := HT.out.cells hn0; cases e; exact hlt
          have hsz := HC2.out.but.size
          have hll := HLn.out
          refine ⟨?_, hbe, by rw [hW1]; simp⟩
          have htx : Bs W1 (some ⟨tb, t0 + i, none⟩) (n - i) (l.drop i) := by
            have := (hc2.text HT.out HNb.out).part i n hi (Nat.le_refl _)
            rwa [List.take_of_length_le (by omega)] at this
          have := act_any F B va wc.heap.size tb (t0 + i) (n - i) (c - i) (l.drop i) (prevI l i) W1 ⟨Cb.start hfr hc2.rd (by omega), htx, h2, by omega, by omega, by omega⟩ (HA.out W1 hc2.but) a k2 HE3.out (by omega) (by unfold maxLen; omega)
          rw [bat_drop0, Nat.add_zero, hx, Int.toNat_natCast, ← HV.out] at this
          exact this)
        obtain ⟨wc0, hwc0⟩ : ∃ x, x = wc := ⟨_, rfl⟩
        go_upto_region 12 with fail
        rw [← hW1]
        subst hwc0
        clear hW1
        go_cut [7] (fun p wx => p = .int .i64 ((i + k2 : Nat) : Int) ∧ Cb F B va wc0.heap.size W1 wx a)
        case first =>
          have hk2 : i + k2 < n := by have := HE2.out; have := HLn.out; omega
          rcases HAc.out.1 with ⟨f, hv, hc⟩ | ⟨x1, y1, z1, hv, hc⟩
          · have HCa := Lib.hid hc
            have hf : f ∈ methL := by
              rcases HFb.out with ⟨f', h1', e⟩ | e
              · have := hv.symm.trans e
                have : f = f' := by simpa [meth] using this
                rw [this]
                exact h1'
              · exfalso
                obtain ⟨x, y, z, e9, _⟩ := (HA.out w (But.refl _ w)).val
                have := hv.symm.trans (e.trans e9)
                simp [meth] at this
            change v = .func (.func f) #[.pointer (some ⟨B, 0, none⟩)] #[] at hv
            clear hc
            subst hv
            simp only [methL, List.mem_cons, List.not_mem_nil, or_false] at hf
            rcases hf with rfl | rfl | rfl | rfl | rfl | rfl | rfl | rfl | rfl | rfl | rfl
            all_goals
              go_wp2_with fail
              refine HCa.out.mono ?_
              rintro e w2 ⟨rfl, hc3⟩
              have HC3 := Lib.hid hc3
              clear hc3
              go_wp2_with fail
              go_meet
              exact ⟨by go_num, HC3.out⟩
          · have HCa := Lib.hid hc
            clear hc
            subst hv
            go_wp2_with fail
            refine HCa.out.mono ?_
            rintro e w2 ⟨rfl, hc3⟩
            have HC3 := Lib.hid hc3
            clear hc3
            go_wp2_with fail
            go_meet
            exact ⟨by go_num, HC3.out⟩
        obtain ⟨rfl, hc3⟩ := hcut
        have HC3 := Lib.hid (Cb.inner HC2.out HAc.out.2.1 (Nat.le_refl _) hc3)
        obtain ⟨g3, hg3, hn3⟩ := hc3.buf
        have hW1 := HAc.out.2.2
        have hbt := HC2.out.but.size
        have hblt := HC2.out.blt
        have ha1 := HE3.out.pos
        have ha2 := HE3.out.len
        have hk2 : i + k2 < n := by have := HE2.out; have := HLn.out; omega
        have hll : L.length + a.length ≤ 4000000 := by
          have h9 := congrArg List.length HSo.out
          have := Hol.out
          rw [← HE1.out.symm] at h9
          rw [HL.out]
          simp only [List.length_append] at h9 ⊢
          omega
        have HBy := Lib.hid (fun W (hW : BufAt W wc0.heap.size g3 a) => bytes_any wc0.heap.size g3 a W hW (by omega))
        have HG3 := Lib.hid hg3
        have HN3 := Lib.hid (show ∀ r, g3 = some r → r ≠ b from fun r e => by have := hn3 r e; omega)
        have HW3 := Lib.hid (fun W pb po cc (hW : Cb F B va b w W L) (hB : Bs W (some ⟨pb, po, none⟩) a.length a) (hne : pb ≠ b) => hW.write (c := cc) hB hne ha1 (by omega))
        clear hg3 hn3 hc3
        go_upto_region 13 with fail
        go_cut [] (fun wx => Cb F B va b w wx (L ++ a))
        case first =>
          go_region_with (first
            | (go_at_call 22
               refine (HBy.out _ ?_).mono ?_
               exact HG3.out.of_block rfl (fun _ _ => rfl)
               rintro e w2 ⟨p3, c3, rfl, hb3, hp3, z3, rfl⟩
               obtain ⟨pb, po, he, hlt3, hce3⟩ := hb3.cells ha1
               subst he
               have HB3 := Lib.hid hb3
               have HP3 := Lib.hid (HN3.out pb (hp3 _ rfl))
               clear hb3 hp3 hce3 hlt3)
            | (go_at_call 57
               refine (HW3.out _ _ _ _ ?_ ?_ HP3.out).mono ?_
               refine Cb.any HC3.out ?_
               exact ⟨rfl, rfl, rfl, rfl⟩
               refine Bs.same HB3.out ?_
               rfl
               rintro e w4 ⟨rfl, hc4⟩))
          all_goals
            go_wp2_with fail
            go_meet
            exact hc4
        have HC4 := Lib.hid hcut
        clear hcut
        go_wp2_with fail
        go_roundw
        case rel =>
          refine ⟨i + k2 + 1, i + k2 + 1, L ++ a, o2, Nat.le_refl _, by omega, by go_num, by go_num, HC4.out, HE4.out, ?_⟩
          rw [show (l.take (i + k2 + 1)).drop (i + k2 + 1) = [] from List.drop_eq_nil_of_le (by rw [List.length_take]; omega), List.nil_append, HL.out, List.append_assoc, List.append_assoc, ← HE1.out]
          exact HSo.out
        case measure => simp [intOf]; omega
    · obtain rfl : i = n := by omega
      have ho := HPa.out.inv_end HLn.out.symm
      subst ho
      by_cases hk : k < i
      · have HW := Lib.hid (fun W (hW : Cb F B va b w W l') => hW.write (c := c - k) ((hW.text HT.out HNb.out).part k i hk (by omega)) h1 (by omega) (by have := congrArg List.length HSo.out; rw [List.length_append] at this; have := Hol.out; omega))
        have hck : ¬ c = k := by omega
        go_upto_region 16 with fail
        go_region_with (
          go_at_call 57
          refine (HW.out _ ?_).mono ?_
          refine Cb.any HCb.out ?_
          exact ⟨rfl, rfl, rfl, rfl⟩
          rintro e w2 ⟨rfl, hc⟩)
        all_goals
          go_wp2_with fail
          refine bodyPost_end0 rfl rfl ⟨rfl, ?_⟩
          rw [← HSo.out, List.append_nil]
          exact hc
      · obtain rfl : k = i := by omega
        go_wp2_with fail
        refine bodyPost_end0 rfl rfl ⟨rfl, ?_⟩
        have hs := HSo.out
        rw [show (l.take k).drop k = [] from List.drop_eq_nil_of_le (by rw [List.length_take]; omega), List.append_nil, List.append_nil] at hs
        rw [← hs]
        exact HCb.out

end Go.Proofs.YtnkjnlmghnomiaaDoor
