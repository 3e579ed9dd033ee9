/- Smart punctuation: spec.PantLine walked: its loop. Condition: lengths are bounded. -/
import Derived.Test.YtnkjnlmghnomiaaDoorPanW
namespace Go.Proofs.YtnkjnlmghnomiaaDoor
open Go.ChangeShapes Go.WideShapes Go.ChangeAt Go.RowKit

theorem ret2 {a b : ByteArray} (h : a = b) : Value.string a = Value.string b := by rw [h]
/-- a piece that was copied -/
structure TC (T : Nat) (s : PI) (w : World) : Prop where
  lt : T < w.heap.size
  c0 : w.cell? ⟨T, 0, none⟩ = some (.int .i64 s.k)
  c1 : w.cell? ⟨T, 1, none⟩ = some (.int .i64 s.v)
  c2 : w.cell? ⟨T, 2, none⟩ = some (.string s.a)
  c3 : w.cell? ⟨T, 3, none⟩ = some (.string s.b)
  c4 : w.cell? ⟨T, 4, none⟩ = some (.int .i64 s.n)
  c5 : w.cell? ⟨T, 5, none⟩ = some (.int .i64 s.m)
theorem TC.new (w : World) (s : PI) : TC w.heap.size s (w.alloc (.cells #[.int .i64 s.k, .int .i64 s.v, .string s.a, .string s.b, .int .i64 s.n, .int .i64 s.m] 40)) :=
  ⟨by simp, by simp, by simp, by simp, by simp, by simp, by simp⟩
theorem TC.below {T : Nat} {s : PI} {w w' : World} (h : TC T s w) (hb : Below w.heap.size w w') : TC T s w' :=
  ⟨Nat.lt_of_lt_of_le h.lt hb.size, (hb.cell (p := ⟨T, 0, none⟩) h.lt).trans h.c0, (hb.cell (p := ⟨T, 1, none⟩) h.lt).trans h.c1, (hb.cell (p := ⟨T, 2, none⟩) h.lt).trans h.c2, (hb.cell (p := ⟨T, 3, none⟩) h.lt).trans h.c3, (hb.cell (p := ⟨T, 4, none⟩) h.lt).trans h.c4, (hb.cell (p := ⟨T, 5, none⟩) h.lt).trans h.c5⟩

set_option maxHeartbeats 8000000 in
set_option maxRecDepth 100000 in
theorem pantLine_any (F : Cfg) (flags : Int) (p : Option Addr) (n c : Nat) (S : Nat → PI) (w : World) (hS : Pcs w p n S) (hz : ∀ i, i < n → (S i).a.size ≤ 2147483647 ∧ (S i).b.size ≤ 2147483647) (hn : n ≤ 40) (f0 : 0 ≤ flags) (f1 : flags ≤ 1000000) (hF : F = cfgOf flags) :
    Calls Tryd.prog 8 #[.slice p n c, .int .i64 flags] w (LineSaid F n w) := by
  have HS := Lib.hid hS
  have HZ := Lib.hid hz
  have HMn := Lib.hid (fun (s : PI) w1 (hk : OkP s.pc) => meant_any F flags s.pc w1 hk f0 f1 hF)
  clear hS hz hF f0 f1
  go_enter Tryd.func8, Tryd.ntmps8
  go_wp2_with fail
  go_loopw [7, 8, 13] (fun x y t wr => ∃ (i : Nat) (ps : List Pc), i ≤ n ∧ t = .int .i64 i ∧ ps.length = i ∧ OkL false ps ∧ (endD false ps = true → 0 < i ∧ (S (i - 1)).k = 10) ∧ x = .string (str (accL wrL ps)) ∧ y = .string (str (accL (mnL F) ps)) ∧ Below w.heap.size w wr) (fun _ _ t _ => n - (intOf t).toNat)
  case atStart => exact ⟨0, [], Nat.zero_le _, rfl, rfl, OkL.nil, (fun e => by cases e), rfl, rfl, Below.refl _ _⟩
  case round =>
    obtain ⟨i, ps, hi, rfl, hpl, hok, hend, rfl, rfl, hB⟩ := hrel
    have z7 : (str (accL wrL ps)).size ≤ 6040 := by
      rw [str_size]
      have := accL_len (f := wrL) (ps := ps) fun p hp => Nat.le_trans (wrL_len (hok.mem p hp)) (by omega)
      omega
    have z8 : (str (accL (mnL F) ps)).size ≤ 6040 := by
      rw [str_size]
      have := accL_len (f := mnL F) (ps := ps) fun p hp => mnL_len (hok.mem p hp)
      omega
    have HPl := Lib.hid hpl
    have HOk := Lib.hid hok
    have HEnd := Lib.hid hend
    have HB := Lib.hid hB
    clear hpl hok hend hB
    by_cases hlt : i < n
    · obtain ⟨b, o, rfl, hb, hc⟩ := HS.out.cells (by omega)
      have hsz := HB.out.size
      obtain ⟨c0, c1, c2, c3, c4, c5⟩ := hc i hlt
      have d0 := (HB.out.cell (p := ⟨b, o + i * 6, none⟩) hb).trans c0
      have d1 := (HB.out.cell (p := ⟨b, o + i * 6 + 1, none⟩) hb).trans c1
      have d2 := (HB.out.cell (p := ⟨b, o + i * 6 + 2, none⟩) hb).trans c2
      have d3 := (HB.out.cell (p := ⟨b, o + i * 6 + 3, none⟩) hb).trans c3
      have d4 := (HB.out.cell (p := ⟨b, o + i * 6 + 4, none⟩) hb).trans c4
      have d5 := (HB.out.cell (p := ⟨b, o + i * 6 + 5, none⟩) hb).trans c5
      have HPv := Lib.hid (fun (w2 : World) (h2 : Below wr.heap.size wr w2) (h0 : 0 < i) => show w2.cell? ⟨b, o + (i - 1) * 6, none⟩ = some (.int .i64 (S (i - 1)).k) from
        ((h2.cell (p := ⟨b, o + (i - 1) * 6, none⟩) (show b < wr.heap.size by omega)).trans (HB.out.cell (p := ⟨b, o + (i - 1) * 6, none⟩) hb)).trans (hc (i - 1) (by omega)).1)
      obtain ⟨s, hs⟩ : ∃ s, s = S i := ⟨_, rfl⟩
      obtain ⟨za, zb⟩ := HZ.out i hlt
      rw [← hs] at d0 d1 d2 d3 d4 d5 za zb
      have HIs := Lib.hid (fun w1 => isPant_any s.k s.v s.n s.m s.a s.b w1 za zb)
      have HT := Lib.hid (TC.new wr s)
      have HNb := Lib.hid (show ∀ o : Obj, Below wr.heap.size wr (wr.alloc o) from fun o => (Below.refl _ _).alloc (Nat.le_refl _) o)
      have HSi := Lib.hid hs
      clear c0 c1 c2 c3 c4 c5 hc za zb hs hb hsz
      go_wp2_with fail
      refine (HIs.out _).mono ?_
      rintro e w1 ⟨r, rfl, hb1, hk1⟩
      have HB1 := Lib.hid ((HNb.out _).trans (hb1.mono (by simp)))
      have ht1 := HT.out.below hb1
      have e0 := ht1.c0
      have HT1 := Lib.hid ht1
      have HK1 := Lib.hid hk1
      clear hb1 ht1 hk1
      cases r with
      | false =>
        clear hlt
        go_wp2_with fail
        refine bodyPost_ret (v := .tuple _) (by simp [results, Tryd.results8, go_sem]; rfl) rfl ?_
        exact ⟨_, _, false, rfl, HB.out.trans (HB1.out.mono HB.out.size), fun h => by cases h⟩
      | true =>
        obtain ⟨k0, v0, hok0⟩ := HK1.out rfl
        have hok : OkP s.pc := hok0
        clear hok0
        have hkind : s.pc.kind = s.k.toNat := rfl
        have HNx := Lib.hid (fun (h : s.k = 9 → 0 < i → (S (i - 1)).k ≠ 10) => HOk.out.snoc hok fun he e9 => by
          obtain ⟨h1, h2⟩ := HEnd.out he
          exact h (by have e9' : s.k.toNat = 9 := e9; omega) h1 h2)
        have HNe := Lib.hid (show endD false (ps ++ [s.pc]) = true → 0 < i + 1 ∧ (S (i + 1 - 1)).k = 10 from fun he => by
          rw [endD_snoc, hkind] at he
          rw [Nat.add_sub_cancel, ← HSi.out]
          refine ⟨by omega, ?_⟩
          have : s.k.toNat = 10 := by simpa using he
          omega)
        have HWr := Lib.hid (fun w1 => (pcVal_eq hok k0 v0) ▸ written_any s.pc w1 hok)
        have HMe := Lib.hid (fun w1 => (pcVal_eq hok k0 v0) ▸ HMn.out s w1 hok)
        have zw : (str (wrL s.pc)).size ≤ 100 := by rw [str_size]; exact wrL_len hok
        have zm : (str (mnL F s.pc)).size ≤ 150 := by rw [str_size]; exact mnL_len hok
        have e1 := HT1.out.c1
        have e2 := HT1.out.c2
        have e3 := HT1.out.c3
        have e4 := HT1.out.c4
        have e5 := HT1.out.c5
        clear hok k0 v0 hkind
        by_cases k9 : s.k = 9
        · have k9b : (s.k == 9) = true := by simpa using k9
          by_cases i0 : 0 < i
          · have pv := HPv.out w1 HB1.out i0
            by_cases p10 : (S (i - 1)).k = 10
            · have p10b : ((S (i - 1)).k == 10) = true := by simpa using p10
              clear k9 p10
              go_wp2_with fail
              refine bodyPost_ret (v := .tuple _) (by simp [results, Tryd.results8, go_sem]; rfl) rfl ?_
              exact ⟨_, _, false, rfl, HB.out.trans (HB1.out.mono HB.out.size), fun h => by cases h⟩
            · have p10b : ((S (i - 1)).k == 10) = false := by simpa using p10
              have HCd := Lib.hid (show s.k = 9 → 0 < i → (S (i - 1)).k ≠ 10 from fun _ _ => p10)
              clear k9 p10
              go_wp2_with fail
              refine (HWr.out _).mono ?_
              rintro e w2 ⟨rfl, hb2⟩
              have ht2 := HT1.out.below hb2
              have e0 := ht2.c0
              have e1 := ht2.c1
              have e2 := ht2.c2
              have e3 := ht2.c3
              have e4 := ht2.c4
              have e5 := ht2.c5
              have HB2 := Lib.hid (HB1.out.trans (hb2.mono HB1.out.size))
              clear ht2 hb2
              go_wp2_with fail
              refine (HMe.out _).mono ?_
              rintro e w3 ⟨rfl, hb3⟩
              have HB3 := Lib.hid (HB2.out.trans (hb3.mono HB2.out.size))
              clear e0 e1 e2 e3 e4 e5 hb3
              go_wp2_with fail
              go_roundw
              case rel => exact ⟨i + 1, ps ++ [s.pc], by omega, by go_num, by rw [List.length_append, HPl.out]; rfl, HNx.out HCd.out, HNe.out, ret2 (by rw [accL_snoc, ← str_app, ← str_app]; rfl), ret2 (by rw [accL_snoc, ← str_app, ← str_app]; rfl), HB.out.trans (HB3.out.mono HB.out.size)⟩
              case measure => simp [intOf]; omega
          · have HCd := Lib.hid (show s.k = 9 → 0 < i → (S (i - 1)).k ≠ 10 from fun _ h => absurd h i0)
            clear k9
            go_wp2_with fail
            refine (HWr.out _).mono ?_
            rintro e w2 ⟨rfl, hb2⟩
            have ht2 := HT1.out.below hb2
            have e0 := ht2.c0
            have e1 := ht2.c1
            have e2 := ht2.c2
            have e3 := ht2.c3
            have e4 := ht2.c4
            have e5 := ht2.c5
            have HB2 := Lib.hid (HB1.out.trans (hb2.mono HB1.out.size))
            clear ht2 hb2
            go_wp2_with fail
            refine (HMe.out _).mono ?_
            rintro e w3 ⟨rfl, hb3⟩
            have HB3 := Lib.hid (HB2.out.trans (hb3.mono HB2.out.size))
            clear e0 e1 e2 e3 e4 e5 hb3
            go_wp2_with fail
            go_roundw
            case rel => exact ⟨i + 1, ps ++ [s.pc], by omega, by go_num, by rw [List.length_append, HPl.out]; rfl, HNx.out HCd.out, HNe.out, ret2 (by rw [accL_snoc, ← str_app, ← str_app]; rfl), ret2 (by rw [accL_snoc, ← str_app, ← str_app]; rfl), HB.out.trans (HB3.out.mono HB.out.size)⟩
            case measure => simp [intOf]; omega
        · have k9b : (s.k == 9) = false := by simpa using k9
          have HCd := Lib.hid (show s.k = 9 → 0 < i → (S (i - 1)).k ≠ 10 from fun h => absurd h k9)
          clear k9
          go_wp2_with fail
          refine (HWr.out _).mono ?_
          rintro e w2 ⟨rfl, hb2⟩
          have ht2 := HT1.out.below hb2
          have e0 := ht2.c0
          have e1 := ht2.c1
          have e2 := ht2.c2
          have e3 := ht2.c3
          have e4 := ht2.c4
          have e5 := ht2.c5
          have HB2 := Lib.hid (HB1.out.trans (hb2.mono HB1.out.size))
          clear ht2 hb2
          go_wp2_with fail
          refine (HMe.out _).mono ?_
          rintro e w3 ⟨rfl, hb3⟩
          have HB3 := Lib.hid (HB2.out.trans (hb3.mono HB2.out.size))
          clear e0 e1 e2 e3 e4 e5 hb3
          go_wp2_with fail
          go_roundw
          case rel => exact ⟨i + 1, ps ++ [s.pc], by omega, by go_num, by rw [List.length_append, HPl.out]; rfl, HNx.out HCd.out, HNe.out, ret2 (by rw [accL_snoc, ← str_app, ← str_app]; rfl), ret2 (by rw [accL_snoc, ← str_app, ← str_app]; rfl), HB.out.trans (HB3.out.mono HB.out.size)⟩
          case measure => simp [intOf]; omega
    · obtain rfl : i = n := by omega
      clear hlt
      go_wp2_with fail
      refine bodyPost_ret (v := .tuple _) (by simp [results, Tryd.results8, go_sem]; rfl) rfl ?_
      refine ⟨_, _, true, rfl, HB.out, fun _ => ⟨ps, HOk.out, HPl.out, ?_, ?_⟩⟩
      · show str (accL wrL ps) ++ str [122, 122] = _
        rw [str_app, accL_line]
      · show str (accL (mnL F) ps) ++ str [122, 122] = _
        rw [str_app, accL_mean]

end Go.Proofs.YtnkjnlmghnomiaaDoor
