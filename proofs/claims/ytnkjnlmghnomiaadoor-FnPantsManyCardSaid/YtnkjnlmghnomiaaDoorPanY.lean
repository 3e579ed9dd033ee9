/- Smart punctuation: laws.zzFits24, laws.isPantFlags, laws.FnPants walked: the law returns true. Condition: the pieces lie in memory as they are read. -/
import Derived.Test.YtnkjnlmghnomiaaDoorPanX
import Derived.Test.YtnkjnlmghnomiaaDoorPanP
import Derived.Lib.ConvBytes
import Derived.Lib.AtoiErrMem
namespace Go.Proofs.YtnkjnlmghnomiaaDoor
open Go.ChangeShapes Go.WideShapes Go.ChangeAt Go.RowKit

/-- the texts of a piece are not longer than can be -/
def fitB (s : PI) : Bool := decide (s.a.size ≤ 2147483647) && decide (s.b.size ≤ 2147483647)
set_option maxHeartbeats 2000000 in
theorem zzFits25_any (s : PI) (w : World) :
    Calls Tryd.prog 15 #[pcV s.k s.v s.n s.m s.a s.b] w fun e w' => e = .returned (.bool (fitB s)) ∧ Below w.heap.size w w' := by
  unfold pcV
  have HB := Lib.hid (show ∀ o : Obj, Below w.heap.size w (w.alloc o) from fun o => (Below.refl _ _).alloc (Nat.le_refl _) o)
  by_cases h1 : s.a.size ≤ 2147483647
  · by_cases h2 : s.b.size ≤ 2147483647
    · have HF := Lib.hid (show fitB s = true by unfold fitB; rw [decide_eq_true h1, decide_eq_true h2]; rfl)
      go_enter Tryd.func15, Tryd.ntmps15
      go_wp2_with fail
      go_ret
      exact ⟨ret_bool HF.out.symm, HB.out _⟩
    · have HF := Lib.hid (show fitB s = false by unfold fitB; rw [decide_eq_false h2, Bool.and_false])
      go_enter Tryd.func15, Tryd.ntmps15
      go_wp2_with fail
      go_ret
      exact ⟨ret_bool HF.out.symm, HB.out _⟩
  · have HF := Lib.hid (show fitB s = false by unfold fitB; rw [decide_eq_false h1, Bool.false_and])
    go_enter Tryd.func15, Tryd.ntmps15
    go_wp2_with fail
    go_ret
    exact ⟨ret_bool HF.out.symm, HB.out _⟩

set_option maxHeartbeats 4000000 in
set_option maxRecDepth 100000 in
theorem zzFits24_any (p : Option Addr) (n c : Nat) (S : Nat → PI) (w : World) (hS : Pcs w p n S) (hn : n ≤ 9223372036854775807) :
    Calls Tryd.prog 6 #[.slice p n c] w fun e w' => ∃ r, e = .returned (.bool r) ∧ Below w.heap.size w w' ∧ (r = true → n ≤ 2147483647 ∧ ∀ i, i < n → (S i).a.size ≤ 2147483647 ∧ (S i).b.size ≤ 2147483647) := by
  have HS := Lib.hid hS
  clear hS
  by_cases hbig : 2147483647 < n
  · go_enter Tryd.func6, Tryd.ntmps6
    go_wp2_with fail
    go_ret
    exact ⟨false, rfl, Below.refl _ _, fun h => by cases h⟩
  go_enter Tryd.func6, Tryd.ntmps6
  go_wp2_with fail
  go_loopw [10] (fun t wr => ∃ i : Nat, i ≤ n ∧ t = .int .i64 i ∧ Below w.heap.size w wr ∧ ∀ j, j < i → (S j).a.size ≤ 2147483647 ∧ (S j).b.size ≤ 2147483647) (fun t _ => n - (intOf t).toNat)
  case atStart => exact ⟨0, Nat.zero_le _, rfl, Below.refl _ _, fun j hj => absurd hj (Nat.not_lt_zero j)⟩
  case round =>
    obtain ⟨i, hi, rfl, hB, hall⟩ := hrel
    have HB := Lib.hid hB
    have HAll := Lib.hid hall
    clear hB hall
    by_cases hlt : i < n
    · obtain ⟨b, o, rfl, hb, hc⟩ := HS.out.cells (by omega)
      have hsz := HB.out.size
      obtain ⟨c0, c1, c2, c3, c4, c5⟩ := hc i hlt
      have d0 := (HB.out.cell (p := ⟨b, o + i * 6, none⟩) hb).trans c0
      have d1 := (HB.out.cell (p := ⟨b, o + i * 6 + 1, none⟩) hb).trans c1
      have d2 := (HB.out.cell (p := ⟨b, o + i * 6 + 2, none⟩) hb).trans c2
      have d3 := (HB.out.cell (p := ⟨b, o + i * 6 + 3, none⟩) hb).trans c3
      have d4 := (HB.out.cell (p := ⟨b, o + i * 6 + 4, none⟩) hb).trans c4
      have d5 := (HB.out.cell (p := ⟨b, o + i * 6 + 5, none⟩) hb).trans c5
      obtain ⟨s, hs⟩ : ∃ s, s = S i := ⟨_, rfl⟩
      rw [← hs] at d0 d1 d2 d3 d4 d5
      have HSi := Lib.hid hs
      have HZ := Lib.hid (fun w1 => zzFits25_any s w1)
      have HNb := Lib.hid (show ∀ (o : Obj) (w2 : World), Below (wr.alloc o).heap.size (wr.alloc o) w2 → Below wr.heap.size wr w2 from fun o w2 h => ((Below.refl _ _).alloc (Nat.le_refl _) o).trans (h.mono (by simp)))
      obtain ⟨fb, hfb⟩ : ∃ fb, fb = fitB s := ⟨_, rfl⟩
      rw [← hfb] at HZ
      have HFb := Lib.hid hfb
      clear c0 c1 c2 c3 c4 c5 hc hs hb hsz hfb
      cases fb with
      | false =>
        go_wp2_with fail
        refine (HZ.out _).mono ?_
        rintro e w1 ⟨rfl, hb1⟩
        have HB1 := Lib.hid (HNb.out _ _ hb1)
        clear hb1 d0 d1 d2 d3 d4 d5
        go_wp2_with fail
        go_ret
        exact ⟨false, rfl, HB.out.trans (HB1.out.mono HB.out.size), fun h => by cases h⟩
      | true =>
        go_wp2_with fail
        refine (HZ.out _).mono ?_
        rintro e w1 ⟨rfl, hb1⟩
        have HB1 := Lib.hid (HNb.out _ _ hb1)
        clear hb1 d0 d1 d2 d3 d4 d5
        go_wp2_with fail
        go_roundw
        case rel =>
          refine ⟨i + 1, by omega, by go_num, HB.out.trans (HB1.out.mono HB.out.size), fun j hj => ?_⟩
          by_cases e : j = i
          · rw [e, ← HSi.out]
            have h := HFb.out.symm
            unfold fitB at h
            rw [Bool.and_eq_true, decide_eq_true_eq, decide_eq_true_eq] at h
            exact h
          · exact HAll.out j (by omega)
        case measure => simp [intOf]; omega
    · obtain rfl : i = n := by omega
      clear hlt
      go_wp2_with fail
      go_ret
      exact ⟨true, rfl, HB.out, fun _ => ⟨by omega, HAll.out⟩⟩

/-- are these flags of the package -/
def pantF (flags : Int) : Bool := decide (0 ≤ flags) && decide (flags < 524288)
theorem isPantFlags_any (flags : Int) (w : World) :
    Calls Tryd.prog 7 #[.int .i64 flags] w fun e w' => e = .returned (.bool (pantF flags)) ∧ w = w' := by
  by_cases h0 : 0 ≤ flags
  · have HV := Lib.hid (show pantF flags = decide (flags < 524288) by unfold pantF; rw [decide_eq_true h0]; rfl)
    go_enter Tryd.func7, Tryd.ntmps7
    go_wp2_with fail
    go_ret
    exact ⟨ret_bool (by rw [HV.out]), rfl⟩
  · have HV := Lib.hid (show pantF flags = false by unfold pantF; rw [decide_eq_false h0]; rfl)
    go_enter Tryd.func7, Tryd.ntmps7
    go_wp2_with fail
    go_ret
    exact ⟨ret_bool (by rw [HV.out]), rfl⟩

theorem made_bs (W : World) (s : ByteArray) (l : List UInt8) (hl : s.data.toList = l) : Bs (Lib.bytesWorld W 5 s) (some ⟨W.heap.size, 0, none⟩) s.size l := by
  refine ⟨by rw [← hl, Lib.size_eq], fun _ => ⟨W.heap.size, 0, rfl, by rw [Lib.bytesWorld_size]; omega, fun i hi => ?_⟩⟩
  rw [Nat.zero_add, Lib.bytesWorld_cell W 5 s i hi, hl]
  rfl

/-- a text of pieces in memory: impl.Pants of it -/
theorem pants_line (F : Cfg) (flags : Int) (hF : F = cfgOf flags) (ps : List Pc) (h : OkL false ps) (hn : ps.length ≤ 40) (W : World) (c : Nat) :
    Calls Tryd.prog 9 #[.int .i64 flags, .slice (some ⟨W.heap.size, 0, none⟩) (str (lineL ps)).size c] (Lib.bytesWorld W 5 (str (lineL ps))) fun e w' => ∃ v', e = .returned v' ∧ Owns w' W.heap.size v' (meanL F ps) ∧ Below W.heap.size W w' := by
  have h1 := lineL_len ps
  have h2 := lineL_le h
  have hs := Lib.bytesWorld_size W 5 (str (lineL ps))
  refine (pants_any flags _ _ c (lineL ps) (meanL F ps) _ (made_bs W (str (lineL ps)) (lineL ps) rfl) (by rw [str_size]; omega) (by rw [str_size]; omega) (by rw [← hF]; exact line_pant h)).mono ?_
  rintro e w' ⟨v', rfl, ho, hb⟩
  exact ⟨v', rfl, ho.down (by omega), (Lib.bytesWorld_below W 5 (str (lineL ps))).trans (hb.mono (by omega))⟩

set_option maxHeartbeats 4000000 in
set_option maxRecDepth 100000 in
theorem fnPants_any (flags : Int) (p : Option Addr) (n c : Nat) (S : Nat → PI) (w : World) (hS : Pcs w p n S) (hn : n ≤ 9223372036854775807) :
    Calls Tryd.prog 3 #[.int .i64 flags, .slice p n c] w fun e w' => e = .returned (.bool true) ∧ Below w.heap.size w w' := by
  have HS := Lib.hid hS
  have HZ := Lib.hid (zzFits24_any p n c S w hS hn)
  have HFl := Lib.hid (fun w => isPantFlags_any flags w)
  clear hS
  go_enter Tryd.func3, Tryd.ntmps3
  go_wp2_with fail
  refine HZ.out.mono ?_
  rintro e w1 ⟨r1, rfl, hb1, hr1⟩
  have HB1 := Lib.hid hb1
  have HR1 := Lib.hid hr1
  clear hb1 hr1 HZ
  cases r1 with
  | false =>
    go_wp2_with fail
    go_ret
    exact ⟨rfl, HB1.out⟩
  | true =>
    have HZ := Lib.hid (HR1.out rfl).2
    obtain ⟨fl, hfl⟩ : ∃ fl, fl = pantF flags := ⟨_, rfl⟩
    rw [← hfl] at HFl
    have HFf := Lib.hid hfl
    clear hfl HR1
    cases fl with
    | false =>
      go_wp2_with fail
      refine (HFl.out _).mono ?_
      rintro e w2 ⟨rfl, rfl⟩
      go_wp2_with fail
      go_ret
      exact ⟨rfl, HB1.out⟩
    | true =>
      by_cases h40 : 40 < n
      · go_wp2_with fail
        refine (HFl.out _).mono ?_
        rintro e w2 ⟨rfl, rfl⟩
        go_wp2_with fail
        go_ret
        exact ⟨rfl, HB1.out⟩
      · have hfl := HFf.out.symm
        unfold pantF at hfl
        rw [Bool.and_eq_true, decide_eq_true_eq, decide_eq_true_eq] at hfl
        obtain ⟨f0, f1⟩ := hfl
        have HL := Lib.hid (pantLine_any (cfgOf flags) flags p n c S w1 (HS.out.below HB1.out (Nat.le_refl _)) HZ.out (by omega) f0 (by omega) rfl)
        clear f0 f1
        go_wp2_with fail
        refine (HFl.out _).mono ?_
        rintro e w2 ⟨rfl, rfl⟩
        go_wp2_with fail
        refine HL.out.mono ?_
        rintro e w2 ⟨s1, s2, r, rfl, hb2, hr2⟩
        have HB2 := Lib.hid (HB1.out.trans (hb2.mono HB1.out.size))
        have HR2 := Lib.hid hr2
        clear hb2 hr2 HL
        cases r with
        | false =>
          go_wp2_with fail
          go_ret
          exact ⟨rfl, HB2.out⟩
        | true =>
          obtain ⟨ps, hok, hpl, rfl, rfl⟩ := HR2.out rfl
          have HP := Lib.hid (pants_line (cfgOf flags) flags rfl ps hok (by omega) w2)
          have kc := fun (w : World) (s : ByteArray) => Lib.run_convert_string_bytes (P := Tryd.prog) w 9 27 5 s Tryd.underlying9 Tryd.underlying27 Tryd.underlying5
          clear hok HR2
          go_wp2_with fail
          refine (HP.out _).mono ?_
          rintro e w3 ⟨v', rfl, ho, hb3⟩
          obtain ⟨p3, c3, rfl, _, _, hbs⟩ := ho.bs
          have hcv := hbs.convert c3
          have HB3 := Lib.hid (HB2.out.trans (hb3.mono HB2.out.size))
          clear hb3 ho hbs HP kc
          go_wp2_with fail
          go_ret
          exact ⟨ret_bool (by simp), HB3.out⟩

end Go.Proofs.YtnkjnlmghnomiaaDoor
