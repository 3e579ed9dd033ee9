/- Ids: the law FnUniqueApart walked: it returns true. Condition: the argument reads as a row of strings. -/
import Derived.Test.YtnkjnlmghnomiaaDoorUniD
import Derived.Deep.RegionHeld
import Derived.Laws.AppendOwnNone
import Derived.Lib.ConvBytes
import Derived.Lib.AtoiErrMem
namespace Go.Proofs.YtnkjnlmghnomiaaDoor
open Go.ChangeShapes Go.WideShapes Go.ChangeAt Go.RowKit Go.Maps Go.WideMaps

theorem ubegins_any (b o n c : Nat) (l : List UInt8) (s : ByteArray) (w : World) (h1 : Bs w (some ⟨b, o, none⟩) n l) (hc : n ≤ c) (hcm : c ≤ maxLen) :
    Calls Tryd.prog 14 #[.slice (some ⟨b, o, none⟩) n c, .string s] w fun e w' => e = .returned (.bool (begins l s.toList)) ∧ w = w' := by
  unfold maxLen at hcm
  have hsl : s.toList.length = s.size := by rw [Lib.toList_data]; rfl
  have HS := Lib.hid hsl
  have HL := Lib.hid h1.len
  clear hsl
  by_cases hle : s.size ≤ n
  · have h3 := (h1.take s.size hle).convert c
    go_enter Tryd.func14, Tryd.ntmps14
    go_wp2_with fail
    go_ret
    refine ⟨ret_bool ?_, rfl⟩
    rw [str_toList, begins_of_le (by rw [HL.out, HS.out]; exact hle), HS.out]
  · go_enter Tryd.func14, Tryd.ntmps14
    go_wp2_with fail
    go_ret
    refine ⟨ret_bool ?_, rfl⟩
    rw [begins_short (by rw [HL.out, HS.out]; omega)]

theorem toList_inj {s t : ByteArray} (h : s.toList = t.toList) : s = t := by
  rw [Lib.toList_data, Lib.toList_data] at h
  exact ByteArray.ext (Array.toList_inj.1 h)
theorem begins_pre (s t : ByteArray) : begins s.data.toList t.toList = true ↔ Pre t s := by
  unfold begins Pre
  rw [Lib.toList_data]
  simp only [Bool.and_eq_true, beq_iff_eq, decide_eq_true_eq]
  constructor
  · rintro ⟨h, _⟩
    rw [← h]
    exact List.take_prefix _ _
  · intro h
    exact ⟨(List.prefix_iff_eq_take.1 h).symm, h.length_le⟩

def FitsSaid (w : World) (e : Ending) (w' : World) : Prop := (∃ b, e = .returned (.bool b)) ∧ w = w'
theorem zzFits5_any (p : Option Addr) (n c : Nat) (S : Nat → ByteArray) (w : World) (h : Strs w p n S) :
    Calls Tryd.prog 12 #[.slice p n c] w (FitsSaid w) := by
  have HS := Lib.hid h
  clear h
  by_cases hbig : 2147483647 < n
  · go_enter Tryd.func12, Tryd.ntmps12
    go_wp2_with fail
    go_ret
    exact ⟨⟨_, rfl⟩, rfl⟩
  · go_enter Tryd.func12, Tryd.ntmps12
    go_wp2_with fail
    go_loop [10] (fun t => ∃ k : Nat, k ≤ n ∧ t = .int .i64 k) (fun t => n - (intOf t).toNat)
    case atStart => exact ⟨0, Nat.zero_le _, rfl⟩
    case round =>
      obtain ⟨k, hk, rfl⟩ := hrel
      by_cases hlt : k < n
      · obtain ⟨b, o, hp, hbl, hcl⟩ := HS.out.cells (by omega)
        subst hp
        have hck := hcl k hlt
        clear hcl
        by_cases hs : 2147483647 < (S k).size
        · go_wp2_with fail
          go_ret
          exact ⟨⟨_, rfl⟩, rfl⟩
        · go_wp2_with fail
          go_round
          case rel => exact ⟨k + 1, by omega, by go_num⟩
          case measure => simp [intOf]; omega
      · obtain rfl : k = n := by omega
        go_wp2_with fail
        go_ret
        exact ⟨⟨_, rfl⟩, rfl⟩

/-- what was got -/
structure Got (S got : Nat → ByteArray) (n : Nat) : Prop where
  pre : ∀ i, i < n → Pre (S i) (got i)
  diff : ∀ i k, i < n → k < n → got i = got k → i = k
  alone : ∀ i, i < n → (∀ k, k < n → k ≠ i → ¬ Pre (S k) (S i)) → got i = S i
  small : ∀ i, i < n → (got i).size ≤ 240
  ids : ∀ i, i < n → (S i).size ≤ 40

theorem str2 (w : World) (S : Nat → ByteArray) (hS : ∀ i, S i = ⟨#[97]⟩) : Strs (w.alloc (.cells #[.string ⟨#[97]⟩, .string ⟨#[97]⟩] 9)) (some ⟨w.heap.size, 0, none⟩) 2 S := by
  refine ⟨fun _ => ⟨_, 0, rfl, by simp, fun i hi => ?_⟩⟩
  rw [hS]
  have : i = 0 ∨ i = 1 := by omega
  rcases this with rfl | rfl <;> simp

theorem app_ids {ops : Array Oper} {rest : List Oper} {o : Oper} {a : Go.Act} {Q : Exit → Go.Act → World → Prop} (hgd : o.guard = none) (s x : Operand)
    (ho : o.op = .call { callee := .builtin .append, args := #[s, x], argTypes := #[33, 33] }) {W : World} (S : Nat → ByteArray) (p : Option Addr) (n c : Nat) (hs : a.eval s = .slice (some ⟨W.heap.size, 0, none⟩) 0 0)
    (hx : a.eval x = .slice p n c) (hS : Strs W p n S) (hp0 : p = none → n = 0 ∧ c = 0) (hn : n ≤ 40)
    (h : ∀ p' c' w', Strs w' p' n S → Below W.heap.size W w' → wpList Tryd.prog ops Q rest (a.put o.dst (.slice p' n c')) w') :
    wpList Tryd.prog ops Q (o :: rest) a (W.alloc (.cells #[] 9)) := by
  obtain ⟨i0, hi, hz0, hz1, hz2⟩ := info_parts Tryd.info9S
  have hown : (W.alloc (.cells #[] 9)).ownsRow W.heap.size 9 1 (.slice (some ⟨W.heap.size, 0, none⟩) 0 0) 0 [] := World.ownsRow_made W #[] 0 (Nat.le_refl _) (Nat.zero_le _) rfl
  cases p with
  | none =>
    obtain ⟨rfl, rfl⟩ := hp0 rfl
    exact wpList_append_own_none hgd s x 33 ho W.heap.size 9 i0 1 Tryd.underlying33 hi _ 0 [] hs hown hx (h _ _ _ ⟨fun h => absurd h (Nat.lt_irrefl _)⟩ ((Below.refl _ W).alloc (Nat.le_refl _) _))
  | some ad =>
    refine wpList_append_own _ hgd s x 33 ho W.heap.size 9 i0 (.string ⟨#[]⟩) 1 16 Tryd.underlying33 hi hz0 hz1 hz2 rfl (by decide) _ 0 [] hs hown ad n c (strs S n) hx (by rw [strs_len, Nat.mul_one]) ?_ (strs_one _ _) (by unfold maxLen; omega) (by omega) (by simp) ?_
    · intro j u hj
      have hjn : j < n := by
        have := (List.getElem?_eq_some_iff.1 hj).1
        rwa [strs_len] at this
      obtain ⟨b, o', e, _, hc⟩ := hS.cells (by omega)
      cases e
      rw [strs_get S n j hjn] at hj
      rw [Addr.add_lit, ← hj]
      exact Lib.cell?_alloc_some _ (hc j hjn)
    · intro v' w' hown' hg _
      rw [Nat.zero_add, List.nil_append] at hown'
      obtain ⟨p', c', hv, _, _, hst⟩ := Strs.own hown'
      rw [hv]
      exact h p' c' w' hst (((Below.refl _ W).alloc (Nat.le_refl _) _).grown hg (by simp) (fun k hk => by simp [Value.ownBlock] at hk; omega))

theorem hST_below {w2 w3 : World} {o : Obj} {p : Option Addr} {n : Nat} {S : Nat → ByteArray} (h : Strs w2 p n S) (hb : Below (w2.alloc o).heap.size (w2.alloc o) w3) : Strs w3 p n S :=
  (h.below ((Below.refl w2.heap.size w2).alloc (Nat.le_refl _) o) (Nat.le_refl _)).below hb (Nat.le_refl _)
theorem hb2_mono {w w2 w3 : World} {o : Obj} (hs : w.heap.size ≤ w2.heap.size) (hb : Below (w2.alloc o).heap.size (w2.alloc o) w3) : Below w.heap.size w2 w3 :=
  ((Below.refl w.heap.size w2).alloc hs o).trans (hb.mono (by simp; omega))
theorem ubegins_at (W : World) (s t : ByteArray) (hs : s.size ≤ 1000) :
    Calls Tryd.prog 14 #[.slice (some ⟨W.heap.size, 0, none⟩) s.size (grownCap W s.size 0 5), .string t] (Lib.bytesWorld W 5 s) fun e w' => e = .returned (.bool (begins s.data.toList t.toList)) ∧ Lib.bytesWorld W 5 s = w' := by
  refine ubegins_any W.heap.size 0 s.size _ s.data.toList t _ ⟨(Lib.size_eq s).symm, fun h0 => ⟨W.heap.size, 0, rfl, by rw [Lib.bytesWorld_size]; omega, fun i hi => ?_⟩⟩ (grownCap_ge _ _ _ _) (grownCap_le_maxLen _ _ _ _ (by unfold maxLen; omega))
  rw [Nat.zero_add, Lib.bytesWorld_cell W 5 s i hi]
  rfl
/-- the law says true -/
def LawTrue (w : World) (e : Ending) (w' : World) : Prop := e = .returned (.bool true) ∧ Below w.heap.size w w'

set_option maxHeartbeats 4000000 in
set_option maxRecDepth 100000 in
theorem unique_law (p : Option Addr) (n c : Nat) (S : Nat → ByteArray) (w : World) (h : Strs w p n S) (hp0 : p = none → n = 0 ∧ c = 0) :
    Calls Tryd.prog 5 #[.slice p n c] w (LawTrue w) := by
  have HZ := Lib.hid (zzFits5_any p n c S w h)
  have HS := Lib.hid h
  have HP0 := Lib.hid hp0
  clear h hp0
  obtain ⟨i0, hi, hz0, hz1, hz2⟩ := info_parts Tryd.info9S
  go_enter Tryd.func5, Tryd.ntmps5
  go_wp2_with fail
  refine HZ.out.mono ?_
  rintro e w1 ⟨⟨b0, rfl⟩, rfl⟩
  clear HZ
  cases b0 with
  | false =>
    go_wp2_with fail
    go_ret
    exact ⟨rfl, Below.refl _ _⟩
  | true =>
  by_cases hbig : 40 < n
  · go_wp2_with fail
    go_ret
    exact ⟨rfl, Below.refl _ _⟩
  go_wp2_with fail
  go_loopw [18] (fun t wr => ∃ k : Nat, k ≤ n ∧ t = .int .i64 k ∧ wr = w ∧ ∀ i, i < k → (S i).size ≤ 40) (fun t _ => n - (intOf t).toNat)
  case atStart => exact ⟨0, Nat.zero_le _, rfl, rfl, fun i hi => absurd hi (Nat.not_lt_zero _)⟩
  case round =>
    obtain ⟨k, hk, rfl, rfl, hall⟩ := hrel
    have HAll := Lib.hid hall
    clear hall
    by_cases hlt : k < n
    · obtain ⟨b, o, hp, hbl, hcl⟩ := HS.out.cells (by omega)
      subst hp
      have hck := hcl k hlt
      clear hcl
      by_cases hs : 40 < (S k).size
      · go_wp2_with fail
        go_ret
        exact ⟨rfl, Below.refl _ _⟩
      · go_wp2_with fail
        go_roundw
        case rel => 
          refine ⟨k + 1, by omega, by go_num, trivial, fun i hi => ?_⟩
          by_cases e : i = k
          · rw [e]; omega
          · exact HAll.out i (by omega)
        case measure => simp [intOf]; omega
    · obtain rfl : k = n := by omega
      go_wp2_with (at_builtin; refine app_ids rfl _ _ rfl S p k c rfl rfl HS.out HP0.out (by omega) ?_; intro p1 c1 w1 hst hb1)
      have HU1 := Lib.hid (uniqueIDs_any p1 k c1 S w1 hst (by omega) HAll.out)
      have HB1 := Lib.hid hb1
      clear hst hb1
      go_wp2_with fail
      refine HU1.out.mono ?_
      rintro e w2 ⟨p2, c2, got, f, rfl, hc2, hcm2, hst2, hruns, hsm, hb2⟩
      have HST2 := Lib.hid hst2
      have HGot : Hid (Got S got k) := ⟨hruns.pre, hruns.diff, fun i hi ha => hruns.alone hi ha, hsm, HAll.out⟩
      have HB2 := Lib.hid (HB1.out.trans (hb2.mono HB1.out.size))
      have HU2 := Lib.hid (uniqueIDs_any (some ⟨w2.heap.size, 0, none⟩) 2 2 (fun _ => ⟨#[97]⟩) _ (str2 w2 _ (fun _ => rfl)) (by decide) (fun _ _ => by decide))
      have HC2 := Lib.hid hc2
      have HCM2 := Lib.hid hcm2
      clear hc2 hcm2 hst2 hruns hsm hb2 HU1
      go_wp2_with fail
      refine HU2.out.mono ?_
      rintro e w3 ⟨p3, c3, got3, f3, rfl, hc3, hcm3, hst3, hruns3, hsm3, hb3⟩
      have hst := hST_below HST2.out hb3
      have HST := Lib.hid hst
      have HB3 := Lib.hid (HB2.out.trans ((hb2_mono HB2.out.size hb3)))
      clear hc3 hcm3 hst3 hruns3 hsm3 hb3 HU2 hst
      have kc := fun (w : World) (s : ByteArray) => Lib.run_convert_string_bytes (P := Tryd.prog) w 9 27 5 s Tryd.underlying9 Tryd.underlying27 Tryd.underlying5
      go_wp2_with fail
      go_loopw [43] (fun t wx => ∃ i : Nat, i ≤ k ∧ t = .int .i64 i ∧ Below w3.heap.size w3 wx) (fun t _ => k - (intOf t).toNat)
      case atStart => exact ⟨0, Nat.zero_le _, rfl, Below.refl _ _⟩
      case round =>
        obtain ⟨i, hik, rfl, hbx⟩ := hrel
        have HBX := Lib.hid hbx
        clear hbx
        by_cases hlt : i < k
        · obtain ⟨b2, o2, rfl, hb2, hcl2⟩ := HST.out.cells (by omega)
          obtain ⟨b, o, rfl, hb1, hcl1⟩ := (HS.out.below HB3.out (Nat.le_refl _)).cells (by omega)
          have hci := (HBX.out.cell (p := ⟨b2, o2 + i, none⟩) hb2).trans (hcl2 i hlt)
          have HCL2 := Lib.hid hcl2
          have HCL1 := Lib.hid hcl1
          have HL2 := Lib.hid hb2
          have HL1 := Lib.hid hb1
          have hsb : ∀ s, (Lib.bytesWorld wr 5 s).cell? ⟨b, o + i, none⟩ = some (.string (S i)) := fun s =>
            (Lib.bytesWorld_old wr 5 s ⟨b, o + i, none⟩ (Nat.lt_of_lt_of_le hb1 HBX.out.size)).trans ((HBX.out.cell (p := ⟨b, o + i, none⟩) hb1).trans (hcl1 i hlt))
          have HBg := Lib.hid (ubegins_at wr (got i) (S i) (by have := HGot.out.small i hlt; omega))
          clear hcl1 hcl2 hb1 hb2
          go_wp2_with fail
          refine HBg.out.mono ?_
          rintro e w4 ⟨rfl, rfl⟩
          have HBY := Lib.hid (HBX.out.trans ((Lib.bytesWorld_below wr 5 (got i)).mono HBX.out.size))
          rw [(begins_pre (got i) (S i)).2 (HGot.out.pre i hlt)]
          clear hsb hci
          go_wp2_with fail
          go_loopw [58, 8] (fun t v wx => ∃ (j : Nat) (al : Bool), j ≤ k ∧ t = .int .i64 j ∧ v = .bool al ∧ (al = true → ∀ x, x < j → x ≠ i → ¬ Pre (S x) (S i)) ∧ Below w3.heap.size w3 wx) (fun t _ _ => k - (intOf t).toNat)
          case atStart => exact ⟨0, true, Nat.zero_le _, rfl, rfl, fun _ x hx => absurd hx (Nat.not_lt_zero _), HBY.out⟩
          case round =>
            obtain ⟨j, al, hjk, rfl, rfl, hal, hbz⟩ := hrel
            have HAl := Lib.hid hal
            have HBZ := Lib.hid hbz
            clear hal hbz
            by_cases hlt2 : j < k
            · have hsj := (HBZ.out.cell (p := ⟨b2, o2 + j, none⟩) HL2.out).trans (HCL2.out j hlt2)
              by_cases hij : j = i
              · subst hij
                cases al
                all_goals
                  go_upto_region 25 with fail
                  go_quiet (fail)
                  go_wp2_with fail
                  go_roundw
                  case rel =>
                    refine ⟨j + 1, _, by omega, by go_num, rfl, fun h x hx hne => ?_, ?_⟩
                    · first | (cases h; done) | (by_cases e : x = j; exact absurd e hne; exact HAl.out h x (by omega) hne)
                    · first | exact HBZ.out | exact Below.drewN HBZ.out _
                  case measure => simp [intOf]; omega
              · have hne : got j ≠ got i := fun e => hij (HGot.out.diff j i hlt2 hlt e)
                have hnb : ((got j).toList == (got i).toList) = false := beq_eq_false_iff_ne.2 fun e => hne (toList_inj e)
                cases al with
                | false =>
                  go_upto_region 25 with fail
                  go_quiet (fail)
                  go_wp2_with fail
                  go_roundw
                  case rel => exact ⟨j + 1, false, by omega, by go_num, rfl, (fun h => by cases h), by first | exact HBZ.out | exact Below.drewN HBZ.out _⟩
                  case measure => simp [intOf]; omega
                | true =>
                  have hd1 : decide ((j : Int) = (i : Int)) = false := decide_eq_false (by omega)
                  have hd2 : ((j : Int) == (i : Int)) = false := beq_eq_false_iff_ne.2 (by omega)
                  have hti := (HBZ.out.cell (p := ⟨b, o + i, none⟩) HL1.out).trans (HCL1.out i hlt)
                  have htj := (HBZ.out.cell (p := ⟨b, o + j, none⟩) HL1.out).trans (HCL1.out j hlt2)
                  have hbw : b < wr.heap.size := Nat.lt_of_lt_of_le HL1.out HBZ.out.size
                  have hk1 : ∀ (W : World) (s : ByteArray), b < W.heap.size → (Lib.bytesWorld W 5 s).cell? ⟨b, o + j, none⟩ = W.cell? ⟨b, o + j, none⟩ := fun W s hW => Lib.bytesWorld_old W _ s _ hW
                  have HSi := Lib.hid (show (S i).size ≤ 1000 by have := HGot.out.ids i hlt; omega)
                  go_upto_region 25 with fail
                  have kdi : (World.drew wr).cell? ⟨b, o + i, none⟩ = some (.string (S i)) := hti
                  have kdj : (World.drew wr).cell? ⟨b, o + j, none⟩ = some (.string (S j)) := htj
                  have kd1 : ∀ s, (Lib.bytesWorld (World.drew wr) 5 s).cell? ⟨b, o + i, none⟩ = some (.string (S i)) := fun s => (Lib.bytesWorld_old (World.drew wr) _ s ⟨b, o + i, none⟩ hbw).trans hti
                  have kd2 : ∀ s, (Lib.bytesWorld (World.drew wr) 5 s).cell? ⟨b, o + j, none⟩ = some (.string (S j)) := fun s => (Lib.bytesWorld_old (World.drew wr) _ s ⟨b, o + j, none⟩ hbw).trans htj
                  clear hk1
                  go_region_held (fun w' => w'.cell? ⟨b, o + i, none⟩ = some (.string (S i)) ∧ w'.cell? ⟨b, o + j, none⟩ = some (.string (S j))) (simp only [kdi, kdj, kd1, kd2, and_self])
                    (first | (go_at_call 14; refine (ubegins_at (World.drew wr) (S i) (S j) HSi.out).mono ?_; rintro e w4 ⟨rfl, rfl⟩))
                  go_wp2_with fail
                  go_roundw
                  case rel =>
                    refine ⟨j + 1, _, by omega, by go_num, rfl, fun h x hx hne => ?_, HBZ.out.trans ((Below.refl _ wr).drew.trans ((Lib.bytesWorld_below (World.drew wr) 5 (S i)).mono (by exact HBZ.out.size)))⟩
                    by_cases e : x = j
                    · subst e
                      intro hp
                      rw [(begins_pre (S i) (S x)).2 hp] at h
                      cases h
                    · exact HAl.out (by trivial) x (by omega) hne
                  case measure => simp [intOf]; omega
            · obtain rfl : j = k := by omega
              have hti := (HBZ.out.cell (p := ⟨b, o + i, none⟩) HL1.out).trans (HCL1.out i hlt)
              cases al with
              | false =>
                go_wp2_with fail
                go_roundw
                case rel => exact ⟨i + 1, by omega, by go_num, HBZ.out⟩
                case measure => simp [intOf]; omega
              | true =>
                have heq : got i = S i := HGot.out.alone i hlt (HAl.out rfl)
                have hnb2 : ((got i).toList == (S i).toList) = true := by rw [heq]; exact beq_self_eq_true _
                go_wp2_with fail
                go_roundw
                case rel => exact ⟨i + 1, by omega, by go_num, HBZ.out⟩
                case measure => simp [intOf]; omega
        · obtain rfl : i = k := by omega
          go_wp2_with fail
          go_ret
          exact ⟨rfl, HB3.out.trans (HBX.out.mono HB3.out.size)⟩

end Go.Proofs.YtnkjnlmghnomiaaDoor
