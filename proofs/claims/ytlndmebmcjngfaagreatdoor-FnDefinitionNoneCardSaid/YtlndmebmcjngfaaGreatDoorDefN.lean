/- Definitions: the law FnDefinitionNone walked: it returns true. No condition. -/
import Derived.Test.YtlndmebmcjngfaaGreatDoorDefM
namespace Go.Proofs.YtlndmebmcjngfaaGreatDoor
open Go.ChangeShapes Go.WideShapes Go.ChangeAt Go.RowKit

/-- spec.DefinitionText at a right definition -/
theorem defText_any (bl : Nat) (id pa ti : ByteArray) (q : Int) (nx : Bool) (w : World) (hb : bl ≤ 3) (h1 : id.size ≤ 20) (h2 : pa.size ≤ 20) (h3 : ti.size ≤ 60) (hq0 : 0 ≤ q) (hq : q ≤ 2) :
    ∃ q1 q2 : UInt8, quoI (q1.toNat : Int) = true ∧ endI (q2.toNat : Int) = true ∧
      Calls Tryz.prog 13 #[.agg #[.int .u8 (bl : Int), .string id, .string pa, .string ti, .int .u8 q, .bool nx]] w (MadeSaid (defL bl id.data.toList pa.data.toList ti.data.toList q1 q2 nx) w) := by
  cases ht : ti.toList.isEmpty with
  | true =>
    have e : ti = ⟨#[]⟩ := by
      rw [← str_data ti, ← Lib.toList_data]
      have : ti.toList = [] := by simpa using ht
      rw [this]
      rfl
    subst e
    exact ⟨34, 34, rfl, rfl, defText0_any bl id pa q 34 34 nx w hb h1 h2⟩
  | false =>
    have hqc : q = 0 ∨ q = 1 ∨ q = 2 := by omega
    rcases hqc with rfl | rfl | rfl
    · cases nx
      · exact ⟨34, 34, rfl, rfl, defText_0false bl id pa ti w hb h1 h2 h3 ht⟩
      · exact ⟨34, 34, rfl, rfl, defText_0true bl id pa ti w hb h1 h2 h3 ht⟩
    · cases nx
      · exact ⟨39, 39, rfl, rfl, defText_1false bl id pa ti w hb h1 h2 h3 ht⟩
      · exact ⟨39, 39, rfl, rfl, defText_1true bl id pa ti w hb h1 h2 h3 ht⟩
    · cases nx
      · exact ⟨40, 41, rfl, rfl, defText_2false bl id pa ti w hb h1 h2 h3 ht⟩
      · exact ⟨40, 41, rfl, rfl, defText_2true bl id pa ti w hb h1 h2 h3 ht⟩

theorem none_at (ext : Int) (W : World) (S : ByteArray) (l : List UInt8) (n cap gb : Nat) (hl : S.data.toList = l) (hN : NoneL l) (hn : S.size ≤ 1000000) (h1 : gb = W.heap.size) (h2 : n = S.size) :
    Calls Tryz.prog 14 #[.int .i64 ext, .slice (some ⟨gb, 0, none⟩) n cap] (Lib.bytesWorld W 5 S) (DefSaid (fun le => le = 0) W) := by
  subst h1 h2
  have hC := conv_new W S l hl
  refine (def_none ext _ S.size cap l _ hC.bs hN hn).mono fun e w' ⟨le, a, b, c, d, h3, h4, h5⟩ => ⟨le, a, b, c, d, h3, h4, ?_⟩
  have hb := Lib.bytesWorld_below W 5 S
  exact hb.trans (h5.mono hb.size)
theorem whole_at (ext : Int) (bn : Nat) (id pa ti : ByteArray) (q : Int) (nx : Bool) (w : World) (hb : bn ≤ 3) (hi : idL id.data.toList = true) (hp : idL pa.data.toList = true) (ht : ti.data.toList = [] ∨ docL ti.data.toList = true)
    (q1 q2 : UInt8) (h1 : quoI (q1.toNat : Int) = true) (h2 : endI (q2.toNat : Int) = true) (p : Option Addr) (n c : Nat) (h : Bs w p n (defL bn id.data.toList pa.data.toList ti.data.toList q1 q2 nx ++ [10])) (hn : n ≤ 1000000) :
    Calls Tryz.prog 14 #[.int .i64 ext, .slice p n c] w (DefSaid (fun le => 0 < le) w) := by
  obtain ⟨s, e, f, hD, hT⟩ := def_of (l := defL bn id.data.toList pa.data.toList ti.data.toList q1 q2 nx ++ [10]) rfl hb hi hp h1 h2 ht
  exact def_yes ext p n c s e f _ w h hD hT hn

theorem defL_len (bl : Nat) (id pa ti : List UInt8) (q1 q2 : UInt8) (nx : Bool) : (defL bl id pa ti q1 q2 nx).length ≤ bl + id.length + pa.length + ti.length + 20 ∧ 0 < (defL bl id pa ti q1 q2 nx).length := by
  unfold defL tailL
  split
  · simp; omega
  · split <;> (simp; omega)
theorem four_blanks (m : List UInt8) : ∀ j, j < 4 → bat (32 :: 32 :: 32 :: 32 :: m) j = 32 := by
  intro j hj
  have h4 : j = 0 ∨ j = 1 ∨ j = 2 ∨ j = 3 := by omega
  rcases h4 with rfl | rfl | rfl | rfl <;> rfl

/-- the cells of a boxed definition, as long as what was there stays -/
structure Box (B : Nat) (w : World) (bl : Int) (id pa ti : ByteArray) (q : Int) (nx : Bool) (wx : World) : Prop where
  c0 : wx.cell? ⟨B, 0, none⟩ = some (.int .u8 bl)
  c1 : wx.cell? ⟨B, 1, none⟩ = some (.string id)
  c2 : wx.cell? ⟨B, 2, none⟩ = some (.string pa)
  c3 : wx.cell? ⟨B, 3, none⟩ = some (.string ti)
  c4 : wx.cell? ⟨B, 4, none⟩ = some (.int .u8 q)
  c5 : wx.cell? ⟨B, 5, none⟩ = some (.bool nx)
  below : Below w.heap.size w wx
  size : B < wx.heap.size
theorem Box.new (w : World) (bl : Int) (id pa ti : ByteArray) (q : Int) (nx : Bool) : Box w.heap.size w bl id pa ti q nx (w.alloc (.cells #[.int .u8 bl, .string id, .string pa, .string ti, .int .u8 q, .bool nx] 34)) := by
  refine ⟨?_, ?_, ?_, ?_, ?_, ?_, (Below.refl _ _).alloc (Nat.le_refl _) _, by simp⟩ <;> simp
theorem Box.on {B : Nat} {w : World} {bl : Int} {id pa ti : ByteArray} {q : Int} {nx : Bool} {wx wy : World} (h : Box B w bl id pa ti q nx wx) (hB : w.heap.size ≤ B) (hb : Below wx.heap.size wx wy) : Box B w bl id pa ti q nx wy := by
  have hk : ∀ i, wy.cell? ⟨B, i, none⟩ = wx.cell? ⟨B, i, none⟩ := fun i => hb.cell (p := ⟨B, i, none⟩) h.size
  have := hb.size
  have := h.size
  exact ⟨(hk 0).trans h.c0, (hk 1).trans h.c1, (hk 2).trans h.c2, (hk 3).trans h.c3, (hk 4).trans h.c4, (hk 5).trans h.c5, h.below.trans (hb.mono h.below.size), by omega⟩

set_option maxHeartbeats 4000000 in
set_option maxRecDepth 100000 in
theorem defNone_law (ext bl : Int) (id pa ti : ByteArray) (q : Int) (nx : Bool) (way : Int) (w : World) (hbl : 0 ≤ bl) (hq0 : 0 ≤ q) (hw0 : 0 ≤ way) (hw1 : way < 256) :
    Calls Tryz.prog 4 #[.int .i64 ext, .agg #[.int .u8 bl, .string id, .string pa, .string ti, .int .u8 q, .bool nx], .int .u8 way] w fun e w' => e = .returned (.bool true) ∧ Below w.heap.size w w' := by
  have HX := Lib.hid (Box.new w bl id pa ti q nx)
  have HZ := Lib.hid (fun w => zzFits32_any bl id pa ti q nx w)
  cases hf : fits32 id pa ti with
  | false =>
    rw [hf] at HZ
    clear hf
    go_enter Tryz.func4, Tryz.ntmps4
    go_wp2_with fail
    refine (HZ.out _).mono ?_
    rintro e w1 ⟨rfl, hb⟩
    have HB := Lib.hid (HX.out.on (Nat.le_refl _) hb)
    clear hb
    go_wp2_with fail
    go_ret
    exact ⟨rfl, HB.out.below⟩
  | true =>
    rw [hf] at HZ
    unfold fits32 at hf
    simp only [Bool.and_eq_true, decide_eq_true_eq] at hf
    obtain ⟨⟨f1, f2⟩, f3⟩ := hf
    have HE := Lib.hid (fun w => ext_any ext w)
    have HD := Lib.hid (fun w => isDef_any bl id pa ti q nx w f1 f2 f3)
    cases he : extB ext with
    | false =>
      rw [he] at HE
      clear he
      go_enter Tryz.func4, Tryz.ntmps4
      go_wp2_with fail
      refine (HZ.out _).mono ?_
      rintro e w1 ⟨rfl, hb⟩
      have HB := Lib.hid (HX.out.on (Nat.le_refl _) hb)
      clear hb
      go_wp2_with fail
      refine (HE.out _).mono ?_
      rintro e w2 ⟨rfl, rfl⟩
      go_wp2_with fail
      go_ret
      exact ⟨rfl, HB.out.below⟩
    | true =>
      rw [he] at HE
      clear he
      cases hd : defB bl id pa ti q with
      | false =>
        rw [hd] at HD
        clear hd
        go_enter Tryz.func4, Tryz.ntmps4
        go_wp2_with fail
        refine (HZ.out _).mono ?_
        rintro e w1 ⟨rfl, hb⟩
        have HB := Lib.hid (HX.out.on (Nat.le_refl _) hb)
        clear hb
        go_wp2_with fail
        refine (HE.out _).mono ?_
        rintro e w2 ⟨rfl, rfl⟩
        have c0 := HB.out.c0
        have c1 := HB.out.c1
        have c2 := HB.out.c2
        have c3 := HB.out.c3
        have c4 := HB.out.c4
        have c5 := HB.out.c5
        go_wp2_with fail
        refine (HD.out _).mono ?_
        rintro e w2 ⟨rfl, hb⟩
        have HB2 := Lib.hid (HB.out.on (Nat.le_refl _) hb)
        clear hb
        go_wp2_with fail
        go_ret
        exact ⟨rfl, HB2.out.below⟩
      | true =>
        rw [hd] at HD
        unfold defB at hd
        simp only [Bool.and_eq_true, decide_eq_true_eq] at hd
        obtain ⟨d1, d2, d3, d4, d5⟩ := hd
        obtain ⟨bn, rfl⟩ := Int.eq_ofNat_of_zero_le hbl
        have s1 : id.size ≤ 20 := by have := (idL_eq.1 d2).2.2; rwa [← Lib.size_eq] at this
        have s2 : pa.size ≤ 20 := by have := (idL_eq.1 d3).2.2; rwa [← Lib.size_eq] at this
        have ht : ti.data.toList = [] ∨ docL ti.data.toList = true := by
          rw [Bool.or_eq_true] at d4
          rcases d4 with h | h
          · exact Or.inl (by simpa using h)
          · exact Or.inr h
        have s3 : ti.size ≤ 60 := by
          rw [Lib.size_eq]
          rcases ht with h | h
          · rw [h]; simp
          · unfold docL at h; simp only [Bool.and_eq_true, decide_eq_true_eq] at h; exact h.2
        have HT0 := Lib.hid (fun w => defText0_any 0 id pa 0 34 34 false w (by decide) s1 s2)
        have HT1 := Lib.hid (fun w => defText_any bn id pa ti q nx w (by omega) s1 s2 s3 hq0 d5)
        have HK := Lib.hid (fun w => whole_at ext bn id pa ti q nx w (by omega) d2 d3 ht)
        have kc := fun (w : World) (s : ByteArray) => Lib.run_convert_string_bytes (P := Tryz.prog) w 9 23 5 s Tryz.underlying9 Tryz.underlying23 Tryz.underlying5
        have l0 : (str (defL 0 id.data.toList pa.data.toList [] 34 34 false)).size ≤ 100 := by
          rw [str_size]
          simp [defL, tailL]
          have := Lib.size_eq id
          have := Lib.size_eq pa
          simp at *
          omega
        obtain ⟨T0, hT0⟩ : ∃ T0, T0 = defL 0 id.data.toList pa.data.toList [] 34 34 false := ⟨_, rfl⟩
        rw [← hT0] at HT0 l0
        clear hT0
        have SL0 := Lib.hid l0
        have S4 := Lib.hid (show ((⟨#[32, 32, 32, 32]⟩ : ByteArray) ++ str T0).size = 4 + (str T0).size by
          have h4 : (⟨#[32, 32, 32, 32]⟩ : ByteArray).size = 4 := rfl
          rw [ByteArray.size_append, h4])
        have L4 := Lib.hid (show ((⟨#[32, 32, 32, 32]⟩ : ByteArray) ++ str T0).data.toList = 32 :: 32 :: 32 :: 32 :: T0 by simp [str])
        have SI := Lib.hid (show id.data.toList.length ≤ 20 by rw [← Lib.size_eq]; exact s1)
        have SP := Lib.hid (show pa.data.toList.length ≤ 20 by rw [← Lib.size_eq]; exact s2)
        have ST := Lib.hid (show ti.data.toList.length ≤ 60 by rw [← Lib.size_eq]; exact s3)
        have D2 := Lib.hid d2
        have D3 := Lib.hid d3
        clear d2 d3 d4 ht
        have hcase : ((way % 3 == 0) = true) ∨ ((way % 3 == 0) = false ∧ (way % 3 == 1) = true) ∨ ((way % 3 == 0) = false ∧ (way % 3 == 1) = false) := by
          cases h0 : (way % 3 == 0)
          · cases h1 : (way % 3 == 1)
            · exact Or.inr (Or.inr ⟨rfl, rfl⟩)
            · exact Or.inr (Or.inl ⟨rfl, rfl⟩)
          · exact Or.inl rfl
        rcases hcase with v0 | ⟨v0, v1⟩ | ⟨v0, v1⟩
        all_goals
          go_enter Tryz.func4, Tryz.ntmps4
          go_wp2_with fail
          refine (HZ.out _).mono ?_
          rintro e w1 ⟨rfl, hb⟩
          have HB := Lib.hid (HX.out.on (Nat.le_refl _) hb)
          clear hb
          go_wp2_with fail
          refine (HE.out _).mono ?_
          rintro e w2 ⟨rfl, rfl⟩
          have c0 := HB.out.c0
          have c1 := HB.out.c1
          have c2 := HB.out.c2
          have c3 := HB.out.c3
          have c4 := HB.out.c4
          have c5 := HB.out.c5
          go_wp2_with fail
          refine (HD.out _).mono ?_
          rintro e w2 ⟨rfl, hb⟩
          have HB2 := Lib.hid (HB.out.on (Nat.le_refl _) hb)
          clear hb c0 c1 c2 c3 c4 c5
          have c1 := HB2.out.c1
          have c2 := HB2.out.c2
          go_wp2_with fail
          refine (HT0.out _).mono ?_
          rintro e w3 ⟨g, cap, rfl, hg, hC, hb⟩
          have HB3 := Lib.hid (HB2.out.on (Nat.le_refl _) hb)
          have cv := hC.bs.convert cap
          clear hb hC c1 c2 hg
          have c1 := HB3.out.c1
          have c2 := HB3.out.c2
        · go_wp2_with fail
          refine (none_at ext _ (⟨#[91]⟩ ++ id ++ ⟨#[93, 32, 47]⟩ ++ pa ++ ⟨#[10]⟩) (91 :: (id.data.toList ++ (93 :: 32 :: 47 :: (pa.data.toList ++ [10])))) _ _ _ (by simp [str]) (Or.inl ⟨_, noColon_of rfl D2.out⟩) (by have := SL0.out; simp only [ByteArray.size_append]; simp only [show ∀ a, ByteArray.size ⟨a⟩ = a.size from fun _ => rfl]; simp; omega) (by simp) (by simp only [ByteArray.size_append]; rfl)).mono ?_
          rintro e w4 ⟨le, t1, t2, t3, nt, rfl, rfl, hb⟩
          have HB4 := Lib.hid (HB3.out.on (Nat.le_refl _) hb)
          obtain ⟨q1, q2, hq1, hq2, hT⟩ := HT1.out w4
          have HT := Lib.hid hT
          have HQ1 := Lib.hid hq1
          have HQ2 := Lib.hid hq2
          clear hb hT hq1 hq2 cv c1 c2
          have c0 := HB4.out.c0
          have c1 := HB4.out.c1
          have c2 := HB4.out.c2
          have c3 := HB4.out.c3
          have c4 := HB4.out.c4
          have c5 := HB4.out.c5
          go_wp2_with fail
          refine HT.out.mono ?_
          rintro e w5 ⟨g2, cap2, rfl, hg2, hC2, hb5⟩
          have HB5 := Lib.hid (HB4.out.on (Nat.le_refl _) hb5)
          have HC2 := Lib.hid hC2
          have HG2 := Lib.hid hg2
          have HZ5 := Lib.hid hb5.size
          have HL5 := Lib.hid (defL_len bn id.data.toList pa.data.toList ti.data.toList q1 q2 nx)
          clear hb5 hC2 hg2 c0 c1 c2 c3 c4 c5
          go_wp2_with (at_builtin; refine app_conv rfl _ _ rfl w4.heap.size g2 _ cap2 _ HG2.out rfl HC2.out _ 10 rfl rfl (by have := HL5.out; have := SI.out; have := SP.out; have := ST.out; omega) (by have := HL5.out; omega) HZ5.out ?_; intro p5 c5' w6 hBs6 hb6)
          have HK6 := Lib.hid (HK.out w6 q1 q2 HQ1.out HQ2.out p5 _ c5' hBs6 (by have := HL5.out; have := SI.out; have := SP.out; have := ST.out; omega))
          have HB6 := Lib.hid (HB5.out.below.trans (hb6.mono HB4.out.below.size))
          have HZ6 := Lib.hid hb6.size
          clear hBs6 hb6
          go_wp2_with fail
          refine HK6.out.mono ?_
          rintro e w7 ⟨le2, y1, y2, y3, ny, hle2, rfl, hb7⟩
          have HB7 := Lib.hid hb7
          clear hb7
          go_wp2_with fail
          go_ret
          exact ⟨rfl, HB6.out.trans (HB7.out.mono HB6.out.size)⟩
        · go_wp2_with fail
          refine (none_at ext _ (⟨#[91]⟩ ++ id ++ ⟨#[58, 32, 47]⟩ ++ pa ++ ⟨#[10]⟩) (91 :: (id.data.toList ++ (58 :: 32 :: 47 :: (pa.data.toList ++ [10])))) _ _ _ (by simp [str]) (Or.inr (Or.inl ⟨_, noClose_of rfl D2.out D3.out⟩)) (by have := SL0.out; simp only [ByteArray.size_append]; simp only [show ∀ a, ByteArray.size ⟨a⟩ = a.size from fun _ => rfl]; simp; omega) (by simp) (by simp only [ByteArray.size_append]; rfl)).mono ?_
          rintro e w4 ⟨le, t1, t2, t3, nt, rfl, rfl, hb⟩
          have HB4 := Lib.hid (HB3.out.on (Nat.le_refl _) hb)
          obtain ⟨q1, q2, hq1, hq2, hT⟩ := HT1.out w4
          have HT := Lib.hid hT
          have HQ1 := Lib.hid hq1
          have HQ2 := Lib.hid hq2
          clear hb hT hq1 hq2 cv c1 c2
          have c0 := HB4.out.c0
          have c1 := HB4.out.c1
          have c2 := HB4.out.c2
          have c3 := HB4.out.c3
          have c4 := HB4.out.c4
          have c5 := HB4.out.c5
          go_wp2_with fail
          refine HT.out.mono ?_
          rintro e w5 ⟨g2, cap2, rfl, hg2, hC2, hb5⟩
          have HB5 := Lib.hid (HB4.out.on (Nat.le_refl _) hb5)
          have HC2 := Lib.hid hC2
          have HG2 := Lib.hid hg2
          have HZ5 := Lib.hid hb5.size
          have HL5 := Lib.hid (defL_len bn id.data.toList pa.data.toList ti.data.toList q1 q2 nx)
          clear hb5 hC2 hg2 c0 c1 c2 c3 c4 c5
          go_wp2_with (at_builtin; refine app_conv rfl _ _ rfl w4.heap.size g2 _ cap2 _ HG2.out rfl HC2.out _ 10 rfl rfl (by have := HL5.out; have := SI.out; have := SP.out; have := ST.out; omega) (by have := HL5.out; omega) HZ5.out ?_; intro p5 c5' w6 hBs6 hb6)
          have HK6 := Lib.hid (HK.out w6 q1 q2 HQ1.out HQ2.out p5 _ c5' hBs6 (by have := HL5.out; have := SI.out; have := SP.out; have := ST.out; omega))
          have HB6 := Lib.hid (HB5.out.below.trans (hb6.mono HB4.out.below.size))
          have HZ6 := Lib.hid hb6.size
          clear hBs6 hb6
          go_wp2_with fail
          refine HK6.out.mono ?_
          rintro e w7 ⟨le2, y1, y2, y3, ny, hle2, rfl, hb7⟩
          have HB7 := Lib.hid hb7
          clear hb7
          go_wp2_with fail
          go_ret
          exact ⟨rfl, HB6.out.trans (HB7.out.mono HB6.out.size)⟩
        · go_wp2_with fail
          refine (none_at ext _ _ _ _ _ _ L4.out (Or.inr (Or.inr ⟨by simp, fun j hj => four_blanks _ j hj⟩)) (by have := SL0.out; have := S4.out; omega) rfl S4.out.symm).mono ?_
          rintro e w4 ⟨le, t1, t2, t3, nt, rfl, rfl, hb⟩
          have HB4 := Lib.hid (HB3.out.on (Nat.le_refl _) hb)
          obtain ⟨q1, q2, hq1, hq2, hT⟩ := HT1.out w4
          have HT := Lib.hid hT
          have HQ1 := Lib.hid hq1
          have HQ2 := Lib.hid hq2
          clear hb hT hq1 hq2 cv c1 c2
          have c0 := HB4.out.c0
          have c1 := HB4.out.c1
          have c2 := HB4.out.c2
          have c3 := HB4.out.c3
          have c4 := HB4.out.c4
          have c5 := HB4.out.c5
          go_wp2_with fail
          refine HT.out.mono ?_
          rintro e w5 ⟨g2, cap2, rfl, hg2, hC2, hb5⟩
          have HB5 := Lib.hid (HB4.out.on (Nat.le_refl _) hb5)
          have HC2 := Lib.hid hC2
          have HG2 := Lib.hid hg2
          have HZ5 := Lib.hid hb5.size
          have HL5 := Lib.hid (defL_len bn id.data.toList pa.data.toList ti.data.toList q1 q2 nx)
          clear hb5 hC2 hg2 c0 c1 c2 c3 c4 c5
          go_wp2_with (at_builtin; refine app_conv rfl _ _ rfl w4.heap.size g2 _ cap2 _ HG2.out rfl HC2.out _ 10 rfl rfl (by have := HL5.out; have := SI.out; have := SP.out; have := ST.out; omega) (by have := HL5.out; omega) HZ5.out ?_; intro p5 c5' w6 hBs6 hb6)
          have HK6 := Lib.hid (HK.out w6 q1 q2 HQ1.out HQ2.out p5 _ c5' hBs6 (by have := HL5.out; have := SI.out; have := SP.out; have := ST.out; omega))
          have HB6 := Lib.hid (HB5.out.below.trans (hb6.mono HB4.out.below.size))
          have HZ6 := Lib.hid hb6.size
          clear hBs6 hb6
          go_wp2_with fail
          refine HK6.out.mono ?_
          rintro e w7 ⟨le2, y1, y2, y3, ny, hle2, rfl, hb7⟩
          have HB7 := Lib.hid hb7
          clear hb7
          go_wp2_with fail
          go_ret
          exact ⟨rfl, HB6.out.trans (HB7.out.mono HB6.out.size)⟩

end Go.Proofs.YtlndmebmcjngfaaGreatDoor
