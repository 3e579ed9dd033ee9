/- Tables: tableHeader walked: a head that is one, and one with fewer columns below. Condition: lengths are bounded. -/
import Derived.Test.YtlndmebmcjngfaaGreatDoorTabO
namespace Go.Proofs.YtlndmebmcjngfaaGreatDoor
open Go.ChangeShapes Go.WideShapes Go.ChangeAt Go.RowKit

/-- what the loop over the columns below knows of the world -/
structure HeadW (cb N : Nat) (w wr : World) : Prop where
  below : Below w.heap.size w wr
  nums : Nums wr cb N
theorem HeadW.set {cb N : Nat} {w wr : World} (h : HeadW cb N w wr) (hc : w.heap.size ≤ cb) (i : Nat) (v : Int) : HeadW cb N w (wr.setCell ⟨cb, i, none⟩ (.int .i64 v)) :=
  ⟨h.below.setCell hc _, h.nums.set i v⟩
def ColOk (c : Col) : Prop := 1 ≤ c.2 ∧ 3 ≤ cw c
/-- .. and where it stands -/
def HeadRel (l : List UInt8) (en : Bool) (m cb N : Nat) (w : World) (i col : Value) (wr : World) : Prop :=
  ∃ (q k : Nat) (r : List Col), i = .int .i64 q ∧ col = .int .i64 k ∧ Chain l en r q ∧ k + r.length = m ∧ (∀ c ∈ r, ColOk c) ∧ 0 < q ∧ HeadW cb N w wr

/-- a head is found, or none -/
def HeadSaid (pos : Bool) (P D : Nat) (w : World) (e : Ending) (w' : World) : Prop :=
  ∃ (s : Int) (cb N : Nat), e = .returned (.tuple #[.int .i64 s, .slice (some ⟨cb, 0, none⟩) N N]) ∧ (if pos then 0 < s else s = 0) ∧ Nums w' cb N ∧ w.heap.size ≤ cb ∧ N ≤ 20 ∧ But (fun k => k = P ∨ k = D) w w'

set_option maxHeartbeats 8000000 in
set_option maxRecDepth 100000 in
theorem header_any (pos : Bool) (P D b o n c N L : Nat) (bg en : Bool) (cs : List Col) (l : List UInt8) (w : World) (hP : Tip w P D) (hD : Nd w D 0 none none) (hPD : P ≠ D) (h : Bs w (some ⟨b, o, none⟩) n l) (hH : HeadAt l N bg en cs L)
    (hbP : b ≠ P) (hbD : b ≠ D) (hn : n ≤ 1000000) (hnc : n ≤ c) (hcm : c ≤ maxLen) (hN : N ≤ 8) (hok : ∀ x ∈ cs, ColOk x) (hm : cs.length + (if pos then 0 else 1) = N) :
    Calls Tryz.prog 24 #[.pointer (some ⟨P, 0, none⟩), .slice (some ⟨b, o, none⟩) n c] w (HeadSaid pos P D w) := by
  have hln := h.len
  have H := Lib.hid h
  have HP := Lib.hid hP
  have HD := Lib.hid hD
  have HPD := Lib.hid hPD
  have HbP := Lib.hid hbP
  have HbD := Lib.hid hbD
  have HH := Lib.hid hH
  have HOk := Lib.hid hok
  have HM := Lib.hid hm
  have HE := Lib.hid (fun wr (g : Below w.heap.size w wr) i (hi : i < n) => notEsc_any (some ⟨b, o, none⟩) n c i l wr (h.below g (Nat.le_refl _)) hi (fun j _ => hH.esc j) hn)
  obtain ⟨b', o', e', hbl, hcl⟩ := h.cells (by have := hH.len; omega)
  cases e'
  have HC := Lib.hid hcl
  have HBl := Lib.hid hbl
  have HLn := Lib.hid hln
  have HL2 := Lib.hid (show L + 2 < n by rw [← hln]; exact hH.len)
  have hmk := make_nums N (by omega)
  obtain ⟨M, hMe⟩ : ∃ M, M = 1 + bars l L := ⟨_, rfl⟩
  obtain ⟨bq, hbq⟩ : ∃ bq : Nat, bq = if bg then 1 else 0 := ⟨_, rfl⟩
  obtain ⟨eq, heq⟩ : ∃ eq : Nat, eq = if en then 1 else 0 := ⟨_, rfl⟩
  have hMn : M = N + bq + eq := by rw [hMe, hH.bars, ← hbq, ← heq]; have := hH.n2; omega
  have HMe := Lib.hid hMe
  have HBq := Lib.hid hbq
  have HEq := Lib.hid heq
  have hbq1 : bq ≤ 1 := by rw [hbq]; split <;> omega
  have heq1 : eq ≤ 1 := by rw [heq]; split <;> omega
  have hN2 := hH.n2
  clear hMe hbq heq
  clear hP hD hPD h hH hbP hbD hok hm hcl hbl hln
  go_enter Tryz.func24, Tryz.ntmps24
  go_upto_block 0 with fail
  go_cut [6, 7] (fun i t wx => i = .int .i64 L ∧ t = .int .i64 (M : Int) ∧ wx = w)
  case first => as_aux_lemma =>
    go_wp2_with fail
    go_loop [6, 7] (fun i t => ∃ k : Nat, k ≤ L ∧ i = .int .i64 k ∧ t = .int .i64 ((1 + bars l k : Nat) : Int)) (fun i _ => L - (intOf i).toNat)
    case atStart => exact ⟨0, Nat.zero_le _, rfl, rfl⟩
    case round =>
      obtain ⟨k, hk, rfl, rfl⟩ := hrel
      have HBa := Lib.hid (bars_le l k)
      have hkn : k < n := by have := HL2.out; omega
      have ck := HC.out k hkn
      have HEk := Lib.hid (HE.out w (Below.refl _ _) k hkn)
      have hbk : bars l k ≤ 1000000 := by have := HBa.out; omega
      by_cases hlt : k < L
      · have h10 : (bat l k != 10) = true := by simpa using HH.out.over k hlt
        have HBs := Lib.hid (show bars l (k + 1) = bars l k + if bat l k = 124 then 1 else 0 from rfl)
        cases hq : (bat l k == 124) with
        | true =>
          go_wp2_with (go_at_call 28; refine HEk.out.mono ?_; rintro e w2 ⟨rfl, rfl⟩)
          go_round
          case rel => exact ⟨k + 1, by omega, by go_num, by rw [HBs.out, if_pos (by simpa using hq)]; go_num⟩
          case measure => simp [intOf]; omega
        | false =>
          go_wp2_with fail
          go_round
          case rel => exact ⟨k + 1, by omega, by go_num, by rw [HBs.out, if_neg (by simpa using hq)]; go_num⟩
          case measure => simp [intOf]; omega
      · obtain rfl : k = L := by omega
        have h10 : (bat l k != 10) = false := by simpa using HH.out.nl
        go_wp2_with fail
        go_meet
        exact ⟨rfl, by rw [HMe.out]; go_num, rfl⟩
  obtain ⟨rfl, rfl, hwc⟩ := hcut
  subst wc
  have hm1 : ((M : Int) == 1) = false := by
    have : (M : Int) ≠ 1 := by omega
    simpa using this
  have HC0 := Lib.hid (show w.cell? ⟨b, o, none⟩ = some (.int .u8 (bat l 0)) from HC.out 0 (by have := HL2.out; omega))
  have hLn : L < n := by have := HL2.out; omega
  have hL1 : L + 1 < n := by have := HL2.out; omega
  have HCL := Lib.hid (HC.out L hLn)
  have hb10 : (bat l L == 10) = true := by simpa using HH.out.nl
  have hb0 : (bat l 0 == 124) = bg := by rw [← HH.out.first]; simp [BEq.beq]
  go_upto_region 10 with fail
  go_cut [51] (fun t wx => t = .bool true ∧ wx = w)
  case first => as_aux_lemma =>
    have cL := HCL.out
    go_wp2_with fail
    go_meet
    exact ⟨rfl, rfl⟩
  obtain ⟨rfl, hwc⟩ := hcut
  subst wc
  have c0 := HC0.out
  go_upto_if 60 with fail
  go_cut [7] (fun t wx => t = .int .i64 ((N + eq : Nat) : Int) ∧ wx = w)
  case first => as_aux_lemma =>
    have hx := HBq.out
    cases bg with
    | true =>
      simp only [if_true] at hx
      go_wp2_with fail
      go_meet
      exact ⟨congrArg (Value.int .i64) (by omega), rfl⟩
    | false =>
      simp only [Bool.false_eq_true, if_false] at hx
      go_wp2_with fail
      go_meet
      exact ⟨congrArg (Value.int .i64) (by omega), rfl⟩
  obtain ⟨rfl, hwc⟩ := hcut
  subst wc
  clear c0 hb0 hm1 hMn hb10
  go_upto_region 15 with fail
  go_cut [79] (fun t wx => t = .bool en ∧ wx = w)
  case first => as_aux_lemma =>
    obtain ⟨K, hK⟩ : ∃ K, L = K + 1 := ⟨L - 1, by have := HH.out.l2; omega⟩
    have hl2 := HH.out.l2
    have hbe : (bat l K == 124) = en := by rw [← HH.out.last, hK]; simp [BEq.beq]
    have cK := HC.out K (by omega)
    have HEK := Lib.hid (HE.out w (Below.refl _ _) K (by omega))
    subst hK
    have e1 : (((K + 1 : Nat) : Int) - 1) = (K : Int) := by omega
    cases en with
    | true =>
      go_wp2_with (go_at_call 28; refine HEK.out.mono ?_; rintro e w2 ⟨rfl, rfl⟩)
      go_meet
      exact ⟨rfl, rfl⟩
    | false =>
      go_wp2_with fail
      go_meet
      exact ⟨rfl, rfl⟩
  obtain ⟨rfl, hwc⟩ := hcut
  subst wc
  go_upto_if 79 with fail
  go_cut [7] (fun t wx => t = .int .i64 (N : Int) ∧ wx = w)
  case first => as_aux_lemma =>
    have hx := HEq.out
    cases en with
    | true =>
      simp only [if_true] at hx
      go_wp2_with fail
      go_meet
      exact ⟨congrArg (Value.int .i64) (by omega), rfl⟩
    | false =>
      simp only [Bool.false_eq_true, if_false] at hx
      go_wp2_with fail
      go_meet
      exact ⟨congrArg (Value.int .i64) (by omega), rfl⟩
  obtain ⟨rfl, hwc⟩ := hcut
  subst wc
  have HW0 := Lib.hid (show HeadW w.heap.size N w (w.alloc (.cells (madeCells #[.int .i64 0] N) 49)) from ⟨(Below.refl _ _).alloc (Nat.le_refl _) _, Nums.made N w⟩)
  have HCw := Lib.hid (fun wr (g : HeadW w.heap.size N w wr) i (hi : i < n) => (g.below.cell (p := ⟨b, o + i, none⟩) HBl.out).trans (HC.out i hi))
  have hb1 : (bat l (L + 1) == 124) = bg := by rw [← HH.out.bar]; simp [BEq.beq]
  go_upto_region 20 with fail
  go_cut [100] (fun t wx => t = .bool bg ∧ HeadW w.heap.size N w wx)
  case first => as_aux_lemma =>
    have c1 := HCw.out _ HW0.out (L + 1) hL1
    have HE1 := Lib.hid (HE.out _ HW0.out.below (L + 1) hL1)
    cases bg with
    | true =>
      go_wp2_with (go_at_call 28; refine HE1.out.mono ?_; rintro e w2 ⟨rfl, rfl⟩)
      go_meet
      exact ⟨rfl, HW0.out⟩
    | false =>
      go_wp2_with fail
      go_meet
      exact ⟨rfl, HW0.out⟩
  obtain ⟨rfl, hW⟩ := hcut
  have HW := Lib.hid hW
  clear hW HW0 hb1 hmk
  go_upto_if 100 with fail
  go_cut [6] (fun t wx => t = .int .i64 ((L + 1 + bq : Nat) : Int) ∧ wx = wc)
  case first => as_aux_lemma =>
    have hx := HBq.out
    cases bg with
    | true =>
      simp only [if_true] at hx
      go_wp2_with fail
      go_meet
      exact ⟨congrArg (Value.int .i64) (by omega), rfl⟩
    | false =>
      simp only [Bool.false_eq_true, if_false] at hx
      go_wp2_with fail
      go_meet
      exact ⟨congrArg (Value.int .i64) (by omega), rfl⟩
  obtain ⟨rfl, rfl⟩ := hcut
  obtain ⟨q0, hq0⟩ : ∃ q0, q0 = L + 1 + bq := ⟨_, rfl⟩
  rw [← hq0]
  have hch0 : Chain l en cs q0 := by rw [hq0, HBq.out]; exact HH.out.low
  obtain ⟨hq0n, hq32, _⟩ := chain_head hch0 (fun x hx => (HOk.out x hx).1)
  rw [HLn.out] at hq0n
  have HCh0 := Lib.hid hch0
  have HS := Lib.hid (skipNone_any (some ⟨b, o, none⟩) n c q0 l wc (H.out.below HW.out.below (Nat.le_refl _)) hq0n hq32 hn)
  have hq0p : 0 < q0 := by omega
  have HQ0 := Lib.hid hq0
  clear hch0 hq32 hq0
  go_wp2_with (go_at_call 29; refine HS.out.mono ?_; rintro e w2 ⟨rfl, rfl⟩)
  go_loopw [6, 10] (fun i t wr => HeadRel l en cs.length w.heap.size N w i t wr) (fun _ t _ => cs.length - (intOf t).toNat)
  case atStart => exact ⟨q0, 0, cs, rfl, rfl, HCh0.out, by omega, HOk.out, hq0p, HW.out⟩
  case round =>
    obtain ⟨q, k, r, rfl, rfl, hch, hkr, hokr, hqp, hW⟩ := hrel
    have HW1 := Lib.hid hW
    clear hW
    cases r with
    | nil => as_aux_lemma =>
      have hq10 : bat l q = 10 := hch
      have hqn : q < n := by have := bat_is hq10 (by decide); rw [HLn.out] at this; exact this
      have cq := HCw.out wr HW1.out q hqn
      have h10 : (bat l q != 10) = false := by rw [hq10]; rfl
      have hkm : k = cs.length := by simpa using hkr
      cases pos with
      | false =>
        have hkN : ((k : Int) != (N : Int)) = true := by
          have h1 := HM.out
          simp only [Bool.false_eq_true, if_false] at h1
          have : (k : Int) ≠ (N : Int) := by omega
          simpa using this
        clear hch hq10 hkm hkr hokr
        go_wp2_with fail
        refine bodyPost_ret (v := .tuple #[.int .i64 0, .slice (some ⟨w.heap.size, 0, none⟩) N N]) (by simp [results, Tryz.results24, go_sem]) rfl ⟨0, w.heap.size, N, rfl, rfl, HW1.out.nums, Nat.le_refl _, by omega, (But.refl _ w).below HW1.out.below⟩
      | true =>
        have hkN : ((k : Int) != (N : Int)) = false := by
          have h1 := HM.out
          simp only [if_true] at h1
          have : (k : Int) = (N : Int) := by omega
          simpa using this
        have hq10e : (bat l q == 10) = true := by rw [hq10]; rfl
        have HPw := Lib.hid (HP.out.of_block (HW1.out.below.block P HP.out.lt))
        have HDw := Lib.hid (HD.out.of_block (HW1.out.below.block D HD.out.lt))
        have HAd := Lib.hid (addBlock_any P D 0 21 none none none 0 0 wr HPw.out HDw.out HPD.out (fun L e => by cases e) (Or.inl ⟨rfl, rfl, rfl⟩))
        clear hch hq10 hkm hkr hokr
        go_wp2_with fail
        refine HAd.out.mono ?_
        rintro e w2 ⟨rfl, w1, hb1, had⟩
        have hPlt := HP.out.lt
        have hDlt := HD.out.lt
        have hwz := HW1.out.below.size
        have hcbz := HW1.out.nums.lt
        have hb2 : But (fun k => k = P ∨ k = D) wr w2 := ((But.refl (fun k => k = P ∨ k = D) wr).below hb1).join had.but (fun k hk e => by
          rcases e with e | e | e | e
          · exact Or.inl e
          · omega
          · exact Or.inr e
          · cases e)
        have hb3 : But (fun k => k = P ∨ k = D) w w2 := ((But.refl (fun k => k = P ∨ k = D) w).below HW1.out.below).trans hb2
        have hnums2 : Nums w2 w.heap.size N := HW1.out.nums.of_block hb2.size (hb2.block _ hcbz (by rintro (e | e) <;> omega))
        have HB3 := Lib.hid hb3
        have HN2 := Lib.hid hnums2
        have HRo := Lib.hid (tableRow_any P wr.heap.size D b o (L + 1) c w.heap.size N N true (l.take (L + 1)) w2 had.tip had.new (by omega) ((H.out.of_but hb3 (fun a e => by cases e; exact fun x => x.elim HbP.out HbD.out)).take (L + 1) (by omega)) hnums2
          HbP.out (by have := HBl.out; omega) (by omega) (by omega) (by omega) (by omega) (by omega) hcm (by omega) (fun j hj e => by
            rcases Nat.lt_or_ge j (L + 1) with h1 | h1
            · exact HH.out.esc j (by rw [← e]; unfold bat; simp [h1])
            · omega))
        clear hb1 had hb2 hb3 hnums2 HAd
        go_wp2_with fail
        refine HRo.out.mono ?_
        rintro e w3 ⟨rfl, hb4⟩
        have hb5 : But (fun k => k = P ∨ k = D) w w3 := HB3.out.join hb4 (fun k hk e => by
          rcases e with e | e
          · exact Or.inl e
          · omega)
        have hnums3 : Nums w3 w.heap.size N := HN2.out.of_block hb4.size (hb4.block _ HN2.out.lt (by rintro (e | e) <;> omega))
        have HB5 := Lib.hid hb5
        have HN3 := Lib.hid hnums3
        obtain ⟨b', o', e', hbl3, hcl3⟩ := (H.out.of_but hb5 (fun a e => by cases e; exact fun x => x.elim HbP.out HbD.out)).cells (by omega)
        cases e'
        have cq3 := hcl3 q hqn
        clear hb4 hb5 hnums3 hcl3 HRo cq
        go_wp2_with fail
        refine bodyPost_ret (v := .tuple #[.int .i64 ((q : Int) + 1), .slice (some ⟨w.heap.size, 0, none⟩) N N]) (by simp [results, Tryz.results24, go_sem]) rfl ⟨(q : Int) + 1, w.heap.size, N, rfl, by simp only [if_true]; omega, HN3.out, Nat.le_refl _, by omega, HB5.out⟩
    | cons cl r => as_aux_lemma =>
      obtain ⟨hF, hE⟩ := col_facts hch (hokr cl (List.mem_cons_self ..)).1
      have h3 := (hokr cl (List.mem_cons_self ..)).2
      obtain ⟨a, ha⟩ : ∃ a, a = ca cl := ⟨_, rfl⟩
      obtain ⟨d, hd⟩ : ∃ d, d = cl.2 := ⟨_, rfl⟩
      obtain ⟨z, hz⟩ : ∃ z, z = cz cl := ⟨_, rfl⟩
      rw [← ha, ← hd, ← hz] at hF
      have hcw : cw cl = a + d + z := by unfold cw; rw [ha, hd, hz]
      rw [hcw] at hE h3
      have HF := Lib.hid hF
      have HRe := Lib.hid hE
      have HOr := Lib.hid (fun x (hx : x ∈ r) => hokr x (List.mem_cons_of_mem _ hx))
      have hkr2 : k + 1 + r.length = cs.length := by simp at hkr; omega
      have hcsN : cs.length ≤ N := by have := HM.out; omega
      have hkN : k < N := by omega
      have ha1 := hF.a1
      have hz1 := hF.z1
      have hl0 : q < n := by have := hF.lt; rw [HLn.out] at this; exact this
      have hl1 : q + a + d < n := by have := hF.lt1; rw [HLn.out] at this; exact this
      clear ha hd hz hcw hF hE hokr hkr hch
      have cq := HCw.out wr HW1.out q hl0
      have h10 := HF.out.ne
      have h58 := HF.out.first
      go_upto_if 121 with fail
      go_cut [6, 11] (fun i t wx => i = .int .i64 ((q + a : Nat) : Int) ∧ t = .int .i64 (a : Int) ∧ HeadW w.heap.size N w wx)
      case first => as_aux_lemma =>
        rcases (show a = 0 ∨ a = 1 by omega) with rfl | rfl
        · have h58' : (bat l q == 58) = false := h58
          clear h58
          go_wp2_with fail
          go_meet
          exact ⟨rfl, rfl, HW1.out⟩
        · have h58' : (bat l q == 58) = true := h58
          clear h58
          obtain ⟨v, cv⟩ := HW1.out.nums.cells k hkN
          have fv := HW1.out.nums.froz k
          go_wp2_with fail
          go_meet
          exact ⟨by go_num, rfl, HW1.out.set (Nat.le_refl _) k _⟩
      obtain ⟨rfl, rfl, hW2⟩ := hcut
      have HW2 := Lib.hid hW2
      clear hW2 h10 h58 cq
      go_upto_block 4 with fail
      go_cut [6, 11] (fun i t wx => i = .int .i64 ((q + a + d : Nat) : Int) ∧ t = .int .i64 ((a + d : Nat) : Int) ∧ wx = wc)
      case first => as_aux_lemma =>
        go_wp2_with fail
        go_loop [6, 11] (fun i t => ∃ j : Nat, j ≤ d ∧ i = .int .i64 ((q + a + j : Nat) : Int) ∧ t = .int .i64 ((a + j : Nat) : Int)) (fun i _ => q + a + d - (intOf i).toNat)
        case atStart => exact ⟨0, Nat.zero_le _, rfl, rfl⟩
        case round =>
          obtain ⟨j, hj, rfl, rfl⟩ := hrel
          by_cases hlt : j < d
          · obtain ⟨m1, m2⟩ := HF.out.mid j hlt
            rw [HLn.out] at m1
            have cj := HCw.out wc HW2.out (q + a + j) m1
            go_wp2_with fail
            go_round
            case rel => exact ⟨j + 1, by omega, by go_num, by go_num⟩
            case measure => simp [intOf]; omega
          · obtain rfl : j = d := by omega
            have cj := HCw.out wc HW2.out (q + a + j) hl1
            have hst := HF.out.stop
            go_wp2_with fail
            go_meet
            exact ⟨rfl, rfl, rfl⟩
      obtain ⟨rfl, rfl, rfl⟩ := hcut
      obtain ⟨p, hp⟩ : ∃ p, p = q + (a + d + z) := ⟨_, rfl⟩
      obtain ⟨sm, hsm⟩ : ∃ sm, sm = a + d + z := ⟨_, rfl⟩
      rw [← hsm] at h3
      have HRe2 := Lib.hid HRe.out
      rw [← hp] at HRe2
      have HP0 := Lib.hid hp
      have HSm := Lib.hid hsm
      have cq1 := HCw.out wc HW2.out (q + a + d) hl1
      have h58b := HF.out.last
      clear hp hsm HRe
      go_upto_if 157 with fail
      go_cut [6, 11] (fun i t wx => i = .int .i64 (p : Int) ∧ t = .int .i64 (sm : Int) ∧ HeadW w.heap.size N w wx)
      case first => as_aux_lemma =>
        rcases (show z = 0 ∨ z = 1 by omega) with rfl | rfl
        · have h58' : (bat l (q + a + d) == 58) = false := h58b
          clear h58b
          go_wp2_with fail
          go_meet
          exact ⟨congrArg (Value.int .i64) (by have := HP0.out; omega), congrArg (Value.int .i64) (by have := HSm.out; omega), HW2.out⟩
        · have h58' : (bat l (q + a + d) == 58) = true := h58b
          clear h58b
          obtain ⟨v, cv⟩ := HW2.out.nums.cells k hkN
          have fv := HW2.out.nums.froz k
          go_wp2_with fail
          go_meet
          exact ⟨congrArg (Value.int .i64) (by have := HP0.out; omega), congrArg (Value.int .i64) (by have := HSm.out; omega), HW2.out.set (Nat.le_refl _) k _⟩
      obtain ⟨rfl, rfl, hW3⟩ := hcut
      have HW3 := Lib.hid hW3
      have hqp2 : 0 < p := by have := HP0.out; omega
      clear hW3 h58b cq1
      have hd3 : ¬ ((sm : Int) < 3) := by omega
      rcases HRe2.out with ⟨hr0, hen, he10⟩ | ⟨he32, he124, hch2⟩
      · as_aux_lemma =>
        subst hr0
        have hpn : p < n := by have := bat_is he10 (by decide); rw [HLn.out] at this; exact this
        have cp := HCw.out wc HW3.out p hpn
        have g32 : (bat l p == 32) = false := by rw [he10]; rfl
        have g124 : (bat l p == 124) = false := by rw [he10]; rfl
        have g124' : (bat l p != 124) = true := by rw [he10]; rfl
        have g10 : (bat l p == 10) = true := by rw [he10]; rfl
        have gpn : ((p : Int) == (n : Int)) = false := by
          have : (p : Int) ≠ (n : Int) := by omega
          simpa using this
        have HE10 := Lib.hid he10
        have hk1 : k + 1 = cs.length := by simpa using hkr2
        clear he10
        go_upto_block 6 with fail
        go_cut [6] (fun i wx => i = .int .i64 (p : Int) ∧ wx = wc)
        case first => as_aux_lemma =>
          go_wp2_with fail
          go_loop [6] (fun i => i = .int .i64 (p : Int)) (fun _ => 0)
          case atStart => rfl
          case round =>
            subst hrel
            go_wp2_with fail
            go_meet
            exact ⟨rfl, rfl⟩
        obtain ⟨rfl, rfl⟩ := hcut
        cases pos with
        | false =>
          have hkm : (k : Int) + 1 < (N : Int) := by
            have h1 := HM.out
            simp only [Bool.false_eq_true, if_false] at h1
            omega
          go_wp2_with fail
          refine bodyPost_ret (v := .tuple #[.int .i64 0, .slice (some ⟨w.heap.size, 0, none⟩) N N]) (by simp [results, Tryz.results24, go_sem]) rfl ⟨0, w.heap.size, N, rfl, rfl, HW3.out.nums, Nat.le_refl _, by omega, (But.refl _ w).below HW3.out.below⟩
        | true =>
          have hkm : ¬ ((k : Int) + 1 < (N : Int)) := by
            have h1 := HM.out
            simp only [if_true] at h1
            omega
          go_wp2_with fail
          go_roundw
          case rel => exact ⟨p, k + 1, [], rfl, by go_num, HE10.out, by simpa using hk1, (fun x hx => by cases hx), hqp2, HW3.out⟩
          case measure => simp [intOf]; omega
      · as_aux_lemma =>
        obtain ⟨hp2n, g32c, _⟩ := chain_head hch2 (fun x hx => (HOr.out x hx).1)
        rw [HLn.out] at hp2n
        have hpn : p < n := by omega
        have hp1n : p + 1 < n := by omega
        have cp := HCw.out wc HW3.out p hpn
        have cp1 := HCw.out wc HW3.out (p + 1) hp1n
        have cp2 := HCw.out wc HW3.out (p + 2) hp2n
        have g32 : (bat l p == 32) = true := by rw [he32]; rfl
        have g32b : (bat l (p + 1) == 32) = false := by rw [he124]; rfl
        have g124 : (bat l (p + 1) == 124) = true := by rw [he124]; rfl
        have gpn : (((p + 1 : Nat) : Int) == (n : Int)) = false := by
          have : ((p + 1 : Nat) : Int) ≠ (n : Int) := by omega
          simpa using this
        have HEp := Lib.hid (HE.out wc HW3.out.below (p + 1) hp1n)
        have HCh2 := Lib.hid hch2
        clear he32 he124 hch2
        go_upto_block 6 with fail
        go_cut [6] (fun i wx => i = .int .i64 ((p + 1 : Nat) : Int) ∧ wx = wc)
        case first => as_aux_lemma =>
          go_wp2_with fail
          go_loop [6] (fun i => ∃ j : Nat, j ≤ 1 ∧ i = .int .i64 ((p + j : Nat) : Int)) (fun i => p + 1 - (intOf i).toNat)
          case atStart => exact ⟨0, by omega, rfl⟩
          case round =>
            obtain ⟨j, hj, rfl⟩ := hrel
            rcases (show j = 0 ∨ j = 1 by omega) with rfl | rfl
            · go_wp2_with fail
              go_round
              case rel => exact ⟨1, by omega, by go_num⟩
              case measure => simp [intOf]
            · go_wp2_with fail
              go_meet
              exact ⟨rfl, rfl⟩
        obtain ⟨rfl, rfl⟩ := hcut
        clear cp g32 g32b
        go_upto_block 9 with (go_at_call 28; refine HEp.out.mono ?_; rintro e w2 ⟨rfl, rfl⟩)
        go_cut [6] (fun i wx => i = .int .i64 ((p + 2 : Nat) : Int) ∧ wx = wc)
        case first => as_aux_lemma =>
          go_wp2_with fail
          go_loop [6] (fun i => i = .int .i64 ((p + 2 : Nat) : Int)) (fun _ => 0)
          case atStart => first | rfl | go_num
          case round =>
            subst hrel
            go_wp2_with fail
            go_meet
            exact ⟨rfl, rfl⟩
        obtain ⟨rfl, rfl⟩ := hcut
        clear cp1 g32c g124 gpn
        by_cases hN1 : k + 1 < N
        · have hN2' : ¬ ((N : Int) ≤ (k : Int) + 1) := by omega
          go_wp2_with fail
          go_roundw
          case rel => exact ⟨p + 2, k + 1, r, rfl, by go_num, HCh2.out, hkr2, HOr.out, by omega, HW3.out⟩
          case measure => simp [intOf]; omega
        · have hr0 : r = [] := List.eq_nil_of_length_eq_zero (by omega)
          subst hr0
          have e10 : bat l (p + 2) = 10 := HCh2.out
          have g10 : (bat l (p + 2) != 10) = false := by rw [e10]; rfl
          have hN2' : (N : Int) ≤ (k : Int) + 1 := by omega
          clear e10
          go_wp2_with fail
          go_roundw
          case rel => exact ⟨p + 2, k + 1, [], rfl, by go_num, HCh2.out, hkr2, HOr.out, by omega, HW3.out⟩
          case measure => simp [intOf]; omega

end Go.Proofs.YtlndmebmcjngfaaGreatDoor
