/- The law laws.FnTreeOrder walked: it returns true. Condition: the steps lie in memory as they are read. -/
import Derived.Test.YtccofockeemmkaaRRTreeX
namespace Go.Proofs.YtccofockeemmkaaRR
open Go.ChangeShapes Go.WideShapes Go.ChangeAt Go.RowKit

theorem Steps.below {w w' : World} {p : Option Addr} {m : Nat} {S : Nat → Int × Int × Int} (h : Steps w p m S) (hb : Below w.heap.size w w') : Steps w' p m S := by
  refine ⟨fun hm => ?_⟩
  obtain ⟨b, o, hp, hlt, hc⟩ := h.cells hm
  refine ⟨b, o, hp, Nat.lt_of_lt_of_le hlt hb.size, fun i hi => ?_⟩
  rw [hb.cell (p := ⟨b, o + i * 3, none⟩) hlt, hb.cell (p := ⟨b, o + i * 3 + 1, none⟩) hlt, hb.cell (p := ⟨b, o + i * 3 + 2, none⟩) hlt]
  exact hc i hi
theorem Forest.start (w : World) : Forest (w.alloc (.cells #[.slice none 0 0, .slice none 0 0] 28)) w.heap.size w.heap.size 0 0 tr0.par (fun _ => []) (.slice none 0 0) (.slice none 0 0) (fun _ => .slice none 0 0) := by
  refine ⟨by simp, Nat.le_refl _, ?_, World.ownsRow_nil _ _ _ _, World.ownsRow_nil _ _ _ _, fun i hi => absurd hi (Nat.not_lt_zero i), fun i g hi => absurd hi (Nat.not_lt_zero i), fun i j g hi => absurd hi (Nat.not_lt_zero i)⟩
  show (w.heap.push _)[w.heap.size]? = _
  rw [Array.getElem?_push_size]

theorem row_cells {w w' : World} {B g n c : Nat} {t : Tr} (h : w.ownsRow B 37 5 (.slice (some ⟨g, 0, none⟩) n c) n (links t n)) (hb : Below w.heap.size w w') (y : Nat) (hy : y < n) :
    w'.cell? ⟨g, y * 5, none⟩ = some (.int .i64 (num1 (t.par y))) ∧ w'.cell? ⟨g, y * 5 + 1, none⟩ = some (.int .i64 (num1 (t.fst y))) ∧ w'.cell? ⟨g, y * 5 + 2, none⟩ = some (.int .i64 (num1 (t.lst y))) ∧ w'.cell? ⟨g, y * 5 + 3, none⟩ = some (.int .i64 (num1 (t.prv y))) ∧ w'.cell? ⟨g, y * 5 + 4, none⟩ = some (.int .i64 (num1 (t.nxt y))) := by
  obtain ⟨g', c', he, _, _, _, hlt, hcell⟩ := own_cellsN h (by omega)
  have hg : g' = g := by
    injection he with e1 _ _
    injection e1 with e1
    injection e1 with e1 _
    exact e1.symm
  subst hg
  have k : ∀ d x, d < 5 → (lcells t y)[d]? = some x → w'.cell? ⟨g', y * 5 + d, none⟩ = some x := fun d x hd hx => by
    rw [hb.cell (p := ⟨g', y * 5 + d, none⟩) hlt]
    exact hcell _ _ (by rw [links_at t n y d hy hd]; exact hx)
  exact ⟨k 0 _ (by decide) rfl, k 1 _ (by decide) rfl, k 2 _ (by decide) rfl, k 3 _ (by decide) rfl, k 4 _ (by decide) rfl⟩
theorem num1_lt {t : Tr} {n : Nat} {o : Option Nat} (h : ∀ x, o = some x → x < n) : num1 o < (n : Int) ∨ n = 0 := by
  cases o with
  | none => 
    by_cases e : n = 0
    · exact Or.inr e
    · exact Or.inl (by show (-1 : Int) < _; omega)
  | some x => exact Or.inl (by have := h x rfl; show (x : Int) < _; omega)

set_option maxHeartbeats 16000000 in
set_option maxRecDepth 100000 in
theorem order_any (p : Option Addr) (m c : Nat) (S : Nat → Int × Int × Int) (w : World) (hS : Steps w p m S) (hm : m ≤ 9223372036854775807) :
    Calls Try.prog 3 #[.slice p m c] w fun e w' => e = .returned (.bool true) ∧ Below w.heap.size w w' := by
  have HS := Lib.hid hS
  clear hS
  by_cases hbig : 2147483647 < m
  · go_enter Try.func3, Try.ntmps3
    go_wp2_with fail
    go_ret
    exact ⟨rfl, Below.refl _ _⟩
  by_cases hbig2 : 100 < m
  · go_enter Try.func3, Try.ntmps3
    go_wp2_with fail
    refine (treeAwake_any w).mono ?_
    rintro e w1 ⟨rfl, L1⟩
    have L1 := Lib.hid L1
    go_wp2_with fail
    go_ret
    exact ⟨rfl, L1.out⟩
  have F0 := Lib.hid (Forest.start w)
  go_enter Try.func3, Try.ntmps3
  go_wp2_with fail
  go_loopw [24] (fun t wr => ∃ (i n : Nat) (tr : Tr) (dn : Nat → List Nat) (upv dnv : Value) (rv : Nat → Value), i ≤ m ∧ t = .int .i64 i ∧ n ≤ i ∧ Trace S i n tr ∧ Forest wr w.heap.size w.heap.size n n tr.par dn upv dnv rv ∧ Fp n tr.par dn ∧ Below w.heap.size w wr) (fun t _ => m - (intOf t).toNat)
  case atStart => exact ⟨0, 0, tr0, _, _, _, _, Nat.zero_le _, rfl, Nat.le_refl _, Trace.start, F0.out, Fp.start, (Below.refl _ _).alloc (Nat.le_refl _) _⟩
  case round =>
    obtain ⟨i, n, tr, dn, upv, dnv, rv, hi, rfl, hn, hT, hF, hP, hB⟩ := hrel
    by_cases hlt : i < m
    · obtain ⟨b, o, rfl, hb, hc⟩ := HS.out.cells (by omega)
      obtain ⟨c0, c1, c2⟩ := hc i hlt
      have hsz := hB.size
      have d0 := (hB.cell (p := ⟨b, o + i * 3, none⟩) hb).trans c0
      have d1 := (hB.cell (p := ⟨b, o + i * 3 + 1, none⟩) hb).trans c1
      have d2 := (hB.cell (p := ⟨b, o + i * 3 + 2, none⟩) hb).trans c2
      have HS3 := Lib.hid (fun ob : Obj => fstep_any (S i).1 (S i).2.1 (S i).2.2 (hF.alloc ob) hP (by omega))
      have HT := Lib.hid hT
      have HB := Lib.hid hB
      clear c0 c1 c2 hc hT hF hP hB F0
      go_wp2_with fail
      refine (HS3.out _).mono ?_
      rintro e w1 ⟨r, rfl, hr, L⟩
      have HR := Lib.hid hr
      have L := Lib.hid ((HB.out.alloc hsz _).trans L)
      clear hr HS3 d0 d1 d2 HB
      cases r with
      | false =>
        have hAw := Lib.hid (treeAwake_any w1)
        go_wp2_with fail
        refine hAw.out.mono ?_
        rintro e w2 ⟨rfl, L2⟩
        have L2 := Lib.hid L2
        have hs2 := L.out.size
        go_wp2_with fail
        go_ret
        exact ⟨rfl, L.out.trans (L2.out.mono hs2)⟩
      | true =>
        obtain ⟨n', up', dn', upv', dnv', rv', G, GP, hn', hex⟩ := HR.out rfl
        obtain ⟨t', ht', hpar⟩ := hex tr rfl
        have G := Lib.hid G
        have HG := Lib.hid hpar
        have GP := Lib.hid GP
        have HT' := Lib.hid (Trace.step HT.out ht')
        clear ht' hex hpar HR HT
        go_wp2_with fail
        go_roundw
        case rel => exact ⟨i + 1, n', t', dn', upv', dnv', rv', by omega, by go_num, by omega, HT'.out, by rw [HG.out]; exact G.out, by rw [HG.out]; exact GP.out, L.out⟩
        case measure => simp [intOf]; omega
    · have hie : i = m := by omega
      subst hie
      obtain ⟨nn, tt, h0, h1, hf, _, _⟩ := hT.run
      have hgood := run_good h0 h1 hf
      have HRun := Lib.hid (treeRun_any p i c S nn tt wr (HS.out.below hB) h0 h1 hf (fun j hj => by have := (hgood j hj).2.2; omega) (by omega))
      have HB := Lib.hid hB
      have hsz := hB.size
      have HGood := Lib.hid hgood
      clear hT hF hP hB F0 hf hgood h0 h1
      go_wp2_with fail
      refine HRun.out.mono ?_
      rintro e w1 ⟨v, rows, rfl, hO, hR, L1⟩
      have hsz1 := L1.size
      obtain ⟨pv, cv, rfl, hcv, hcv2⟩ := own_slice hO
      have HO := Lib.hid hO
      have HR := Lib.hid hR
      have L1 := Lib.hid L1
      clear HRun hO hR
      go_wp2_with fail
      go_loopw [37] (fun t w2 => ∃ j : Nat, j ≤ i ∧ t = .int .i64 j ∧ Below w1.heap.size w1 w2) (fun t _ => i - (intOf t).toNat)
      case atStart => exact ⟨0, Nat.zero_le _, rfl, Below.refl _ _⟩
      case round =>
        obtain ⟨j, hj, rfl, hB2⟩ := hrel
        have hs2 := hB2.size
        by_cases hji : j < i
        · obtain ⟨gv, cv2, hve, _, _, _, hgl, hvc⟩ := own_cellsN HO.out (by omega)
          obtain ⟨rfl, rfl⟩ : pv = some ⟨gv, 0, none⟩ ∧ cv = cv2 := by
            injection hve with e1 _ e3
            exact ⟨e1, e3⟩
          obtain ⟨r, hr⟩ : ∃ r, rows[j]? = some r := ⟨_, List.getElem?_eq_getElem (by rw [HR.out.1]; exact hji)⟩
          have cr := (hB2.cell (p := ⟨gv, j, none⟩) hgl).trans (hvc j r hr)
          have hrow := HR.out.2 j r hr
          obtain ⟨pr, cr2, rfl, hcr, hcr2⟩ := own_slice hrow
          obtain ⟨hag, hwi, hnj⟩ := HGood.out (j + 1) (by omega)
          have HRow := Lib.hid hrow
          have HAg := Lib.hid hag
          have HWi := Lib.hid hwi
          have HB2 := Lib.hid hB2
          clear hvc hr hrow hag hwi hB2 hve
          go_wp2_with fail
          go_loopw [45] (fun t w2 => ∃ k : Nat, k ≤ nn (j + 1) ∧ t = .int .i64 k ∧ Below w1.heap.size w1 w2) (fun t _ => nn (j + 1) - (intOf t).toNat)
          case atStart => exact ⟨0, Nat.zero_le _, rfl, HB2.out⟩
          case round =>
            obtain ⟨k, hk, rfl, hB3⟩ := hrel
            have hs3 := hB3.size
            by_cases hkn : k < nn (j + 1)
            · obtain ⟨g2, cr3, hre, _, _, _, hgl2, _⟩ := own_cellsN HRow.out (by omega)
              obtain ⟨rfl, rfl⟩ : pr = some ⟨g2, 0, none⟩ ∧ cr2 = cr3 := by
                injection hre with e1 _ e3
                exact ⟨e1, e3⟩
              obtain ⟨k0, k1, k2, k3, k4⟩ := row_cells HRow.out hB3 k hkn
              have HB3 := Lib.hid hB3
              clear hB3 hre
              have n0 := num1_wf ((tt (j + 1)).par k)
              have n1 := num1_wf ((tt (j + 1)).fst k)
              have n2 := num1_wf ((tt (j + 1)).lst k)
              have n3 := num1_wf ((tt (j + 1)).prv k)
              have n4 := num1_wf ((tt (j + 1)).nxt k)
              have m0 : num1 ((tt (j + 1)).par k) < (nn (j + 1) : Int) := (num1_lt (t := tr0) (fun x hx => (HWi.out.b1 k x hx).2)).elim id (fun e => by omega)
              have m1 : num1 ((tt (j + 1)).fst k) < (nn (j + 1) : Int) := (num1_lt (t := tr0) (fun x hx => (HWi.out.b2 k x hx).2)).elim id (fun e => by omega)
              have m2 : num1 ((tt (j + 1)).lst k) < (nn (j + 1) : Int) := (num1_lt (t := tr0) (fun x hx => (HWi.out.b3 k x hx).2)).elim id (fun e => by omega)
              have m3 : num1 ((tt (j + 1)).prv k) < (nn (j + 1) : Int) := (num1_lt (t := tr0) (fun x hx => (HWi.out.b4 k x hx).2)).elim id (fun e => by omega)
              have m4 : num1 ((tt (j + 1)).nxt k) < (nn (j + 1) : Int) := (num1_lt (t := tr0) (fun x hx => (HWi.out.b5 k x hx).2)).elim id (fun e => by omega)
              go_wp2_with fail
              go_loop [62] (fun t => ∃ q : Nat, q ≤ 5 ∧ t = .int .i64 q) (fun t => 5 - (intOf t).toNat)
              case atStart => exact ⟨0, Nat.zero_le _, rfl⟩
              case round =>
                obtain ⟨q, hq, rfl⟩ := hrel
                by_cases hq5 : q < 5
                · clear hq
                  rcases (show q = 0 ∨ q = 1 ∨ q = 2 ∨ q = 3 ∨ q = 4 by omega) with rfl | rfl | rfl | rfl | rfl
                  · go_wp2_with fail
                    go_round
                    case rel => exact ⟨1, by omega, by go_num⟩
                    case measure => simp [intOf]
                  · go_wp2_with fail
                    go_round
                    case rel => exact ⟨2, by omega, by go_num⟩
                    case measure => simp [intOf]
                  · go_wp2_with fail
                    go_round
                    case rel => exact ⟨3, by omega, by go_num⟩
                    case measure => simp [intOf]
                  · go_wp2_with fail
                    go_round
                    case rel => exact ⟨4, by omega, by go_num⟩
                    case measure => simp [intOf]
                  · go_wp2_with fail
                    go_round
                    case rel => exact ⟨5, by omega, by go_num⟩
                    case measure => simp [intOf]
                · have hqe : q = 5 := by omega
                  subst hqe
                  clear hq hq5 m0 m1 m2 m3 m4 n0 n1 n2 n3 n4
                  have HC := Lib.hid (fun (o o2 : Obj) (y : Nat) (hy : y < nn (j + 1)) => row_cells HRow.out ((HB3.out.alloc hs3 o).alloc (by simp; omega) o2) y hy)
                  have hFL : ((tt (j + 1)).fst k = none ∧ (tt (j + 1)).lst k = none) ∨ ∃ f l, (tt (j + 1)).fst k = some f ∧ (tt (j + 1)).lst k = some l ∧ f < nn (j + 1) ∧ l < nn (j + 1) ∧ (tt (j + 1)).par f = some k ∧ (tt (j + 1)).prv f = none ∧ (tt (j + 1)).par l = some k ∧ (tt (j + 1)).nxt l = none := by
                    cases e1 : (tt (j + 1)).fst k with
                    | none => exact Or.inl ⟨rfl, (HAg.out.j8 k).1 e1⟩
                    | some f =>
                      cases e2 : (tt (j + 1)).lst k with
                      | none => exact absurd ((HAg.out.j8 k).2 e2) (by rw [e1]; exact fun h => by cases h)
                      | some l => exact Or.inr ⟨f, l, rfl, rfl, (HWi.out.b2 k f e1).2, (HWi.out.b3 k l e2).2, (HAg.out.j1 k f e1).1, (HAg.out.j1 k f e1).2, (HAg.out.j2 k l e2).1, (HAg.out.j2 k l e2).2⟩
                  have hX : (tt (j + 1)).nxt k = none ∨ ∃ y, (tt (j + 1)).nxt k = some y ∧ y < nn (j + 1) ∧ (tt (j + 1)).prv y = some k ∧ (tt (j + 1)).par y = (tt (j + 1)).par k := by
                    cases e1 : (tt (j + 1)).nxt k with
                    | none => exact Or.inl rfl
                    | some y => exact Or.inr ⟨y, rfl, (HWi.out.b5 k y e1).2, (HAg.out.j3 k y e1).1, (HAg.out.j3 k y e1).2⟩
                  have hV : (tt (j + 1)).prv k = none ∨ ∃ z, (tt (j + 1)).prv k = some z ∧ z < nn (j + 1) ∧ (tt (j + 1)).nxt z = some k := by
                    cases e1 : (tt (j + 1)).prv k with
                    | none => exact Or.inl rfl
                    | some z => exact Or.inr ⟨z, rfl, (HWi.out.b4 k z e1).2, (HAg.out.j4 k z e1).1⟩
                  have hFL := Lib.hid hFL
                  have hX := Lib.hid hX
                  have hV := Lib.hid hV
                  rcases hFL.out with ⟨h1, h2⟩ | ⟨f, l, h1, h2, hf, hl, g1, g2p, g3, g4⟩
                  · have e1 : num1 ((tt (j + 1)).fst k) = -1 := by rw [h1]; rfl
                    have e2 : num1 ((tt (j + 1)).lst k) = -1 := by rw [h2]; rfl
                    clear h1 h2
                    go_upto_region 27 with fail
                    rcases hX.out with h3 | ⟨y, h3, hy, h4, h5⟩
                    · rcases hV.out with h6 | ⟨z, h6, hz, h7⟩
                      · have x1 : num1 ((tt (j + 1)).nxt k) = -1 := by rw [h3]; rfl
                        have x2 : num1 ((tt (j + 1)).prv k) = -1 := by rw [h6]; rfl
                        clear h3 h6
                        go_quiet (fail)
                        go_wp2_with fail
                        go_roundw
                        case rel => exact ⟨k + 1, by omega, by go_num, Go.Proofs.YtccofockeemmkaaRR.Below.drewN ((HB3.out.alloc hs3 _).alloc (by simp; omega) _) nq⟩
                        case measure => simp [intOf]; omega
                      · have x1 : num1 ((tt (j + 1)).nxt k) = -1 := by rw [h3]; rfl
                        have x2 : num1 ((tt (j + 1)).prv k) = (z : Int) := by rw [h6]; rfl
                        have z1 := fun o o2 => (HC.out o o2 z hz).2.2.2.2
                        rw [h7] at z1
                        have ek : num1 (some k) = (k : Int) := rfl
                        rw [ek] at z1
                        clear h3 h6 h7 ek
                        go_quiet (fail)
                        go_wp2_with fail
                        go_roundw
                        case rel => exact ⟨k + 1, by omega, by go_num, Go.Proofs.YtccofockeemmkaaRR.Below.drewN ((HB3.out.alloc hs3 _).alloc (by simp; omega) _) nq⟩
                        case measure => simp [intOf]; omega
                    · rcases hV.out with h6 | ⟨z, h6, hz, h7⟩
                      · have x1 : num1 ((tt (j + 1)).nxt k) = (y : Int) := by rw [h3]; rfl
                        have y1 := fun o o2 => (HC.out o o2 y hy).2.2.2.1
                        have y0 := fun o o2 => (HC.out o o2 y hy).1
                        rw [h4] at y1
                        rw [h5] at y0
                        have ek : num1 (some k) = (k : Int) := rfl
                        rw [ek] at y1
                        have x2 : num1 ((tt (j + 1)).prv k) = -1 := by rw [h6]; rfl
                        clear h3 h6 h4 h5 ek
                        go_quiet (fail)
                        go_wp2_with fail
                        go_roundw
                        case rel => exact ⟨k + 1, by omega, by go_num, Go.Proofs.YtccofockeemmkaaRR.Below.drewN ((HB3.out.alloc hs3 _).alloc (by simp; omega) _) nq⟩
                        case measure => simp [intOf]; omega
                      · have x1 : num1 ((tt (j + 1)).nxt k) = (y : Int) := by rw [h3]; rfl
                        have y1 := fun o o2 => (HC.out o o2 y hy).2.2.2.1
                        have y0 := fun o o2 => (HC.out o o2 y hy).1
                        rw [h4] at y1
                        rw [h5] at y0
                        have ek : num1 (some k) = (k : Int) := rfl
                        rw [ek] at y1
                        have x2 : num1 ((tt (j + 1)).prv k) = (z : Int) := by rw [h6]; rfl
                        have z1 := fun o o2 => (HC.out o o2 z hz).2.2.2.2
                        rw [h7] at z1
                        rw [ek] at z1
                        clear h3 h6 h4 h5 ek h7
                        go_quiet (fail)
                        go_wp2_with fail
                        go_roundw
                        case rel => exact ⟨k + 1, by omega, by go_num, Go.Proofs.YtccofockeemmkaaRR.Below.drewN ((HB3.out.alloc hs3 _).alloc (by simp; omega) _) nq⟩
                        case measure => simp [intOf]; omega
                  · have e1 : num1 ((tt (j + 1)).fst k) = (f : Int) := by rw [h1]; rfl
                    have e2 : num1 ((tt (j + 1)).lst k) = (l : Int) := by rw [h2]; rfl
                    have ek : num1 (some k) = (k : Int) := rfl
                    have em : num1 none = -1 := rfl
                    have f0 := fun o o2 => (HC.out o o2 f hf).1
                    have f3 := fun o o2 => (HC.out o o2 f hf).2.2.2.1
                    have l0 := fun o o2 => (HC.out o o2 l hl).1
                    have l4 := fun o o2 => (HC.out o o2 l hl).2.2.2.2
                    rw [g1, ek] at f0
                    rw [g2p, em] at f3
                    rw [g3, ek] at l0
                    rw [g4, em] at l4
                    clear h1 h2 g1 g2p g3 g4 ek em
                    go_upto_region 27 with fail
                    rcases hX.out with h3 | ⟨y, h3, hy, h4, h5⟩
                    · rcases hV.out with h6 | ⟨z, h6, hz, h7⟩
                      · have x1 : num1 ((tt (j + 1)).nxt k) = -1 := by rw [h3]; rfl
                        have x2 : num1 ((tt (j + 1)).prv k) = -1 := by rw [h6]; rfl
                        clear h3 h6
                        go_quiet (fail)
                        go_wp2_with fail
                        go_roundw
                        case rel => exact ⟨k + 1, by omega, by go_num, Go.Proofs.YtccofockeemmkaaRR.Below.drewN ((HB3.out.alloc hs3 _).alloc (by simp; omega) _) nq⟩
                        case measure => simp [intOf]; omega
                      · have x1 : num1 ((tt (j + 1)).nxt k) = -1 := by rw [h3]; rfl
                        have x2 : num1 ((tt (j + 1)).prv k) = (z : Int) := by rw [h6]; rfl
                        have z1 := fun o o2 => (HC.out o o2 z hz).2.2.2.2
                        rw [h7] at z1
                        have ek : num1 (some k) = (k : Int) := rfl
                        rw [ek] at z1
                        clear h3 h6 h7 ek
                        go_quiet (fail)
                        go_wp2_with fail
                        go_roundw
                        case rel => exact ⟨k + 1, by omega, by go_num, Go.Proofs.YtccofockeemmkaaRR.Below.drewN ((HB3.out.alloc hs3 _).alloc (by simp; omega) _) nq⟩
                        case measure => simp [intOf]; omega
                    · rcases hV.out with h6 | ⟨z, h6, hz, h7⟩
                      · have x1 : num1 ((tt (j + 1)).nxt k) = (y : Int) := by rw [h3]; rfl
                        have y1 := fun o o2 => (HC.out o o2 y hy).2.2.2.1
                        have y0 := fun o o2 => (HC.out o o2 y hy).1
                        rw [h4] at y1
                        rw [h5] at y0
                        have ek : num1 (some k) = (k : Int) := rfl
                        rw [ek] at y1
                        have x2 : num1 ((tt (j + 1)).prv k) = -1 := by rw [h6]; rfl
                        clear h3 h6 h4 h5 ek
                        go_quiet (fail)
                        go_wp2_with fail
                        go_roundw
                        case rel => exact ⟨k + 1, by omega, by go_num, Go.Proofs.YtccofockeemmkaaRR.Below.drewN ((HB3.out.alloc hs3 _).alloc (by simp; omega) _) nq⟩
                        case measure => simp [intOf]; omega
                      · have x1 : num1 ((tt (j + 1)).nxt k) = (y : Int) := by rw [h3]; rfl
                        have y1 := fun o o2 => (HC.out o o2 y hy).2.2.2.1
                        have y0 := fun o o2 => (HC.out o o2 y hy).1
                        rw [h4] at y1
                        rw [h5] at y0
                        have ek : num1 (some k) = (k : Int) := rfl
                        rw [ek] at y1
                        have x2 : num1 ((tt (j + 1)).prv k) = (z : Int) := by rw [h6]; rfl
                        have z1 := fun o o2 => (HC.out o o2 z hz).2.2.2.2
                        rw [h7] at z1
                        rw [ek] at z1
                        clear h3 h6 h4 h5 ek h7
                        go_quiet (fail)
                        go_wp2_with fail
                        go_roundw
                        case rel => exact ⟨k + 1, by omega, by go_num, Go.Proofs.YtccofockeemmkaaRR.Below.drewN ((HB3.out.alloc hs3 _).alloc (by simp; omega) _) nq⟩
                        case measure => simp [intOf]; omega
            · have hke : k = nn (j + 1) := by omega
              subst hke
              have HB3 := Lib.hid hB3
              clear hB3
              go_wp2_with fail
              go_roundw
              case rel => exact ⟨j + 1, by omega, by go_num, HB3.out⟩
              case measure => simp [intOf]; omega
        · have hje : j = i := by omega
          subst hje
          have HB2 := Lib.hid hB2
          have hAw := Lib.hid (treeAwake_any wr)
          clear hB2
          go_wp2_with fail
          refine hAw.out.mono ?_
          rintro e w2 ⟨rfl, L2⟩
          have L2 := Lib.hid L2
          go_wp2_with fail
          go_ret
          exact ⟨rfl, HB.out.trans ((L1.out.mono hsz).trans ((HB2.out.mono (Nat.le_trans hsz hsz1)).trans (L2.out.mono (Nat.le_trans hsz (Nat.le_trans hsz1 hs2)))))⟩

end Go.Proofs.YtccofockeemmkaaRR
