/- Definitions: isReference walked at a definition that is one. Condition: lengths are bounded; what scanLinkRef answers there is handed in. -/
import Derived.Test.YtlndmebmcjngfaaGreatDoorDefE
import Derived.Test.YtlndmebmcjngfaaGreatDoorDefF
import Derived.Test.YtlndmebmcjngfaaGreatDoorLineG
import Derived.Maps.OwnSet
import Derived.Maps.RangeWalk
namespace Go.Proofs.YtlndmebmcjngfaaGreatDoor
open Go.ChangeShapes Go.WideShapes Go.ChangeAt Go.RowKit Go.Maps Go.ChangeMaps Go.MapKept Go.WideMaps

theorem strLaw : Keyed Tryz.prog 9 := string_keyed Tryz.underlying9
/-- the one element: the new reference -/
def refElem (ρ : Nat) (v : Value) : Option (DataW Unit × List MemPlace) :=
  match v with
  | .pointer (some ⟨b, 0, none⟩) => if b = ρ then some (.lit (.bool true), []) else none
  | _ => none
theorem refElem_mk (ρ : Nat) : refElem ρ (.pointer (some ⟨ρ, 0, none⟩)) = some (.lit (.bool true), []) := by simp [refElem]
theorem refElem_inv {ρ : Nat} {v : Value} {y : DataW Unit × List MemPlace} (h : refElem ρ v = some y) : v = .pointer (some ⟨ρ, 0, none⟩) := by
  unfold refElem at h
  split at h
  · split at h
    · rename_i e; rw [e]
    · cases h
  · cases h
theorem ownsMap_empty {w : World} {r : Nat} (ρ : Nat) (h : w.heap[r]? = some (.map #[] 0)) : w.ownsMap Tryz.prog 9 (refElem ρ) r 0 (.map []) :=
  ⟨#[], 0, h, ⟨by simp, stamped_empty 0, by simp⟩, Nat.le_refl _, rfl⟩

theorem bat_win {l : List UInt8} {lo m j : Nat} (h : j < m) : bat ((l.drop lo).take m) j = bat l (lo + j) := by
  unfold bat
  simp only [List.getD, List.getElem?_take, if_pos h, List.getElem?_drop]
/-- a window of a text -/
theorem Bs.window {w : World} {b o n : Nat} {l : List UInt8} (h : Bs w (some ⟨b, o, none⟩) n l) (lo hi : Nat) (h1 : lo ≤ hi) (h2 : hi ≤ n) : Bs w (some ⟨b, o + lo, none⟩) (hi - lo) ((l.drop lo).take (hi - lo)) := by
  have hl := h.len
  refine ⟨by rw [List.length_take, List.length_drop]; omega, fun h0 => ?_⟩
  obtain ⟨b', o', e1, hb, hc⟩ := h.cells (by omega)
  cases e1
  refine ⟨b, o + lo, rfl, hb, fun i hi => ?_⟩
  rw [Nat.add_assoc, hc (lo + i) (by omega), bat_win hi]

theorem cell_of_block {w w' : World} {k i : Nat} (h : w'.heap[k]? = w.heap[k]?) : w'.cell? ⟨k, i, none⟩ = w.cell? ⟨k, i, none⟩ := by simp [World.cell?, h]
theorem Bs.block {w w' : World} {b o n : Nat} {l : List UInt8} (h : Bs w (some ⟨b, o, none⟩) n l) (e : w'.heap[b]? = w.heap[b]?) : Bs w' (some ⟨b, o, none⟩) n l := by
  refine ⟨h.len, fun h0 => ?_⟩
  obtain ⟨b', o', e1, hb, hc⟩ := h.cells h0
  cases e1
  refine ⟨b, o, rfl, ?_, fun i hi => by rw [cell_of_block e]; exact hc i hi⟩
  rw [Array.getElem?_eq_getElem hb] at e
  exact (Array.getElem?_eq_some_iff.1 e).1

/-- a reference was found and kept: the map r has one entry, the reference ρ, whose link and title can be read -/
def RefSaid (r n c : Nat) (p : Option Addr) (l : List UInt8) (w : World) (e : Ending) (w' : World) : Prop :=
  ∃ (le : Nat) (kl : List UInt8) (p1 p2 : Option Addr) (n1 n2 c1 c2 : Nat) (l1 l2 : List UInt8), e = .returned (.int .i64 (le : Int)) ∧ 0 < le ∧
    w'.ownsMap Tryz.prog 9 (refElem w.heap.size) r 1 ((DataW.map []).put (.string kl) (.lit (.bool true))) ∧ w.grownBy w' (some r) ∧
    w'.cell? ⟨w.heap.size, 0, none⟩ = some (.slice p1 n1 c1) ∧ w'.cell? ⟨w.heap.size, 1, none⟩ = some (.slice p2 n2 c2) ∧ w'.cell? ⟨w.heap.size, 2, none⟩ = some (.int .i64 0) ∧
    Bs w' p1 n1 l1 ∧ Bs w' p2 n2 l2

set_option maxHeartbeats 8000000 in
set_option maxRecDepth 100000 in
theorem isRef_yes (ext : Int) (B r b o n c s e f : Nat) (l : List UInt8) (w : World) (h : Bs w (some ⟨b, o, none⟩) n l) (hD : DefT l s e f) (hx : w.cell? ⟨B, 259, none⟩ = some (.int .i64 ext)) (hm : w.cell? ⟨B, 2, none⟩ = some (.map (some r))) (hr : w.heap[r]? = some (.map #[] 0)) (hBr : B ≠ r) (hbr : b ≠ r)
    (hnc : n ≤ c) (hn : n ≤ 1000000) (hscan : Calls Tryz.prog 46 #[.pointer (some ⟨B, 0, none⟩), .slice (some ⟨b, o, none⟩) n c, .int .i64 ((e + 3 : Nat) : Int)] w (ScanSaid (e + 3) f n w)) :
    Calls Tryz.prog 27 #[.pointer (some ⟨B, 0, none⟩), .slice (some ⟨b, o, none⟩) n c, .int .i64 4] w (RefSaid r n c (some ⟨b, o, none⟩) l w) := by
  have hl := h.len
  have hlen := hD.len
  rw [hl] at hlen
  have hs3 := hD.s3
  have hse := hD.se
  have hef := hD.ef
  have h4 : 4 ≤ n := by omega
  have hsn : s + 2 < n := by omega
  have hen : e + 3 < n := by omega
  have hfn : f ≤ n := by omega
  have hfc : f ≤ c := by omega
  have hec : e ≤ c := by omega
  have hcells : ∀ i, i < n → w.cell? ⟨b, o + i, none⟩ = some (.int .u8 (bat l i)) := by
    obtain ⟨b', o', e1, _, hc⟩ := h.cells (by omega)
    cases e1
    exact hc
  have HC := Lib.hid hcells
  have HZ := Lib.hid (fun C : Array Value => zzLower_any (some ⟨b, o + (s + 1), none⟩) (e - (s + 1)) (c - (s + 1)) ((l.drop (s + 1)).take (e - (s + 1))) (w.alloc (.cells C 75)) ((h.window (s + 1) e (by omega) (by omega)).below ((Below.refl _ _).alloc (Nat.le_refl _) _) (Nat.le_refl _)) (by omega) (fun j hj => by rw [bat_win (by omega)]; exact hD.id _ (by omega) (by omega)) (by omega))
  have HK := Lib.hid (show (str ((l.drop (s + 1)).take (e - (s + 1)))).size ≤ maxLen by
    have : (str ((l.drop (s + 1)).take (e - (s + 1)))).size ≤ l.length := by unfold str; simp [ByteArray.size]; omega
    unfold maxLen; omega)
  have HD := Lib.hid hD
  have HB := Lib.hid h
  have HS := Lib.hid hscan
  have HRl := Lib.hid (Array.getElem?_eq_some_iff.1 hr).1
  have HBl := Lib.hid (show b < w.heap.size by obtain ⟨b', o', e1, hb', _⟩ := h.cells (by omega); cases e1; exact hb')
  have HR := Lib.hid (ownsMap_empty w.heap.size hr)
  have cs := hcells s (by omega)
  rw [hD.open'] at cs
  have cs1 := hcells (s + 1) (by omega)
  have q1 : (bat l (s + 1) == 94) = false := (low_not (hD.id (s + 1) (by omega) (by omega))).2.2.1
  have ce := hcells e (by omega)
  rw [hD.close] at ce
  have ce1 := hcells (e + 1) (by omega)
  rw [hD.colon] at ce1
  have ce2 := hcells (e + 2) (by omega)
  rw [hD.gap] at ce2
  have ce3 := hcells (e + 3) (by omega)
  rw [hD.slash] at ce3
  clear h hcells hD hl hlen hscan hr
  go_enter Tryz.func27, Tryz.ntmps27
  go_upto_block 0 with fail
  go_cut [7] (fun t wx => t = .int .i64 (s : Int) ∧ w = wx)
  case first =>
    as_aux_lemma =>
      go_wp2_with fail
      go_loop [7] (fun t => ∃ k : Nat, k ≤ s ∧ t = .int .i64 k) (fun t => s - (intOf t).toNat)
      case atStart => exact ⟨0, Nat.zero_le _, rfl⟩
      case round =>
        obtain ⟨k, hk, rfl⟩ := hrel
        by_cases hlt : k < s
        · have ck := HC.out k (by omega)
          rw [HD.out.blank k hlt] at ck
          go_wp2_with fail
          go_round
          case rel => exact ⟨k + 1, by omega, by go_num⟩
          case measure => simp [intOf]; omega
        · obtain rfl : s = k := by omega
          go_wp2_with fail
          all_goals go_meet
          all_goals exact ⟨rfl, rfl⟩
  obtain ⟨rfl, rfl⟩ := hcut
  go_upto_if 46 with fail
  go_cut [7, 8] (fun t s8 wx => t = .int .i64 ((s + 1 : Nat) : Int) ∧ s8 = .int .i64 0 ∧ w = wx)
  case first =>
    as_aux_lemma =>
      cases hT : (bits .and .i64 ext 1024 != 0)
      all_goals
        go_wp2_with fail
        go_meet
        exact ⟨by go_num, rfl, rfl⟩
  obtain ⟨rfl, rfl, rfl⟩ := hcut
  go_upto_block 2 with fail
  go_cut [7] (fun t wx => t = .int .i64 (e : Int) ∧ w = wx)
  case first =>
    as_aux_lemma =>
      go_wp2_with fail
      go_loop [7] (fun t => ∃ k : Nat, s + 1 ≤ k ∧ k ≤ e ∧ t = .int .i64 k) (fun t => e - (intOf t).toNat)
      case atStart => exact ⟨s + 1, Nat.le_refl _, by omega, by first | rfl | go_num⟩
      case round =>
        obtain ⟨k, hk1, hk2, rfl⟩ := hrel
        by_cases hlt : k < e
        · have ck := HC.out k (by omega)
          obtain ⟨t1, t2, t3, t4, t5, t6⟩ := low_not (HD.out.id k (by omega) hlt)
          go_wp2_with fail
          go_round
          case rel => exact ⟨k + 1, by omega, by omega, by go_num⟩
          case measure => simp [intOf]; omega
        · obtain rfl : e = k := by omega
          go_wp2_with fail
          go_meet
          exact ⟨rfl, rfl⟩
  obtain ⟨rfl, rfl⟩ := hcut
  have q4 : ((s : Int) + 1 == (e : Int)) = false := by simp; omega
  go_upto_block 4 with fail
  go_cut [7] (fun t wx => t = .int .i64 ((e + 3 : Nat) : Int) ∧ w = wx)
  case first =>
    as_aux_lemma =>
      go_wp2_with fail
      refine wp_loop_rounds 2 ?_
      rw [rounds_succ]
      go_wp2_with fail
      rw [rounds_succ]
      go_wp2_with fail
      go_meet
      exact ⟨by go_num, rfl⟩
  obtain ⟨rfl, rfl⟩ := hcut
  go_upto_block 6 with fail
  go_cut [7] (fun t wx => t = .int .i64 ((e + 3 : Nat) : Int) ∧ w = wx)
  case first =>
    as_aux_lemma =>
      go_wp2_with fail
      refine wp_loop_rounds 1 ?_
      rw [rounds_succ]
      go_wp2_with fail
      go_meet
      exact ⟨by go_num, rfl⟩
  obtain ⟨rfl, rfl⟩ := hcut
  go_upto_region 41 with fail
  go_cut [216] (fun t wx => t = .bool false ∧ w = wx)
  case first =>
    as_aux_lemma =>
      cases hT : (bits .and .i64 ext 1024 != 0)
      all_goals
        go_wp2_with fail
        go_meet
        exact ⟨rfl, rfl⟩
  obtain ⟨rfl, rfl⟩ := hcut
  clear cs cs1 q1 ce ce1 ce2 ce3 q4 hx
  go_wp2_with fail
  refine HS.out.mono ?_
  rintro e1 w1 ⟨a, b2, le, rfl, hab, han, hbn, hle0, hle, rfl⟩
  have han2 : a ≠ c := by omega
  have hbc : b2 ≤ c := by omega
  have hef2 : e + 3 ≠ c := by omega
  have hs2 : s + 1 ≠ c := by omega
  clear HS
  have hle1 : ((le : Int) == 0) = false := by simp; omega
  go_wp2_with fail
  refine (HZ.out _).mono ?_
  rintro e2 w2 ⟨p2, c2, rfl, hBs2, hBel2⟩
  have HB2 := Lib.hid hBs2
  have HBel := Lib.hid hBel2
  have cv := hBs2.convert c2
  have hm2 : w2.cell? ⟨B, 2, none⟩ = some (.map (some r)) := by
    rw [hBel2.cell (p := ⟨B, 2, none⟩) (by have := World.block_lt_of_cell? w _ hm; simp at this ⊢; omega)]
    exact Lib.cell?_alloc_some _ hm
  have HO := Lib.hid ((HR.out.alloc _).kept (row := none) ⟨hBel2.os, hBel2.tape, hBel2.output, hBel2.size, fun i hi _ => hBel2.block i hi⟩ (by simp))
  clear hBs2 hBel2 HZ HR
  go_wp2_with (at_mapUpdate; refine wpList_mapUpdate_own _ rfl _ _ _ 65 rfl 9 73 strLaw Tryz.underlying65 _ r 0 _ rfl HO.out (by unfold maxLen; omega) _ _ _ rfl rfl (keyOf_string_mk Tryz.underlying9 HK.out) _ [] (refElem_mk _) ?_; intro w3 hown3 hgrow3)
  have HM := Lib.hid hown3
  have HG := Lib.hid hgrow3
  clear hown3 hgrow3 cv hm2
  go_wp2_with fail
  go_ret
  have hr2 := HRl.out
  have hb2 := HBl.out
  have hz2 := HBel.out.size
  have kb : ∀ k, k < w.heap.size → k ≠ r → w3.heap[k]? = w.heap[k]? := by
    intro k hk hne
    rw [HG.out.block k (by simp at hz2; omega) (by simpa using hne), HBel.out.block k (by simp; omega)]
    exact Below.heap_alloc _ _ _ hk
  have kn : ∀ i, w3.cell? ⟨w.heap.size, i, none⟩ = (w.alloc (.cells #[.slice (some ⟨b, o + (e + 3), none⟩) (f - (e + 3)) (c - (e + 3)), .slice (some ⟨b, o + a, none⟩) (b2 - a) (c - a), .int .i64 0, .bool false, .pointer none, .slice none 0 0] 75)).cell? ⟨w.heap.size, i, none⟩ := by
    intro i
    refine cell_of_block ?_
    rw [HG.out.block w.heap.size (by simp at hz2; omega) (by simp; omega), HBel.out.block w.heap.size (by simp)]
  refine ⟨le, _, some ⟨b, o + (e + 3), none⟩, some ⟨b, o + a, none⟩, f - (e + 3), b2 - a, c - (e + 3), c - a, _, _, rfl, hle0, HM.out, ?_, ?_, ?_, ?_, ((HB.out.window (e + 3) f (by omega) (by omega)).block (kb b hb2 hbr)), ((HB.out.window a b2 hab hbn).block (kb b hb2 hbr))⟩
  · exact (World.grownBy_alloc w _ (some r)).trans (World.grownBy.trans ⟨HBel.out.os, HBel.out.tape, HBel.out.output, HBel.out.size, fun i hi _ => HBel.out.block i hi⟩ HG.out)
  · rw [kn]; simp
  · rw [kn]; simp
  · rw [kn]; simp

end Go.Proofs.YtlndmebmcjngfaaGreatDoor
