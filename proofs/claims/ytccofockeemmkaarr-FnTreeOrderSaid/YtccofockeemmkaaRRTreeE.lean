/- Trees: InsertBefore walked. Conditions: the nodes agree with one another; the node has a parent behind the unlinking. -/
import Derived.Test.YtccofockeemmkaaRRTreeD
import Derived.Deep.CutBlock
namespace Go.Proofs.YtccofockeemmkaaRR
open Go.ChangeShapes Go.WideShapes Go.ChangeAt Go.RowKit

set_option maxHeartbeats 4000000 in
set_option maxRecDepth 100000 in
theorem insert_any (T C : Nat) (A : Nat → Nat) (n : Nat) (t : Tr) (w : World) (i s : Nat) (h : Nodes w T C A n t) (hg : Agree t) (hW : Within t n) (hi : i < n) (hs : s < n) (hC : 6 ≤ C) (hpar : (unl t s).par i ≠ none) :
    Calls Try.prog 13 #[.pointer (some ⟨A i, 0, none⟩), .pointer (some ⟨A s, 0, none⟩)] w fun e w' => e = .returned (.tuple #[]) ∧ Nodes w' T C A n (ins (unl t s) i s) ∧ Kept A n w w' := by
  have cu := unlink_any T C A n t w s h hg hW hs hC
  have hW1 := unl_within hW s
  have hroot := unl_root (t := t) s
  obtain ⟨t1, ht⟩ : ∃ t1, t1 = unl t s := ⟨_, rfl⟩
  rw [← ht] at cu hW1 hroot hpar ⊢
  have CU := Lib.hid cu
  clear ht cu
  have hne : ¬ s = i := by rintro rfl; exact hpar hroot
  obtain ⟨q, hq⟩ : ∃ q, t1.par i = some q := by
    cases hx : t1.par i with
    | none => exact absurd hx hpar
    | some q => exact ⟨q, rfl⟩
  have hqb := (hW1.b1 i q hq).2
  clear hpar hroot
  have HNE := Lib.hid hne
  go_enter Try.func13, Try.ntmps13
  go_wp2_with fail
  refine CU.out.mono ?_
  rintro e w1 ⟨rfl, hN, hK⟩
  rcases hp : t1.prv i with _ | p
  · skip
    have k4 : w1.cell? ⟨A i, 4, none⟩ = some (.pointer none) := (hN.c4 hi hC).trans (by rw [hp]; rfl)
    obtain ⟨u0, g0⟩ : ∃ u, w1.cell? ⟨A s, 4, none⟩ = some (.pointer u) := ⟨_, hN.c4 hs hC⟩
    have fg := hN.frozen hs 4
    have HS := Lib.hid (And.intro (hN.s4 hs none) (hK.set s 4 hs (.pointer none)))
    go_upto_region 1 with fail
    go_cut [] (fun wx => Nodes wx T C A n ⟨t1.par, t1.fst, t1.lst, upd t1.prv s none, t1.nxt⟩ ∧ Kept A n w wx)
    case first =>
      go_wp2_with fail
      go_meet
      exact HS.out
    case rest =>
     clear HS g0 fg k4
     obtain ⟨hN1, hK1⟩ := hcut
     have k4 : wc.cell? ⟨A s, 4, none⟩ = some (.pointer none) := (hN1.c4 hs hC).trans (by show some (pt A (upd t1.prv s none s)) = _; simp [upd, pt])
     obtain ⟨u0, g0⟩ : ∃ u, wc.cell? ⟨A s, 5, none⟩ = some (.pointer u) := ⟨_, hN1.c5 hs hC⟩
     have fg := hN1.frozen hs 5
     have HS := Lib.hid (And.intro (hN1.s5 hs (some i)) (hK1.set s 5 hs (.pointer (some ⟨A i, 0, none⟩))))
     go_upto_region 4 with fail
     go_cut [] (fun wx => Nodes wx T C A n ⟨t1.par, t1.fst, t1.lst, (upd t1.prv s none), (upd t1.nxt s (some i))⟩ ∧ Kept A n w wx)
     case first =>
       go_wp2_with fail
       go_meet
       exact HS.out
     case rest =>
      rename_i w3
      clear HS g0 fg k4
      obtain ⟨hN2, hK2⟩ := hcut
      obtain ⟨u0, g0⟩ : ∃ u, wc.cell? ⟨A i, 4, none⟩ = some (.pointer u) := ⟨_, hN2.c4 hi hC⟩
      have fg := hN2.frozen hi 4
      have HS := Lib.hid (And.intro (hN2.s4 hi (some s)) (hK2.set i 4 hi (.pointer (some ⟨A s, 0, none⟩))))
      go_upto_region 5 with fail
      go_cut [] (fun wx => Nodes wx T C A n ⟨t1.par, t1.fst, t1.lst, (upd (upd t1.prv s none) i (some s)), (upd t1.nxt s (some i))⟩ ∧ Kept A n w wx)
      case first =>
        go_wp2_with fail
        go_meet
        exact HS.out
      case rest =>
       clear HS g0 fg
       obtain ⟨hN3, hK3⟩ := hcut
       have k1 : wc.cell? ⟨A i, 1, none⟩ = some (.pointer (some ⟨A q, 0, none⟩)) := (hN3.c1 hi hC).trans (by show some (pt A (t1.par i)) = _; rw [hq]; rfl)
       obtain ⟨u0, g0⟩ : ∃ u, wc.cell? ⟨A s, 1, none⟩ = some (.pointer u) := ⟨_, hN3.c1 hs hC⟩
       have fg := hN3.frozen hs 1
       have HS := Lib.hid (And.intro (hN3.s1 hs (some q)) (hK3.set s 1 hs (.pointer (some ⟨A q, 0, none⟩))))
       go_upto_region 6 with fail
       go_cut [] (fun wx => Nodes wx T C A n ⟨upd t1.par s (some q), t1.fst, t1.lst, (upd (upd t1.prv s none) i (some s)), (upd t1.nxt s (some i))⟩ ∧ Kept A n w wx)
       case first =>
         go_wp2_with fail
         go_meet
         exact HS.out
       case rest =>
        clear HS g0 fg k1
        obtain ⟨hN4, hK4⟩ := hcut
        have k4 : wc.cell? ⟨A s, 4, none⟩ = some (.pointer none) := (hN4.c4 hs hC).trans (by show some (pt A ((upd (upd t1.prv s none) i (some s)) s)) = _; simp [upd, pt, HNE.out])
        have k1 : wc.cell? ⟨A s, 1, none⟩ = some (.pointer (some ⟨A q, 0, none⟩)) := (hN4.c1 hs hC).trans (by show some (pt A (upd t1.par s (some q) s)) = _; simp [upd, pt])
        obtain ⟨u0, g0⟩ : ∃ u, wc.cell? ⟨A q, 2, none⟩ = some (.pointer u) := ⟨_, hN4.c2 hqb hC⟩
        have fg := hN4.frozen hqb 2
        have HF := Lib.hid (And.intro (hN4.s2 hqb (some s)) (hK4.set q 2 hqb (.pointer (some ⟨A s, 0, none⟩))))
        go_wp2_with fail
        refine bodyPost_end0 rfl rfl ⟨rfl, ?_, HF.out.2⟩
        unfold ins
        rw [hp, hq]
        exact HF.out.1
  · have hpb := (hW1.b4 i p hp).2
    have k4 : w1.cell? ⟨A i, 4, none⟩ = some (.pointer (some ⟨A p, 0, none⟩)) := (hN.c4 hi hC).trans (by rw [hp]; rfl)
    obtain ⟨u0, g0⟩ : ∃ u, w1.cell? ⟨A s, 4, none⟩ = some (.pointer u) := ⟨_, hN.c4 hs hC⟩
    have fg := hN.frozen hs 4
    have HS := Lib.hid (And.intro (hN.s4 hs (some p)) (hK.set s 4 hs (.pointer (some ⟨A p, 0, none⟩))))
    go_upto_region 1 with fail
    go_cut [] (fun wx => Nodes wx T C A n ⟨t1.par, t1.fst, t1.lst, upd t1.prv s (some p), t1.nxt⟩ ∧ Kept A n w wx)
    case first =>
      go_wp2_with fail
      go_meet
      exact HS.out
    case rest =>
     clear HS g0 fg k4
     obtain ⟨hN1, hK1⟩ := hcut
     have k4 : wc.cell? ⟨A s, 4, none⟩ = some (.pointer (some ⟨A p, 0, none⟩)) := (hN1.c4 hs hC).trans (by show some (pt A (upd t1.prv s (some p) s)) = _; simp [upd, pt])
     obtain ⟨u1, g1⟩ : ∃ u, wc.cell? ⟨A p, 5, none⟩ = some (.pointer u) := ⟨_, hN1.c5 hpb hC⟩
     have fg1 := hN1.frozen hpb 5
     have h2 := hN1.s5 hpb (some s)
     have q2 := hK1.set p 5 hpb (.pointer (some ⟨A s, 0, none⟩))
     obtain ⟨u0, g0⟩ : ∃ u, (wc.setCell ⟨A p, 5, none⟩ (.pointer (some ⟨A s, 0, none⟩))).cell? ⟨A s, 5, none⟩ = some (.pointer u) := ⟨_, h2.c5 hs hC⟩
     have fg := hN1.frozen hs 5
     have HS := Lib.hid (And.intro (h2.s5 hs (some i)) (q2.set s 5 hs (.pointer (some ⟨A i, 0, none⟩))))
     clear h2 q2
     go_upto_region 4 with fail
     go_cut [] (fun wx => Nodes wx T C A n ⟨t1.par, t1.fst, t1.lst, (upd t1.prv s (some p)), (upd (upd t1.nxt p (some s)) s (some i))⟩ ∧ Kept A n w wx)
     case first =>
       go_wp2_with fail
       go_meet
       exact HS.out
     case rest =>
      rename_i w3
      clear HS g0 fg k4 g1 fg1
      obtain ⟨hN2, hK2⟩ := hcut
      obtain ⟨u0, g0⟩ : ∃ u, wc.cell? ⟨A i, 4, none⟩ = some (.pointer u) := ⟨_, hN2.c4 hi hC⟩
      have fg := hN2.frozen hi 4
      have HS := Lib.hid (And.intro (hN2.s4 hi (some s)) (hK2.set i 4 hi (.pointer (some ⟨A s, 0, none⟩))))
      go_upto_region 5 with fail
      go_cut [] (fun wx => Nodes wx T C A n ⟨t1.par, t1.fst, t1.lst, (upd (upd t1.prv s (some p)) i (some s)), (upd (upd t1.nxt p (some s)) s (some i))⟩ ∧ Kept A n w wx)
      case first =>
        go_wp2_with fail
        go_meet
        exact HS.out
      case rest =>
       clear HS g0 fg
       obtain ⟨hN3, hK3⟩ := hcut
       have k1 : wc.cell? ⟨A i, 1, none⟩ = some (.pointer (some ⟨A q, 0, none⟩)) := (hN3.c1 hi hC).trans (by show some (pt A (t1.par i)) = _; rw [hq]; rfl)
       obtain ⟨u0, g0⟩ : ∃ u, wc.cell? ⟨A s, 1, none⟩ = some (.pointer u) := ⟨_, hN3.c1 hs hC⟩
       have fg := hN3.frozen hs 1
       have HS := Lib.hid (And.intro (hN3.s1 hs (some q)) (hK3.set s 1 hs (.pointer (some ⟨A q, 0, none⟩))))
       go_upto_region 6 with fail
       go_cut [] (fun wx => Nodes wx T C A n ⟨upd t1.par s (some q), t1.fst, t1.lst, (upd (upd t1.prv s (some p)) i (some s)), (upd (upd t1.nxt p (some s)) s (some i))⟩ ∧ Kept A n w wx)
       case first =>
         go_wp2_with fail
         go_meet
         exact HS.out
       case rest =>
        clear HS g0 fg k1
        obtain ⟨hN4, hK4⟩ := hcut
        have k4 : wc.cell? ⟨A s, 4, none⟩ = some (.pointer (some ⟨A p, 0, none⟩)) := (hN4.c4 hs hC).trans (by show some (pt A ((upd (upd t1.prv s (some p)) i (some s)) s)) = _; simp [upd, pt, HNE.out])
        have HF := Lib.hid (And.intro hN4 hK4)
        go_wp2_with fail
        refine bodyPost_end0 rfl rfl ⟨rfl, ?_, HF.out.2⟩
        unfold ins
        rw [hp, hq]
        exact HF.out.1

end Go.Proofs.YtccofockeemmkaaRR
