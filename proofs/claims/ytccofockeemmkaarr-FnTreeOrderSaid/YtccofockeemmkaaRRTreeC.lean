/- Trees: Unlink walked. Condition: the nodes agree with one another. -/
import Derived.Test.YtccofockeemmkaaRRTreeB
import Derived.Deep.CutBlock
namespace Go.Proofs.YtccofockeemmkaaRR
open Go.ChangeShapes Go.WideShapes Go.ChangeAt Go.RowKit

theorem upd_eq (f : Nat → Option Nat) (i j : Nat) (v : Option Nat) (h : f j = v) : upd f i v j = v := by
  unfold upd; split
  · rfl
  · exact h
theorem bodyPost_end0 {P : Program} {fn : Func} {R : Ending → World → Prop} {a : Act} {w : World} (hr : fn.results = #[]) (hd : a.defers = []) (hR : R (.returned (.tuple #[])) w) : bodyPost P fn R .normal a w :=
  bodyPost_end (results_none hr _ _ _) hd hR

set_option maxHeartbeats 4000000 in
set_option maxRecDepth 100000 in
theorem unlink_any (T C : Nat) (A : Nat → Nat) (n : Nat) (t : Tr) (w : World) (i : Nat) (h : Nodes w T C A n t) (hg : Agree t) (hW : Within t n) (hi : i < n) (hC : 6 ≤ C) :
    Calls Try.prog 14 #[.pointer (some ⟨A i, 0, none⟩)] w fun e w' => e = .returned (.tuple #[]) ∧ Nodes w' T C A n (unl t i) ∧ Kept A n w w' := by
  rcases hp : t.prv i with _ | p
  · rcases hq : t.par i with _ | q
    · have hx := (hg.j7 i hq).2
      have k1 : w.cell? ⟨A i, 1, none⟩ = some (.pointer none) := (h.c1 hi hC).trans (by show some (pt A (t.par i)) = _; rw [hq]; rfl)
      have f1 := h.frozen hi 1
      have k4 : w.cell? ⟨A i, 4, none⟩ = some (.pointer none) := (h.c4 hi hC).trans (by show some (pt A (t.prv i)) = _; rw [hp]; rfl)
      have f4 := h.frozen hi 4
      have k5 : w.cell? ⟨A i, 5, none⟩ = some (.pointer none) := (h.c5 hi hC).trans (by show some (pt A (t.nxt i)) = _; rw [hx]; rfl)
      have f5 := h.frozen hi 5
      go_enter Try.func14, Try.ntmps14
      have hu : unl t i = ⟨(upd t.par i none), t.fst, t.lst, (upd t.prv i none), (upd t.nxt i none)⟩ := by
        simp only [unl, unl1, unl2, unl3, hp, hx, hq]
      have HF := Lib.hid (And.intro hu (And.intro (((h.s1 hi none).s5 hi none).s4 hi none) ((((Kept.refl A n w).set i 1 hi (.pointer none)).set i 5 hi (.pointer none)).set i 4 hi (.pointer none))))
      clear hu
      go_wp2_with fail
      refine bodyPost_end0 rfl rfl ⟨rfl, ?_, HF.out.2.2⟩
      rw [HF.out.1]
      exact HF.out.2.1
    · have hqb := (hW.b1 i q hq).2
      rcases hx : t.nxt i with _ | m
      · skip
        have k1 : w.cell? ⟨A i, 1, none⟩ = some (.pointer (some ⟨A q, 0, none⟩)) := (h.c1 hi hC).trans (by show some (pt A (t.par i)) = _; rw [hq]; rfl)
        have f1 := h.frozen hi 1
        have k4 : w.cell? ⟨A i, 4, none⟩ = some (.pointer none) := (h.c4 hi hC).trans (by show some (pt A (t.prv i)) = _; rw [hp]; rfl)
        have f4 := h.frozen hi 4
        have k5 : w.cell? ⟨A i, 5, none⟩ = some (.pointer none) := (h.c5 hi hC).trans (by show some (pt A (t.nxt i)) = _; rw [hx]; rfl)
        have f5 := h.frozen hi 5
        obtain ⟨u0, g0⟩ : ∃ u, w.cell? ⟨A q, 2, none⟩ = some (.pointer u) := ⟨_, h.c2 hqb hC⟩
        have fg := h.frozen hqb 2
        go_enter Try.func14, Try.ntmps14
        have HS := Lib.hid (And.intro (h.s2 hqb none) ((Kept.refl A n w).set q 2 hqb (.pointer none)))
        go_upto_region 3 with fail
        go_cut [] (fun wx => Nodes wx T C A n ⟨t.par, (upd t.fst q none), t.lst, t.prv, t.nxt⟩ ∧ Kept A n w wx)
        case first =>
          go_region
          all_goals (go_wp2_with fail; go_meet; exact ⟨HS.out.1.drew, HS.out.2.drew⟩)
        case rest =>
         clear HS k1 k4 k5 f1 f4 f5 g0 fg
         obtain ⟨hN17, hK17⟩ := hcut
         have k1 : wc.cell? ⟨A i, 1, none⟩ = some (.pointer (some ⟨A q, 0, none⟩)) := (hN17.c1 hi hC).trans (by show some (pt A (t.par i)) = _; rw [hq]; rfl)
         have f1 := hN17.frozen hi 1
         have k4 : wc.cell? ⟨A i, 4, none⟩ = some (.pointer none) := (hN17.c4 hi hC).trans (by show some (pt A (t.prv i)) = _; rw [hp]; rfl)
         have f4 := hN17.frozen hi 4
         have k5 : wc.cell? ⟨A i, 5, none⟩ = some (.pointer none) := (hN17.c5 hi hC).trans (by show some (pt A (t.nxt i)) = _; rw [hx]; rfl)
         have f5 := hN17.frozen hi 5
         obtain ⟨u0, g0⟩ : ∃ u, wc.cell? ⟨A q, 3, none⟩ = some (.pointer u) := ⟨_, hN17.c3 hqb hC⟩
         have fg := hN17.frozen hqb 3
         have HS := Lib.hid (And.intro (hN17.s3 hqb none) (hK17.set q 3 hqb (.pointer none)))
         go_upto_region 7 with fail
         go_cut [] (fun wx => Nodes wx T C A n ⟨t.par, (upd t.fst q none), (upd t.lst q none), t.prv, t.nxt⟩ ∧ Kept A n w wx)
         case first =>
           go_region
           all_goals (go_wp2_with fail; go_meet; exact ⟨HS.out.1.drew, HS.out.2.drew⟩)
         case rest =>
          clear HS k1 k4 k5 f1 f4 f5 g0 fg
          obtain ⟨hN34, hK34⟩ := hcut
          have k1 : wc.cell? ⟨A i, 1, none⟩ = some (.pointer (some ⟨A q, 0, none⟩)) := (hN34.c1 hi hC).trans (by show some (pt A (t.par i)) = _; rw [hq]; rfl)
          have f1 := hN34.frozen hi 1
          have k4 : wc.cell? ⟨A i, 4, none⟩ = some (.pointer none) := (hN34.c4 hi hC).trans (by show some (pt A (t.prv i)) = _; rw [hp]; rfl)
          have f4 := hN34.frozen hi 4
          have k5 : wc.cell? ⟨A i, 5, none⟩ = some (.pointer none) := (hN34.c5 hi hC).trans (by show some (pt A (t.nxt i)) = _; rw [hx]; rfl)
          have f5 := hN34.frozen hi 5
          have hu : unl t i = ⟨(upd t.par i none), (upd t.fst q none), (upd t.lst q none), (upd t.prv i none), (upd t.nxt i none)⟩ := by
            simp only [unl, unl1, unl2, unl3, hp, hx, hq]
          have HF := Lib.hid (And.intro hu (And.intro (((hN34.s1 hi none).s5 hi none).s4 hi none) (((hK34.set i 1 hi (.pointer none)).set i 5 hi (.pointer none)).set i 4 hi (.pointer none))))
          clear hu
          go_wp2_with fail
          refine bodyPost_end0 rfl rfl ⟨rfl, ?_, HF.out.2.2⟩
          rw [HF.out.1]
          exact HF.out.2.1
      · have hxb := (hW.b5 i m hx).2
        have k1 : w.cell? ⟨A i, 1, none⟩ = some (.pointer (some ⟨A q, 0, none⟩)) := (h.c1 hi hC).trans (by show some (pt A (t.par i)) = _; rw [hq]; rfl)
        have f1 := h.frozen hi 1
        have k4 : w.cell? ⟨A i, 4, none⟩ = some (.pointer none) := (h.c4 hi hC).trans (by show some (pt A (t.prv i)) = _; rw [hp]; rfl)
        have f4 := h.frozen hi 4
        have k5 : w.cell? ⟨A i, 5, none⟩ = some (.pointer (some ⟨A m, 0, none⟩)) := (h.c5 hi hC).trans (by show some (pt A (t.nxt i)) = _; rw [hx]; rfl)
        have f5 := h.frozen hi 5
        obtain ⟨u0, g0⟩ : ∃ u, w.cell? ⟨A q, 2, none⟩ = some (.pointer u) := ⟨_, h.c2 hqb hC⟩
        have fg := h.frozen hqb 2
        go_enter Try.func14, Try.ntmps14
        have HS := Lib.hid (And.intro (h.s2 hqb (some m)) ((Kept.refl A n w).set q 2 hqb (.pointer (some ⟨A m, 0, none⟩))))
        go_upto_region 3 with fail
        go_cut [] (fun wx => Nodes wx T C A n ⟨t.par, (upd t.fst q (some m)), t.lst, t.prv, t.nxt⟩ ∧ Kept A n w wx)
        case first =>
          go_region
          all_goals (go_wp2_with fail; go_meet; exact ⟨HS.out.1.drew, HS.out.2.drew⟩)
        case rest =>
         clear HS k1 k4 k5 f1 f4 f5 g0 fg
         obtain ⟨hN17, hK17⟩ := hcut
         have k1 : wc.cell? ⟨A i, 1, none⟩ = some (.pointer (some ⟨A q, 0, none⟩)) := (hN17.c1 hi hC).trans (by show some (pt A (t.par i)) = _; rw [hq]; rfl)
         have f1 := hN17.frozen hi 1
         have k4 : wc.cell? ⟨A i, 4, none⟩ = some (.pointer none) := (hN17.c4 hi hC).trans (by show some (pt A (t.prv i)) = _; rw [hp]; rfl)
         have f4 := hN17.frozen hi 4
         have k5 : wc.cell? ⟨A i, 5, none⟩ = some (.pointer (some ⟨A m, 0, none⟩)) := (hN17.c5 hi hC).trans (by show some (pt A (t.nxt i)) = _; rw [hx]; rfl)
         have f5 := hN17.frozen hi 5
         obtain ⟨u0, g0⟩ : ∃ u, wc.cell? ⟨A m, 4, none⟩ = some (.pointer u) := ⟨_, hN17.c4 hxb hC⟩
         have fg := hN17.frozen hxb 4
         have HS := Lib.hid (And.intro (hN17.s4 hxb none) (hK17.set m 4 hxb (.pointer none)))
         go_upto_region 5 with fail
         go_cut [] (fun wx => Nodes wx T C A n ⟨t.par, (upd t.fst q (some m)), t.lst, (upd t.prv m none), t.nxt⟩ ∧ Kept A n w wx)
         case first =>
           go_region
           all_goals (go_wp2_with fail; go_meet; exact ⟨HS.out.1.drew, HS.out.2.drew⟩)
         case rest =>
          clear HS k1 k4 k5 f1 f4 f5 g0 fg
          obtain ⟨hN34, hK34⟩ := hcut
          have k1 : wc.cell? ⟨A i, 1, none⟩ = some (.pointer (some ⟨A q, 0, none⟩)) := (hN34.c1 hi hC).trans (by show some (pt A (t.par i)) = _; rw [hq]; rfl)
          have f1 := hN34.frozen hi 1
          have k4 : wc.cell? ⟨A i, 4, none⟩ = some (.pointer none) := (hN34.c4 hi hC).trans (by show some (pt A ((upd t.prv m none) i)) = _; rw [upd_eq _ _ _ _ hp]; rfl)
          have f4 := hN34.frozen hi 4
          have k5 : wc.cell? ⟨A i, 5, none⟩ = some (.pointer (some ⟨A m, 0, none⟩)) := (hN34.c5 hi hC).trans (by show some (pt A (t.nxt i)) = _; rw [hx]; rfl)
          have f5 := hN34.frozen hi 5
          have hu : unl t i = ⟨(upd t.par i none), (upd t.fst q (some m)), t.lst, (upd (upd t.prv m none) i none), (upd t.nxt i none)⟩ := by
            simp only [unl, unl1, unl2, unl3, hp, hx, hq]
          have HF := Lib.hid (And.intro hu (And.intro (((hN34.s1 hi none).s5 hi none).s4 hi none) (((hK34.set i 1 hi (.pointer none)).set i 5 hi (.pointer none)).set i 4 hi (.pointer none))))
          clear hu
          go_wp2_with fail
          refine bodyPost_end0 rfl rfl ⟨rfl, ?_, HF.out.2.2⟩
          rw [HF.out.1]
          exact HF.out.2.1
  · have hpb := (hW.b4 i p hp).2
    rcases hq : t.par i with _ | q
    · have := (hg.j7 i hq).1
      rw [hp] at this
      cases this
    · have hqb := (hW.b1 i q hq).2
      rcases hx : t.nxt i with _ | m
      · skip
        have k1 : w.cell? ⟨A i, 1, none⟩ = some (.pointer (some ⟨A q, 0, none⟩)) := (h.c1 hi hC).trans (by show some (pt A (t.par i)) = _; rw [hq]; rfl)
        have f1 := h.frozen hi 1
        have k4 : w.cell? ⟨A i, 4, none⟩ = some (.pointer (some ⟨A p, 0, none⟩)) := (h.c4 hi hC).trans (by show some (pt A (t.prv i)) = _; rw [hp]; rfl)
        have f4 := h.frozen hi 4
        have k5 : w.cell? ⟨A i, 5, none⟩ = some (.pointer none) := (h.c5 hi hC).trans (by show some (pt A (t.nxt i)) = _; rw [hx]; rfl)
        have f5 := h.frozen hi 5
        obtain ⟨u0, g0⟩ : ∃ u, w.cell? ⟨A p, 5, none⟩ = some (.pointer u) := ⟨_, h.c5 hpb hC⟩
        have fg := h.frozen hpb 5
        go_enter Try.func14, Try.ntmps14
        have HS := Lib.hid (And.intro (h.s5 hpb none) ((Kept.refl A n w).set p 5 hpb (.pointer none)))
        go_upto_region 1 with fail
        go_cut [] (fun wx => Nodes wx T C A n ⟨t.par, t.fst, t.lst, t.prv, (upd t.nxt p none)⟩ ∧ Kept A n w wx)
        case first =>
          go_region
          all_goals (go_wp2_with fail; go_meet; exact ⟨HS.out.1.drew, HS.out.2.drew⟩)
        case rest =>
         clear HS k1 k4 k5 f1 f4 f5 g0 fg
         obtain ⟨hN17, hK17⟩ := hcut
         have k1 : wc.cell? ⟨A i, 1, none⟩ = some (.pointer (some ⟨A q, 0, none⟩)) := (hN17.c1 hi hC).trans (by show some (pt A (t.par i)) = _; rw [hq]; rfl)
         have f1 := hN17.frozen hi 1
         have k4 : wc.cell? ⟨A i, 4, none⟩ = some (.pointer (some ⟨A p, 0, none⟩)) := (hN17.c4 hi hC).trans (by show some (pt A (t.prv i)) = _; rw [hp]; rfl)
         have f4 := hN17.frozen hi 4
         have k5 : wc.cell? ⟨A i, 5, none⟩ = some (.pointer none) := (hN17.c5 hi hC).trans (by show some (pt A ((upd t.nxt p none) i)) = _; rw [upd_eq _ _ _ _ hx]; rfl)
         have f5 := hN17.frozen hi 5
         obtain ⟨u0, g0⟩ : ∃ u, wc.cell? ⟨A q, 3, none⟩ = some (.pointer u) := ⟨_, hN17.c3 hqb hC⟩
         have fg := hN17.frozen hqb 3
         have HS := Lib.hid (And.intro (hN17.s3 hqb (some p)) (hK17.set q 3 hqb (.pointer (some ⟨A p, 0, none⟩))))
         go_upto_region 7 with fail
         go_cut [] (fun wx => Nodes wx T C A n ⟨t.par, t.fst, (upd t.lst q (some p)), t.prv, (upd t.nxt p none)⟩ ∧ Kept A n w wx)
         case first =>
           go_region
           all_goals (go_wp2_with fail; go_meet; exact ⟨HS.out.1.drew, HS.out.2.drew⟩)
         case rest =>
          clear HS k1 k4 k5 f1 f4 f5 g0 fg
          obtain ⟨hN34, hK34⟩ := hcut
          have k1 : wc.cell? ⟨A i, 1, none⟩ = some (.pointer (some ⟨A q, 0, none⟩)) := (hN34.c1 hi hC).trans (by show some (pt A (t.par i)) = _; rw [hq]; rfl)
          have f1 := hN34.frozen hi 1
          have k4 : wc.cell? ⟨A i, 4, none⟩ = some (.pointer (some ⟨A p, 0, none⟩)) := (hN34.c4 hi hC).trans (by show some (pt A (t.prv i)) = _; rw [hp]; rfl)
          have f4 := hN34.frozen hi 4
          have k5 : wc.cell? ⟨A i, 5, none⟩ = some (.pointer none) := (hN34.c5 hi hC).trans (by show some (pt A ((upd t.nxt p none) i)) = _; rw [upd_eq _ _ _ _ hx]; rfl)
          have f5 := hN34.frozen hi 5
          have hu : unl t i = ⟨(upd t.par i none), t.fst, (upd t.lst q (some p)), (upd t.prv i none), (upd (upd t.nxt p none) i none)⟩ := by
            simp only [unl, unl1, unl2, unl3, hp, hx, hq, upd_at, ite_self]
          have HF := Lib.hid (And.intro hu (And.intro (((hN34.s1 hi none).s5 hi none).s4 hi none) (((hK34.set i 1 hi (.pointer none)).set i 5 hi (.pointer none)).set i 4 hi (.pointer none))))
          clear hu
          go_wp2_with fail
          refine bodyPost_end0 rfl rfl ⟨rfl, ?_, HF.out.2.2⟩
          rw [HF.out.1]
          exact HF.out.2.1
      · have hxb := (hW.b5 i m hx).2
        have k1 : w.cell? ⟨A i, 1, none⟩ = some (.pointer (some ⟨A q, 0, none⟩)) := (h.c1 hi hC).trans (by show some (pt A (t.par i)) = _; rw [hq]; rfl)
        have f1 := h.frozen hi 1
        have k4 : w.cell? ⟨A i, 4, none⟩ = some (.pointer (some ⟨A p, 0, none⟩)) := (h.c4 hi hC).trans (by show some (pt A (t.prv i)) = _; rw [hp]; rfl)
        have f4 := h.frozen hi 4
        have k5 : w.cell? ⟨A i, 5, none⟩ = some (.pointer (some ⟨A m, 0, none⟩)) := (h.c5 hi hC).trans (by show some (pt A (t.nxt i)) = _; rw [hx]; rfl)
        have f5 := h.frozen hi 5
        obtain ⟨u0, g0⟩ : ∃ u, w.cell? ⟨A p, 5, none⟩ = some (.pointer u) := ⟨_, h.c5 hpb hC⟩
        have fg := h.frozen hpb 5
        go_enter Try.func14, Try.ntmps14
        have HS := Lib.hid (And.intro (h.s5 hpb (some m)) ((Kept.refl A n w).set p 5 hpb (.pointer (some ⟨A m, 0, none⟩))))
        go_upto_region 1 with fail
        go_cut [] (fun wx => Nodes wx T C A n ⟨t.par, t.fst, t.lst, t.prv, (upd t.nxt p (some m))⟩ ∧ Kept A n w wx)
        case first =>
          go_region
          all_goals (go_wp2_with fail; go_meet; exact ⟨HS.out.1.drew, HS.out.2.drew⟩)
        case rest =>
         clear HS k1 k4 k5 f1 f4 f5 g0 fg
         obtain ⟨hN17, hK17⟩ := hcut
         have k1 : wc.cell? ⟨A i, 1, none⟩ = some (.pointer (some ⟨A q, 0, none⟩)) := (hN17.c1 hi hC).trans (by show some (pt A (t.par i)) = _; rw [hq]; rfl)
         have f1 := hN17.frozen hi 1
         have k4 : wc.cell? ⟨A i, 4, none⟩ = some (.pointer (some ⟨A p, 0, none⟩)) := (hN17.c4 hi hC).trans (by show some (pt A (t.prv i)) = _; rw [hp]; rfl)
         have f4 := hN17.frozen hi 4
         have k5 : wc.cell? ⟨A i, 5, none⟩ = some (.pointer (some ⟨A m, 0, none⟩)) := (hN17.c5 hi hC).trans (by show some (pt A ((upd t.nxt p (some m)) i)) = _; rw [upd_eq _ _ _ _ hx]; rfl)
         have f5 := hN17.frozen hi 5
         obtain ⟨u0, g0⟩ : ∃ u, wc.cell? ⟨A m, 4, none⟩ = some (.pointer u) := ⟨_, hN17.c4 hxb hC⟩
         have fg := hN17.frozen hxb 4
         have HS := Lib.hid (And.intro (hN17.s4 hxb (some p)) (hK17.set m 4 hxb (.pointer (some ⟨A p, 0, none⟩))))
         go_upto_region 5 with fail
         go_cut [] (fun wx => Nodes wx T C A n ⟨t.par, t.fst, t.lst, (upd t.prv m (some p)), (upd t.nxt p (some m))⟩ ∧ Kept A n w wx)
         case first =>
           go_region
           all_goals (go_wp2_with fail; go_meet; exact ⟨HS.out.1.drew, HS.out.2.drew⟩)
         case rest =>
          clear HS k1 k4 k5 f1 f4 f5 g0 fg
          obtain ⟨hN34, hK34⟩ := hcut
          have k1 : wc.cell? ⟨A i, 1, none⟩ = some (.pointer (some ⟨A q, 0, none⟩)) := (hN34.c1 hi hC).trans (by show some (pt A (t.par i)) = _; rw [hq]; rfl)
          have f1 := hN34.frozen hi 1
          have k4 : wc.cell? ⟨A i, 4, none⟩ = some (.pointer (some ⟨A p, 0, none⟩)) := (hN34.c4 hi hC).trans (by show some (pt A ((upd t.prv m (some p)) i)) = _; rw [upd_eq _ _ _ _ hp]; rfl)
          have f4 := hN34.frozen hi 4
          have k5 : wc.cell? ⟨A i, 5, none⟩ = some (.pointer (some ⟨A m, 0, none⟩)) := (hN34.c5 hi hC).trans (by show some (pt A ((upd t.nxt p (some m)) i)) = _; rw [upd_eq _ _ _ _ hx]; rfl)
          have f5 := hN34.frozen hi 5
          have hu : unl t i = ⟨(upd t.par i none), t.fst, t.lst, (upd (upd t.prv m (some p)) i none), (upd (upd t.nxt p (some m)) i none)⟩ := by
            simp only [unl, unl1, unl2, unl3, hp, hx, upd_at, ite_self]
          have HF := Lib.hid (And.intro hu (And.intro (((hN34.s1 hi none).s5 hi none).s4 hi none) (((hK34.set i 1 hi (.pointer none)).set i 5 hi (.pointer none)).set i 4 hi (.pointer none))))
          clear hu
          go_wp2_with fail
          refine bodyPost_end0 rfl rfl ⟨rfl, ?_, HF.out.2.2⟩
          rw [HF.out.1]
          exact HF.out.2.1

end Go.Proofs.YtccofockeemmkaaRR
