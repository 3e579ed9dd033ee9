/- Trees: AppendChild walked. Condition: the nodes agree with one another. -/
import Derived.Test.YtccofockeemmkaaRRTreeC
import Derived.Deep.CutBlock
namespace Go.Proofs.YtccofockeemmkaaRR
open Go.ChangeShapes Go.WideShapes Go.ChangeAt Go.RowKit

theorem unl_within {t : Tr} {n : Nat} (h : Within t n) (i : Nat) : Within (unl t i) n := by
  obtain ⟨b1, b2, b3, b4, b5⟩ := h
  rcases hp : t.prv i with _ | p <;> rcases hx : t.nxt i with _ | m <;> rcases hq : t.par i with _ | q <;>
    simp only [unl, unl1, unl2, unl3, hp, hx, hq, upd_at, ite_self] <;> constructor <;> grind [upd]
theorem app_within {t : Tr} {n : Nat} (h : Within t n) (i c : Nat) (hi : i < n) (hc : c < n) : Within (app t i c) n := by
  obtain ⟨b1, b2, b3, b4, b5⟩ := h
  rcases hl : t.lst i with _ | k <;> simp only [app, hl] <;> constructor <;> grind [upd]
theorem ins_within {t : Tr} {n : Nat} (h : Within t n) (i s : Nat) (hi : i < n) (hs : s < n) : Within (ins t i s) n := by
  obtain ⟨b1, b2, b3, b4, b5⟩ := h
  rcases hp : t.prv i with _ | p <;> rcases hq : t.par i with _ | q <;> simp only [ins, hp, hq] <;> constructor <;> grind [upd]

set_option maxHeartbeats 4000000 in
set_option maxRecDepth 100000 in
theorem append_any (T C : Nat) (A : Nat → Nat) (n : Nat) (t : Tr) (w : World) (i c : Nat) (h : Nodes w T C A n t) (hg : Agree t) (hW : Within t n) (hi : i < n) (hc : c < n) (hC : 6 ≤ C) :
    Calls Try.prog 12 #[.pointer (some ⟨A i, 0, none⟩), .pointer (some ⟨A c, 0, none⟩)] w fun e w' => e = .returned (.tuple #[]) ∧ Nodes w' T C A n (app (unl t c) i c) ∧ Kept A n w w' := by
  have cu := unlink_any T C A n t w c h hg hW hc hC
  have hW1 := unl_within hW c
  obtain ⟨t1, ht⟩ : ∃ t1, t1 = unl t c := ⟨_, rfl⟩
  rw [← ht] at cu hW1 ⊢
  have CU := Lib.hid cu
  clear ht cu
  go_enter Try.func12, Try.ntmps12
  go_wp2_with fail
  refine CU.out.mono ?_
  rintro e w1 ⟨rfl, hN, hK⟩
  rcases hl : t1.lst i with _ | k
  · skip
    obtain ⟨u0, g0⟩ : ∃ u, w1.cell? ⟨A c, 1, none⟩ = some (.pointer u) := ⟨_, hN.c1 hc hC⟩
    have fg := hN.frozen hc 1
    have k3 : w1.cell? ⟨A i, 3, none⟩ = some (.pointer none) := (hN.c3 hi hC).trans (by show some (pt A (t1.lst i)) = _; rw [hl]; rfl)
    have HS := Lib.hid (And.intro (hN.s1 hc (some i)) (hK.set c 1 hc (.pointer (some ⟨A i, 0, none⟩))))
    go_upto_region 1 with fail
    go_cut [] (fun wx => Nodes wx T C A n ⟨(upd t1.par c (some i)), t1.fst, t1.lst, t1.prv, t1.nxt⟩ ∧ Kept A n w wx)
    case first =>
      go_wp2_with fail
      go_meet
      exact HS.out
    case rest =>
     clear HS g0 fg k3
     obtain ⟨hN1, hK1⟩ := hcut
     obtain ⟨u0, g0⟩ : ∃ u, wc.cell? ⟨A i, 2, none⟩ = some (.pointer u) := ⟨_, hN1.c2 hi hC⟩
     have fg := hN1.frozen hi 2
     have k3 : wc.cell? ⟨A i, 3, none⟩ = some (.pointer none) := (hN1.c3 hi hC).trans (by show some (pt A (t1.lst i)) = _; rw [hl]; rfl)
     have HS := Lib.hid (And.intro (hN1.s2 hi (some c)) (hK1.set i 2 hi (.pointer (some ⟨A c, 0, none⟩))))
     go_upto_region 6 with fail
     go_cut [] (fun wx => Nodes wx T C A n ⟨(upd t1.par c (some i)), (upd t1.fst i (some c)), t1.lst, t1.prv, t1.nxt⟩ ∧ Kept A n w wx)
     case first =>
       go_wp2_with fail
       go_meet
       exact HS.out
     case rest =>
      clear HS g0 fg k3
      obtain ⟨hN2, hK2⟩ := hcut
      obtain ⟨u0, g0⟩ : ∃ u, wc.cell? ⟨A i, 3, none⟩ = some (.pointer u) := ⟨_, hN2.c3 hi hC⟩
      have fg := hN2.frozen hi 3
      have k3 : wc.cell? ⟨A i, 3, none⟩ = some (.pointer none) := (hN2.c3 hi hC).trans (by show some (pt A (t1.lst i)) = _; rw [hl]; rfl)
      have HS := Lib.hid (And.intro (hN2.s3 hi (some c)) (hK2.set i 3 hi (.pointer (some ⟨A c, 0, none⟩))))
      go_wp2_with fail
      refine bodyPost_end0 rfl rfl ⟨rfl, ?_, HS.out.2⟩
      unfold app
      rw [hl]
      exact HS.out.1
  · have hkb := (hW1.b3 i k hl).2
    obtain ⟨u0, g0⟩ : ∃ u, w1.cell? ⟨A c, 1, none⟩ = some (.pointer u) := ⟨_, hN.c1 hc hC⟩
    have fg := hN.frozen hc 1
    have k3 : w1.cell? ⟨A i, 3, none⟩ = some (.pointer (some ⟨A k, 0, none⟩)) := (hN.c3 hi hC).trans (by show some (pt A (t1.lst i)) = _; rw [hl]; rfl)
    have HS := Lib.hid (And.intro (hN.s1 hc (some i)) (hK.set c 1 hc (.pointer (some ⟨A i, 0, none⟩))))
    go_upto_region 1 with fail
    go_cut [] (fun wx => Nodes wx T C A n ⟨(upd t1.par c (some i)), t1.fst, t1.lst, t1.prv, t1.nxt⟩ ∧ Kept A n w wx)
    case first =>
      go_wp2_with fail
      go_meet
      exact HS.out
    case rest =>
     clear HS g0 fg k3
     obtain ⟨hN1, hK1⟩ := hcut
     obtain ⟨u0, g0⟩ : ∃ u, wc.cell? ⟨A k, 5, none⟩ = some (.pointer u) := ⟨_, hN1.c5 hkb hC⟩
     have fg := hN1.frozen hkb 5
     have k3 : wc.cell? ⟨A i, 3, none⟩ = some (.pointer (some ⟨A k, 0, none⟩)) := (hN1.c3 hi hC).trans (by show some (pt A (t1.lst i)) = _; rw [hl]; rfl)
     have HS := Lib.hid (And.intro (hN1.s5 hkb (some c)) (hK1.set k 5 hkb (.pointer (some ⟨A c, 0, none⟩))))
     go_upto_region 3 with fail
     go_cut [] (fun wx => Nodes wx T C A n ⟨(upd t1.par c (some i)), t1.fst, t1.lst, t1.prv, (upd t1.nxt k (some c))⟩ ∧ Kept A n w wx)
     case first =>
       go_wp2_with fail
       go_meet
       exact HS.out
     case rest =>
      clear HS g0 fg k3
      obtain ⟨hN2, hK2⟩ := hcut
      obtain ⟨u0, g0⟩ : ∃ u, wc.cell? ⟨A c, 4, none⟩ = some (.pointer u) := ⟨_, hN2.c4 hc hC⟩
      have fg := hN2.frozen hc 4
      have k3 : wc.cell? ⟨A i, 3, none⟩ = some (.pointer (some ⟨A k, 0, none⟩)) := (hN2.c3 hi hC).trans (by show some (pt A (t1.lst i)) = _; rw [hl]; rfl)
      have HS := Lib.hid (And.intro (hN2.s4 hc (some k)) (hK2.set c 4 hc (.pointer (some ⟨A k, 0, none⟩))))
      go_upto_region 4 with fail
      go_cut [] (fun wx => Nodes wx T C A n ⟨(upd t1.par c (some i)), t1.fst, t1.lst, (upd t1.prv c (some k)), (upd t1.nxt k (some c))⟩ ∧ Kept A n w wx)
      case first =>
        go_wp2_with fail
        go_meet
        exact HS.out
      case rest =>
       clear HS g0 fg k3
       obtain ⟨hN3, hK3⟩ := hcut
       obtain ⟨u0, g0⟩ : ∃ u, wc.cell? ⟨A i, 3, none⟩ = some (.pointer u) := ⟨_, hN3.c3 hi hC⟩
       have fg := hN3.frozen hi 3
       have k3 : wc.cell? ⟨A i, 3, none⟩ = some (.pointer (some ⟨A k, 0, none⟩)) := (hN3.c3 hi hC).trans (by show some (pt A (t1.lst i)) = _; rw [hl]; rfl)
       have HS := Lib.hid (And.intro (hN3.s3 hi (some c)) (hK3.set i 3 hi (.pointer (some ⟨A c, 0, none⟩))))
       go_wp2_with fail
       refine bodyPost_end0 rfl rfl ⟨rfl, ?_, HS.out.2⟩
       unfold app
       rw [hl]
       exact HS.out.1

end Go.Proofs.YtccofockeemmkaaRR
