/- Tables: AppendChild walked at a new node. No condition. -/
import Derived.Test.YtlndmebmcjngfaaGreatDoorTabD
namespace Go.Proofs.YtlndmebmcjngfaaGreatDoor
open Go.ChangeShapes Go.WideShapes Go.ChangeAt Go.RowKit

/-- a node was appended -/
structure Appended (T N : Nat) (tyT tyN : Int) (pT lst : Option Nat) (w w' : World) : Prop where
  top : Nd w' T tyT pT (some N)
  new : Nd w' N tyN (some T) none
  last : ∀ L, lst = some L → ∀ ty p l, Nd w L ty p l → Nd w' L ty p l
  but : But (fun k => k = N ∨ k = T ∨ some k = lst) w w'
  size : w'.heap.size = w.heap.size

set_option maxHeartbeats 2000000 in
theorem appendChild_any (T N : Nat) (tyT tyN : Int) (pT lst : Option Nat) (w : World) (hT : Nd w T tyT pT lst) (hN : Nd w N tyN none none) (hp : w.cell? ⟨N, 4, none⟩ = some (.pointer none)) (hn : w.cell? ⟨N, 5, none⟩ = some (.pointer none)) (hTN : T ≠ N)
    (hL : ∀ L, lst = some L → L ≠ T ∧ L ≠ N ∧ ∃ ty p l, Nd w L ty p l) :
    Calls Tryz.prog 62 #[.pointer (some ⟨T, 0, none⟩), .pointer (some ⟨N, 0, none⟩)] w fun e w' => e = .returned (.tuple #[]) ∧ Appended T N tyT tyN pT lst w w' := by
  have HU := Lib.hid (unlink_any N tyN w hN hp hn)
  have HT := Lib.hid hT
  have HL := Lib.hid hL
  have HTN := Lib.hid hTN
  clear hT hN hp hn hL hTN
  go_enter Tryz.func62, Tryz.ntmps62
  go_wp2_with fail
  refine HU.out.mono ?_
  rintro e w1 ⟨rfl, hN1, hbut, hsz⟩
  have hT1 : Nd w1 T tyT pT lst := HT.out.of_block (hbut.block T HT.out.lt HTN.out)
  have HN1 := Lib.hid hN1
  have HT1 := Lib.hid hT1
  have HBut := Lib.hid hbut
  have HSz := Lib.hid hsz
  obtain ⟨x1, n1⟩ := hN1.cells 1 (by decide)
  have g1 := hN1.froz 1
  obtain ⟨x4, n4⟩ := hN1.cells 4 (by decide)
  have g4 := hN1.froz 4
  obtain ⟨y2, t2⟩ := hT1.cells 2 (by decide)
  have f2 := hT1.froz 2
  have f3 := hT1.froz 3
  have hne1 : (⟨N, 1, none⟩ : Addr) ≠ ⟨T, 3, none⟩ := by intro e; cases e
  cases lst with
  | none =>
    have t3 : w1.cell? ⟨T, 3, none⟩ = some (.pointer none) := hT1.lst
    clear hN1 hT1 hbut hsz HU
    go_wp2_with fail
    go_end0
    have hNT : N ≠ T := fun e => HTN.out e.symm
    refine ⟨rfl, ?_, ?_, (fun L h => by cases h), ?_, by simpa using HSz.out⟩
    · exact ((HT1.out.far ⟨N, 1, none⟩ _ hNT).set 2 _ (by decide) (by decide) (by decide)).setLst (some N)
    · exact ((HN1.out.setPar (some T)).far ⟨T, 2, none⟩ _ HTN.out).far ⟨T, 3, none⟩ _ HTN.out
    · have hb : But (fun k => k = N ∨ k = T ∨ some k = none) w w1 := HBut.out.mono (fun k _ h => Or.inl h)
      exact ((hb.set ⟨N, 1, none⟩ _ (Or.inl rfl)).set ⟨T, 2, none⟩ _ (Or.inr (Or.inl rfl))).set ⟨T, 3, none⟩ _ (Or.inr (Or.inl rfl))
  | some L =>
    obtain ⟨hLT, hLN, tyL, pL, lL, hLd⟩ := HL.out L rfl
    have hL1 : Nd w1 L tyL pL lL := hLd.of_block (hbut.block L hLd.lt hLN)
    have t3 : w1.cell? ⟨T, 3, none⟩ = some (.pointer (some ⟨L, 0, none⟩)) := hT1.lst
    obtain ⟨z5, l5⟩ := hL1.cells 5 (by decide)
    have e5 := hL1.froz 5
    clear hN1 hT1 hbut hsz HU
    have HLT := Lib.hid hLT
    have HLN := Lib.hid hLN
    clear hLT hLN hLd hL1
    go_wp2_with fail
    go_end0
    have hNT : N ≠ T := fun e => HTN.out e.symm
    have hNL : N ≠ L := fun e => HLN.out e.symm
    refine ⟨rfl, ?_, ?_, ?_, ?_, by simpa using HSz.out⟩
    · exact (((HT1.out.far ⟨N, 1, none⟩ _ hNT).far ⟨L, 5, none⟩ _ HLT.out).far ⟨N, 4, none⟩ _ hNT).setLst (some N)
    · exact (((HN1.out.setPar (some T)).far ⟨L, 5, none⟩ _ HLN.out).set 4 _ (by decide) (by decide) (by decide)).far ⟨T, 3, none⟩ _ HTN.out
    · intro L' e ty p l hd
      cases e
      have h1 : Nd w1 L ty p l := hd.of_block (HBut.out.block L hd.lt HLN.out)
      exact (((h1.far ⟨N, 1, none⟩ _ hNL).set 5 _ (by decide) (by decide) (by decide)).far ⟨N, 4, none⟩ _ hNL).far ⟨T, 3, none⟩ _ (fun e => HLT.out e.symm)
    · have hb : But (fun k => k = N ∨ k = T ∨ some k = some L) w w1 := HBut.out.mono (fun k _ h => Or.inl h)
      exact (((hb.set ⟨N, 1, none⟩ _ (Or.inl rfl)).set ⟨L, 5, none⟩ _ (Or.inr (Or.inr rfl))).set ⟨N, 4, none⟩ _ (Or.inl rfl)).set ⟨T, 3, none⟩ _ (Or.inr (Or.inl rfl))

end Go.Proofs.YtlndmebmcjngfaaGreatDoor
