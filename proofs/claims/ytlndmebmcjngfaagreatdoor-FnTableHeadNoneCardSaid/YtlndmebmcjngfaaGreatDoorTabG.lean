/- Tables: addExistingChild, addChild, addBlock walked at a tip that takes the new node. No condition. -/
import Derived.Test.YtlndmebmcjngfaaGreatDoorTabF
import Derived.Deep.QuietTactic
namespace Go.Proofs.YtlndmebmcjngfaaGreatDoor
open Go.ChangeShapes Go.WideShapes Go.ChangeAt Go.RowKit

/-- the parser P: its tip is block T, all is closed -/
structure Tip (w : World) (P T : Nat) : Prop where
  tip : w.cell? ⟨P, 265, none⟩ = some (.pointer (some ⟨T, 0, none⟩))
  froz : w.frozen? ⟨P, 265, none⟩ = false
  shut : w.cell? ⟨P, 268, none⟩ = some (.bool true)
theorem Tip.lt {w : World} {P T : Nat} (h : Tip w P T) : P < w.heap.size := World.block_lt_of_cell? w _ h.tip
theorem Tip.of_block {w w' : World} {P T : Nat} (h : Tip w P T) (hb : w'.heap[P]? = w.heap[P]?) : Tip w' P T :=
  ⟨by simpa [World.cell?, hb] using h.tip, by simpa [World.frozen?, hb] using h.froz, by simpa [World.cell?, hb] using h.shut⟩
theorem Tip.set {w : World} {P T : Nat} (h : Tip w P T) (N : Nat) : Tip (w.setCell ⟨P, 265, none⟩ (.pointer (some ⟨N, 0, none⟩))) P N :=
  ⟨World.cell?_setCell_same _ _ _ h.tip, by simpa using h.froz, (setOther w P 265 268 _ (by decide)).trans h.shut⟩

/-- a node was added below T -/
structure Added (P T N : Nat) (tyT tyN : Int) (pT lst : Option Nat) (w w' : World) : Prop where
  tip : Tip w' P N
  top : Nd w' T tyT pT (some N)
  new : Nd w' N tyN (some T) none
  last : ∀ L, lst = some L → ∀ ty p l, Nd w L ty p l → Nd w' L ty p l
  but : But (fun k => k = P ∨ k = N ∨ k = T ∨ some k = lst) w w'

set_option maxHeartbeats 2000000 in
theorem addExisting_any (P T N : Nat) (tyT tyN : Int) (pT lst : Option Nat) (w : World) (hP : Tip w P T) (hT : Nd w T tyT pT lst) (hN : Nd w N tyN none none) (hp : w.cell? ⟨N, 4, none⟩ = some (.pointer none)) (hn : w.cell? ⟨N, 5, none⟩ = some (.pointer none)) (hTN : T ≠ N) (hPT : P ≠ T) (hPN : P ≠ N)
    (hL : ∀ L, lst = some L → L ≠ T ∧ L ≠ N ∧ L ≠ P ∧ ∃ ty p l, Nd w L ty p l) (hh : Holds tyT tyN true) (o : Value) :
    Calls Tryz.prog 81 #[.pointer (some ⟨P, 0, none⟩), .pointer (some ⟨N, 0, none⟩), o] w fun e w' => e = .returned (.pointer (some ⟨N, 0, none⟩)) ∧ Added P T N tyT tyN pT lst w w' := by
  have HC := Lib.hid (fun w' (h : w'.heap = w.heap) => canContain_any T tyT tyN true w' (by simpa [World.cell?, h] using hT.typ) hh)
  have HA := Lib.hid (fun w' (h : w'.heap = w.heap) => appendChild_any T N tyT tyN pT lst w' (hT.of_block (by rw [h])) (hN.of_block (by rw [h])) (by simpa [World.cell?, h] using hp) (by simpa [World.cell?, h] using hn) hTN (fun L e => by obtain ⟨a, b, _, ty, p, l, hd⟩ := hL L e; exact ⟨a, b, ty, p, l, hd.of_block (by rw [h])⟩))
  have HP := Lib.hid hP
  have HPT := Lib.hid hPT
  have HPN := Lib.hid hPN
  have HL := Lib.hid hL
  have ct := hP.tip
  have cn := hN.typ
  clear hP hT hN hp hn hTN hPT hPN hL hh
  go_enter Tryz.func81, Tryz.ntmps81
  go_wp2_with fail
  go_loopw [] (fun wr => wr = w) (fun _ => 0)
  case atStart => rfl
  case round =>
    subst hrel
    go_upto_region 1 with fail
    go_quiet ((go_at_call 98; exact Calls.quiet_of_same ((HC.out (World.drewN _ _) rfl).mono fun _ _ h => ⟨h.1, h.2.symm⟩)))
    go_wp2_with fail
    refine (HA.out (World.drewN _ _) rfl).mono ?_
    rintro e w2 ⟨rfl, hap⟩
    have hbut := hap.but
    have hP2 : Tip w2 P T := HP.out.of_block (hbut.block P HP.out.lt (by
      rintro (e | e | e)
      · exact HPN.out e
      · exact HPT.out e
      · obtain ⟨_, _, h3, _⟩ := HL.out P e.symm
        exact h3 rfl))
    have HAp := Lib.hid hap
    have HP2 := Lib.hid hP2
    have ct2 := hP2.tip
    have cf2 := hP2.froz
    clear hap hbut hP2 ct cn HC HA
    go_wp2_with fail
    go_ret
    refine ⟨rfl, HP2.out.set N, HAp.out.top.far _ _ HPT.out, HAp.out.new.far _ _ HPN.out, fun L e ty p l hd => (HAp.out.last L e ty p l (hd.of_block rfl)).far _ _ (fun e2 => ?_), ?_⟩
    · obtain ⟨_, _, h3, _⟩ := HL.out L e
      exact h3 e2.symm
    · have hb0 := HAp.out.but
      have hb : But (fun k => k = P ∨ k = N ∨ k = T ∨ some k = lst) wr w2 := ⟨hb0.os, hb0.tape, hb0.output, hb0.size, fun k hk hn => hb0.block k hk (fun h => hn (Or.inr h))⟩
      exact hb.set ⟨P, 265, none⟩ _ (Or.inl rfl)

end Go.Proofs.YtlndmebmcjngfaaGreatDoor
