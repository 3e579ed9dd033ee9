/- Tables: addExistingChild walked at a cell behind a cell. No condition. -/
import Derived.Test.YtlndmebmcjngfaaGreatDoorTabH
namespace Go.Proofs.YtlndmebmcjngfaaGreatDoor
open Go.ChangeShapes Go.WideShapes Go.ChangeAt Go.RowKit

/-- the tip was closed: its parent is the tip -/
structure Shut2 (P R C N : Nat) (w wr : World) : Prop where
  tip : Tip wr P R
  nds : ∀ b ty p l, b ≠ P → Nd w b ty p l → Nd wr b ty p l
  prev : wr.cell? ⟨N, 4, none⟩ = some (.pointer none)
  next : wr.cell? ⟨N, 5, none⟩ = some (.pointer none)
  but : But (fun k => k = P ∨ k = C) w wr
/-- where the loop stands -/
def At2 (P R C N : Nat) (w : World) (g : Nat) (wr : World) : Prop := (g = 1 ∧ wr = w) ∨ (g = 0 ∧ Shut2 P R C N w wr)

theorem cell_far (w : World) (b i c j : Nat) (v : Value) (h : b ≠ c) : (w.setCell ⟨b, i, none⟩ v).cell? ⟨c, j, none⟩ = w.cell? ⟨c, j, none⟩ := by
  have hne : (⟨b, i, none⟩ : Addr) ≠ ⟨c, j, none⟩ := by intro e; cases e; exact h rfl
  exact World.cell?_setCell_other (w := w) (v := v) _ _ hne
set_option maxHeartbeats 4000000 in
theorem addExisting2_any (P R C N : Nat) (pR lC : Option Nat) (w : World) (hP : Tip w P C) (hC : Nd w C 20 (some R) lC) (hR : Nd w R 23 pR (some C)) (hN : Nd w N 20 none none) (hp : w.cell? ⟨N, 4, none⟩ = some (.pointer none)) (hn : w.cell? ⟨N, 5, none⟩ = some (.pointer none))
    (hPR : P ≠ R) (hPC : P ≠ C) (hPN : P ≠ N) (hRC : R ≠ C) (hRN : R ≠ N) (hCN : C ≠ N) (o : Value) :
    Calls Tryz.prog 81 #[.pointer (some ⟨P, 0, none⟩), .pointer (some ⟨N, 0, none⟩), o] w fun e w' => e = .returned (.pointer (some ⟨N, 0, none⟩)) ∧ Added P R N 23 20 pR (some C) w w' := by
  have HP := Lib.hid hP
  have HCd := Lib.hid hC
  have HR := Lib.hid hR
  have HN := Lib.hid hN
  have Hp := Lib.hid hp
  have Hn := Lib.hid hn
  have HPR := Lib.hid hPR
  have HPC := Lib.hid hPC
  have HPN := Lib.hid hPN
  have HRC := Lib.hid hRC
  have HRN := Lib.hid hRN
  have HCN := Lib.hid hCN
  clear hP hC hR hN hp hn hPR hPC hPN hRC hRN hCN
  go_enter Tryz.func81, Tryz.ntmps81
  go_wp2_with fail
  go_loopg [] 1 (fun g wr => At2 P R C N w g wr)
  case atStart => exact Or.inl ⟨rfl, rfl⟩
  case round =>
    rcases hrel with ⟨hg, hw⟩ | ⟨hg, hs⟩
    · subst hg hw
      have HK := Lib.hid (fun w' (h : w'.heap = wr.heap) => canContain_any C 20 20 false w' (by simpa [World.cell?, h] using HCd.out.typ) (Or.inr (Or.inr (Or.inr ⟨rfl, rfl, rfl⟩))))
      have HF := Lib.hid (fun n => finalize_any P C 20 (some R) lC (.pointer (some ⟨C, 0, none⟩)) (wr.drewN n) (HCd.out.of_block rfl) HPC.out HP.out.tip HP.out.froz)
      have ct := HP.out.tip
      have cn := HN.out.typ
      go_upto_region 1 with fail
      go_quiet ((go_at_call 98; exact Calls.quiet_of_same ((HK.out (World.drewN _ _) rfl).mono fun _ _ h => ⟨h.1, h.2.symm⟩)))
      go_wp2_with fail
      refine (HF.out _).mono ?_
      rintro e w2 ⟨rfl, u, rfl⟩
      clear HF HK ct cn
      go_wp2_with fail
      go_roundg 0
      case measure => omega
      case rel =>
        have hCP : C ≠ P := fun e => HPC.out e.symm
        refine Or.inr ⟨rfl, ⟨?_, fun b ty p l hb hd => ?_, ?_, ?_, ?_⟩⟩
        · have h1 : ∀ q, Tip (World.setCell (World.drewN wr q) ⟨C, 28, none⟩ u) P C := fun q => (HP.out.of_block (w' := World.drewN wr q) rfl).of_block (heap_setCell_other _ _ _ _ hCP)
          exact (h1 _).set R
        · refine Nd.far ?_ _ _ (fun e => hb e.symm)
          by_cases e : b = C
          · subst e
            exact (hd.of_block (w' := World.drewN wr _) rfl).set 28 _ (by decide) (by decide) (by decide)
          · exact (hd.of_block (w' := World.drewN wr _) rfl).far _ _ (fun e2 => e e2.symm)
        · exact (cell_far _ P 265 N 4 _ HPN.out).trans ((cell_far _ C 28 N 4 _ HCN.out).trans Hp.out)
        · exact (cell_far _ P 265 N 5 _ HPN.out).trans ((cell_far _ C 28 N 5 _ HCN.out).trans Hn.out)
        · have hb : ∀ q, But (fun k => k = P ∨ k = C) wr (World.drewN wr q) := fun q => ⟨rfl, rfl, rfl, Nat.le_refl _, fun _ _ _ => rfl⟩
          exact ((hb _).set ⟨C, 28, none⟩ _ (Or.inr rfl)).set ⟨P, 265, none⟩ _ (Or.inl rfl)
    · subst hg
      have HS := Lib.hid hs
      have hR1 := hs.nds R 23 pR (some C) (fun e => HPR.out e.symm) HR.out
      have hN1 := hs.nds N 20 none none (fun e => HPN.out e.symm) HN.out
      have hC1 := hs.nds C 20 (some R) lC (fun e => HPC.out e.symm) HCd.out
      have HK := Lib.hid (fun w' (h : w'.heap = wr.heap) => canContain_any R 23 20 true w' (by simpa [World.cell?, h] using hR1.typ) (Or.inr (Or.inr (Or.inl ⟨rfl, rfl, rfl⟩))))
      have HA := Lib.hid (fun n => appendChild_any R N 23 20 pR (some C) (wr.drewN n) (hR1.of_block rfl) (hN1.of_block rfl) hs.prev hs.next HRN.out (fun L e => by cases e; exact ⟨fun e => HRC.out e.symm, HCN.out, 20, some R, lC, hC1.of_block rfl⟩))
      have ct := hs.tip.tip
      have cn := hN1.typ
      clear hs hR1 hN1 hC1
      go_upto_region 1 with fail
      go_quiet ((go_at_call 98; exact Calls.quiet_of_same ((HK.out (World.drewN _ _) rfl).mono fun _ _ h => ⟨h.1, h.2.symm⟩)))
      go_wp2_with fail
      refine (HA.out _).mono ?_
      rintro e w2 ⟨rfl, hap⟩
      have hP2 : Tip w2 P R := HS.out.tip.of_block (hap.but.block P HS.out.tip.lt (by
        rintro (e | e | e)
        · exact HPN.out e
        · exact HPR.out e
        · cases e; exact HPC.out rfl))
      have HAp := Lib.hid hap
      have HP2 := Lib.hid hP2
      have ct2 := hP2.tip
      have cf2 := hP2.froz
      clear hap hP2 ct cn HK HA
      go_wp2_with fail
      go_ret
      refine ⟨rfl, HP2.out.set N, HAp.out.top.far _ _ HPR.out, HAp.out.new.far _ _ HPN.out, fun L e ty p l hd => ?_, ?_⟩
      · cases e
        exact (HAp.out.last C rfl ty p l ((HS.out.nds C ty p l (fun e => HPC.out e.symm) hd).of_block rfl)).far _ _ HPC.out
      · have hb0 := HAp.out.but
        have hb : But (fun k => k = P ∨ k = N ∨ k = R ∨ some k = some C) wr w2 := ⟨hb0.os, hb0.tape, hb0.output, hb0.size, fun k hk hn => hb0.block k hk (fun h => hn (Or.inr h))⟩
        have hb1 : But (fun k => k = P ∨ k = N ∨ k = R ∨ some k = some C) w wr := HS.out.but.mono (fun k _ h => h.elim Or.inl (fun e => Or.inr (Or.inr (Or.inr (by rw [e])))))
        exact (hb1.trans hb).set ⟨P, 265, none⟩ _ (Or.inl rfl)

end Go.Proofs.YtlndmebmcjngfaaGreatDoor
