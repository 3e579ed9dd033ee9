/- Definitions: ReadReference walked. Condition: what isReference answers there is handed in. -/
import Derived.Test.YtlndmebmcjngfaaGreatDoorDefG
import Derived.Deep.QuietTactic
namespace Go.Proofs.YtlndmebmcjngfaaGreatDoor
open Go.ChangeShapes Go.WideShapes Go.ChangeAt Go.RowKit Go.Maps Go.ChangeMaps Go.MapKept Go.WideMaps

/-- five results: a number and whatever was read -/
def FiveSaid (le : Int) (r : Nat) (w : World) (e : Ending) (w' : World) : Prop :=
  ∃ (s1 s2 s3 : ByteArray) (nt : Bool), e = .returned (.tuple #[.int .i64 le, .string s1, .string s2, .string s3, .bool nt]) ∧ w.grownBy w' (some r)

theorem grown_drewN {a w : World} {row : Option Nat} (h : a.grownBy w row) (n : Nat) : a.grownBy (w.drewN n) row := ⟨h.os, h.tape, h.output, h.size, h.block⟩

theorem strInv {key : Value} {kl : Lit} (h : keyOf Tryz.prog 9 key = some kl) : ∃ x, key = Value.string x := by
  cases key <;> simp [keyOf, Tryz.underlying9, mapKey] at h
  exact ⟨_, rfl⟩
theorem has_put_self (kl : List UInt8) : Maps.has ((DataW.map (H := Unit) []).put (.string kl) (.lit (.bool true))) (.string kl) = true :=
  has_put_same ⟨[], rfl⟩ (by trivial) _

set_option maxHeartbeats 4000000 in
set_option maxRecDepth 100000 in
theorem read_no (B r : Nat) (p : Option Addr) (n c : Nat) (w : World) (hm : w.cell? ⟨B, 2, none⟩ = some (.map (some r))) (hr : w.heap[r]? = some (.map #[] 0))
    (href : Calls Tryz.prog 27 #[.pointer (some ⟨B, 0, none⟩), .slice p n c, .int .i64 4] w fun e w' => e = .returned (.int .i64 0) ∧ w = w') :
    Calls Tryz.prog 23 #[.pointer (some ⟨B, 0, none⟩), .slice p n c, .int .i64 4] w (FiveSaid 0 r w) := by
  have HF := Lib.hid href
  have HO := Lib.hid (ownsMap_empty w.heap.size hr)
  clear href hr
  go_enter Tryz.func23, Tryz.ntmps23
  go_wp2_with fail
  refine HF.out.mono ?_
  rintro e w1 ⟨rfl, rfl⟩
  go_wp2_with (at_range; refine wpList_range_own _ rfl _ 65 rfl 9 73 strLaw Tryz.underlying65 _ r 0 _ rfl HO.out ?_; intro w0 hrg0 hg0 hs0)
  go_frame
  have HG := Lib.hid hg0
  have HR := Lib.hid hrg0
  clear hg0 hrg0 hs0
  refine wp_loop_rounds 1 ?_
  rw [rounds_succ]
  go_wp2_with (at_next; refine wpList_next_ranges _ rfl _ rfl 9 strLaw (refElem w.heap.size) Value.string (fun _ : Unit => .pointer (some ⟨w.heap.size, 0, none⟩)) (fun key kl hk => strInv hk) (fun v y hv => ⟨(), refElem_inv hv⟩) r w.heap.size 0 _ _ _ rfl HR.out ?_ ?_)
  · intro _ _
    go_wp2_with fail
    exact bodyPost_ret (v := .tuple #[.int .i64 0, .string ⟨#[]⟩, .string ⟨#[]⟩, .string ⟨#[]⟩, .bool false]) (by simp [results, Tryz.results23, go_sem]) rfl ⟨_, _, _, _, rfl, HG.out.but _⟩
  · intro x c kl y w' cnt' hkey hlk
    cases hlk

set_option maxHeartbeats 4000000 in
set_option maxRecDepth 100000 in
theorem read_yes (B r b o n c : Nat) (l : List UInt8) (w : World) (hB : B < w.heap.size) (hm : w.cell? ⟨B, 2, none⟩ = some (.map (some r))) (hr : r < w.heap.size) (hBr : B ≠ r)
    (href : Calls Tryz.prog 27 #[.pointer (some ⟨B, 0, none⟩), .slice (some ⟨b, o, none⟩) n c, .int .i64 4] w (RefSaid r n c (some ⟨b, o, none⟩) l w)) :
    Calls Tryz.prog 23 #[.pointer (some ⟨B, 0, none⟩), .slice (some ⟨b, o, none⟩) n c, .int .i64 4] w fun e w' => ∃ le : Nat, 0 < le ∧ FiveSaid le r w e w' := by
  have HF := Lib.hid href
  have HRl := Lib.hid hr
  have HNe := Lib.hid hBr
  have HM := Lib.hid hm
  clear href hr hBr hm
  go_enter Tryz.func23, Tryz.ntmps23
  go_wp2_with fail
  refine HF.out.mono ?_
  rintro e w1 ⟨le, kl, p1, p2, n1, n2, c1, c2, l1, l2, rfl, hle, hown, hgr, k0, k1, k2, b1, b2⟩
  have hm1 : w1.cell? ⟨B, 2, none⟩ = some (.map (some r)) := by
    rw [cell_of_block (hgr.block B hB (by simpa using HNe.out))]
    exact HM.out
  have HO := Lib.hid hown
  have HG1 := Lib.hid hgr
  have HLe := Lib.hid hle
  have K0 := Lib.hid k0
  have K1 := Lib.hid k1
  have K2 := Lib.hid k2
  have B1 := Lib.hid b1
  have B2 := Lib.hid b2
  clear hown hgr hle k0 k1 k2 b1 b2 HF HM
  go_wp2_with (at_range; refine wpList_range_own _ rfl _ 65 rfl 9 73 strLaw Tryz.underlying65 _ r 1 _ rfl HO.out ?_; intro w0 hrg0 hg0 hs0)
  go_frame
  have HG := Lib.hid hg0
  have HR := Lib.hid hrg0
  clear hg0 hrg0 hs0 hm1
  refine wp_loop_rounds 1 ?_
  rw [rounds_succ]
  go_wp2_with (at_next; refine wpList_next_ranges _ rfl _ rfl 9 strLaw (refElem w.heap.size) Value.string (fun _ : Unit => .pointer (some ⟨w.heap.size, 0, none⟩)) (fun key kl hk => strInv hk) (fun v y hv => ⟨(), refElem_inv hv⟩) r w1.heap.size 1 _ _ _ rfl HR.out ?_ ?_)
  · intro _ hl
    have := hl (.string kl)
    rw [has_put_self] at this
    cases this
  · intro x c kl2 y w2 cnt' hkey hlk hv hat hrg hlt hgr2 hsz hen
    have hG := HG.out
    have hb : Below w1.heap.size w1 w2 := ⟨hgr2.os.trans hG.os, hgr2.tape.trans hG.tape, hgr2.output.trans hG.output, Nat.le_trans hG.size hgr2.size, fun k hk => by
      rw [hgr2.block k (by have := hG.size; omega) (by simp; omega), hG.block k hk (by simp)]⟩
    have hz : w.heap.size < w1.heap.size := World.block_lt_of_cell? w1 _ K0.out
    have k0 : w2.cell? ⟨w.heap.size, 0, none⟩ = some (.slice p1 n1 c1) := by rw [hb.cell (p := ⟨w.heap.size, 0, none⟩) hz]; exact K0.out
    have k1 : w2.cell? ⟨w.heap.size, 1, none⟩ = some (.slice p2 n2 c2) := by rw [hb.cell (p := ⟨w.heap.size, 1, none⟩) hz]; exact K1.out
    have k2 : w2.cell? ⟨w.heap.size, 2, none⟩ = some (.int .i64 0) := by rw [hb.cell (p := ⟨w.heap.size, 2, none⟩) hz]; exact K2.out
    have v1 : ∀ n : Nat, (convert 23 9 (.slice p1 n1 c1)).run Tryz.prog (w2.drewN n) = .ok (.string (str l1)) (w2.drewN n) := fun n => ((B1.out.below hb (Nat.le_refl _)).drewN n).convert c1
    have v2 : ∀ n : Nat, (convert 23 9 (.slice p2 n2 c2)).run Tryz.prog (w2.drewN n) = .ok (.string (str l2)) (w2.drewN n) := fun n => ((B2.out.below hb (Nat.le_refl _)).drewN n).convert c2
    have HGr := Lib.hid (HG1.out.trans (⟨hb.os, hb.tape, hb.output, hb.size, fun k hk _ => hb.block k hk⟩ : w1.grownBy w2 (some r)))
    clear hkey hlk hv hat hrg hlt hgr2 hsz hb hz hG
    go_wp2_with fail
    go_quiet (fail)
    go_wp2_with fail
    exact bodyPost_ret (v := .tuple #[.int .i64 (le : Int), .string x, .string (str l1), .string (str l2), .bool false]) (by simp [results, Tryz.results23, go_sem]) rfl ⟨le, HLe.out, _, _, _, _, rfl, grown_drewN HGr.out _⟩

end Go.Proofs.YtlndmebmcjngfaaGreatDoor
