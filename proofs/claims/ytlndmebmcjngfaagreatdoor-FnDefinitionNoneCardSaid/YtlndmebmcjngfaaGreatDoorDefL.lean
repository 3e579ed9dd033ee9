/- Definitions: impl.Definition walked; a byte appended to a converted text. Condition: lengths are bounded. -/
import Derived.Test.YtlndmebmcjngfaaGreatDoorDefJ
import Derived.Test.YtlndmebmcjngfaaGreatDoorDefH
namespace Go.Proofs.YtlndmebmcjngfaaGreatDoor
open Go.ChangeShapes Go.WideShapes Go.ChangeAt Go.RowKit

/-- a number and whatever else was read; nothing that was there has turned -/
def DefSaid (P : Int → Prop) (w : World) (e : Ending) (w' : World) : Prop :=
  ∃ (le : Int) (s1 s2 s3 : ByteArray) (nt : Bool), P le ∧ e = .returned (.tuple #[.int .i64 le, .string s1, .string s2, .string s3, .bool nt]) ∧ Below w.heap.size w w'

theorem PM.five {B : Nat} {ext le : Int} {w0 w wm : World} (hP : PM B ext w0 w) {r : Nat} {e : Ending} {w' : World} (hr : B < r) (h : FiveSaid le r w e w') (hB : wm.heap.size ≤ B) (hb : Below wm.heap.size wm w) {P : Int → Prop} (hl : P le) : DefSaid P wm e w' := by
  obtain ⟨s1, s2, s3, nt, he, hg⟩ := h
  exact ⟨le, s1, s2, s3, nt, hl, he, hb.grown hg hb.size (fun k hk => by cases hk; omega)⟩

set_option maxHeartbeats 2000000 in
set_option maxRecDepth 100000 in
/-- impl.Definition, what ReadReference answers handed in -/
theorem def_any (ext : Int) (p : Option Addr) (n c : Nat) (l : List UInt8) (w : World) (P : Int → Prop) (h : Bs w p n l) (h0 : 0 < n) (hn : n ≤ 1000000)
    (hread : ∀ (B r b o cc : Nat) (w0 wx : World), PM B ext w0 wx → wx.cell? ⟨B, 2, none⟩ = some (.map (some r)) → wx.heap[r]? = some (.map #[] 0) → B < r → r < wx.heap.size → b ≠ r → Bs wx (some ⟨b, o, none⟩) n l → n ≤ cc →
      Calls Tryz.prog 23 #[.pointer (some ⟨B, 0, none⟩), .slice (some ⟨b, o, none⟩) n cc, .int .i64 4] wx fun e w' => ∃ le : Int, P le ∧ FiveSaid le r wx e w') :
    Calls Tryz.prog 14 #[.int .i64 ext, .slice p n c] w (DefSaid P w) := by
  have H := Lib.hid h
  have HP := Lib.hid (parser_any ext w)
  have HRd := Lib.hid hread
  clear h hread
  go_enter Tryz.func14, Tryz.ntmps14
  go_wp2_with fail
  refine HP.out.mono ?_
  rintro e w1 ⟨B, wm, rfl, hB1, hB2, hB3, hP⟩
  have hbel : Below w.heap.size w w1 := hB3.trans (hP.below.mono hB1)
  have HPM := Lib.hid hP
  have HBel := Lib.hid hbel
  have HO := Lib.hid (own_bs p n c l w1 (H.out.below hbel (Nat.le_refl _)) (by omega))
  have HB1 := Lib.hid hB1
  clear hB1 hB2 hB3 hP hbel HP
  go_wp2_with fail
  refine HO.out.mono ?_
  rintro e w2 ⟨p2, c2, rfl, hc1, hc2, hBs, hBel⟩
  have HPM2 := Lib.hid (HPM.out.grow hBel)
  obtain ⟨r, hr1, hr2, hr3, hr4⟩ := HPM.out.refs
  obtain ⟨b2, o2, e2, hb2, hcell2⟩ := hBs.cells h0
  subst e2
  have hbn : b2 ≠ r := by
    intro e
    subst e
    have hc := hcell2 0 h0
    rw [hBel.cell (p := ⟨b2, o2 + 0, none⟩) hr2] at hc
    simp [World.cell?, hr4] at hc
  have HR := Lib.hid (HRd.out B r b2 o2 c2 wm w2 HPM2.out (by rw [hBel.cell (p := ⟨B, 2, none⟩) HPM.out.size]; exact hr3) ((hBel.block r hr2).trans hr4) hr1 (by have := hBel.size; omega) hbn hBs hc1)
  have HBel2 := Lib.hid (HBel.out.trans (hBel.mono HBel.out.size))
  have HR1 := Lib.hid hr1
  clear hBs hBel hcell2 hr1 hr2 hr3 hr4 HO hbn
  go_wp2_with fail
  refine HR.out.mono ?_
  rintro e w3 ⟨le, hle, s1, s2, s3, nt, rfl, hg⟩
  have HG := Lib.hid hg
  have HLe := Lib.hid hle
  clear hg hle
  go_wp2_with fail
  exact bodyPost_ret (v := .tuple #[.int .i64 le, .string s1, .string s2, .string s3, .bool nt]) (by simp [results, Tryz.results14, go_sem]) rfl ⟨le, s1, s2, s3, nt, HLe.out, rfl, HBel2.out.grown HG.out HBel2.out.size (fun k hk => by cases hk; have := HB1.out; have := HR1.out; omega)⟩

/-- no definition, by one of the three ways -/
def NoneL (l : List UInt8) : Prop := (∃ e, NoColon l e) ∨ (∃ e, NoClose l e) ∨ (4 ≤ l.length ∧ ∀ j, j < 4 → bat l j = 32)
theorem def_none (ext : Int) (p : Option Addr) (n c : Nat) (l : List UInt8) (w : World) (h : Bs w p n l) (hN : NoneL l) (hn : n ≤ 1000000) :
    Calls Tryz.prog 14 #[.int .i64 ext, .slice p n c] w (DefSaid (fun le => le = 0) w) := by
  have hl := h.len
  have h0 : 0 < n := by
    rcases hN with ⟨e, hE⟩ | ⟨e, hE⟩ | ⟨h4, _⟩
    · have := hE.len; omega
    · have := hE.len; omega
    · omega
  refine def_any ext p n c l w _ h h0 hn fun B r b o cc w0 wx hP hm hr hBr hrs hbr hBs hcc => ?_
  refine (read_no B r (some ⟨b, o, none⟩) n cc wx hm hr ?_).mono fun e w' h => ⟨0, rfl, h⟩
  rcases hN with ⟨e, hE⟩ | ⟨e, hE⟩ | ⟨h4, hb⟩
  · exact isRef_noColon ext B _ n cc e l wx hBs hE hP.ext hn
  · exact isRef_noClose ext B _ n cc e l wx hBs hE hP.ext hn
  · exact isRef_no4 ext B _ n cc l wx hBs (by omega) hb hn

end Go.Proofs.YtlndmebmcjngfaaGreatDoor
