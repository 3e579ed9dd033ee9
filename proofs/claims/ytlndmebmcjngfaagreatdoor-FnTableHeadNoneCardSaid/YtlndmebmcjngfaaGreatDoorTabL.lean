/- Tables: impl.parser walked: a new parser, its tip the document's node, all closed. Condition: the extensions are a number. -/
import Derived.Test.YtlndmebmcjngfaaGreatDoorTabJ
namespace Go.Proofs.YtlndmebmcjngfaaGreatDoor
open Go.ChangeShapes Go.WideShapes Go.ChangeAt Go.RowKit

/-- a new parser and the node of its document; g tells how much of it is laid -/
structure PT (g B : Nat) (ext : Int) (nd : Nat) (w wx : World) : Prop extends PM B ext w wx where
  lt : B < nd
  node : Nd wx nd 0 none none
  tip : 1 ≤ g → wx.cell? ⟨B, 265, none⟩ = some (.pointer (some ⟨nd, 0, none⟩))
  shut : 2 ≤ g → wx.cell? ⟨B, 268, none⟩ = some (.bool true)
theorem PT.set {g B : Nat} {ext : Int} {nd : Nat} {w wx : World} (h : PT g B ext nd w wx) (i : Nat) (v : Value) (h1 : i ≠ 259 := by decide) (h2 : i ≠ 2 := by decide) (h3 : i ≠ 265 := by decide) (h4 : i ≠ 268 := by decide) : PT g B ext nd w (wx.setCell ⟨B, i, none⟩ v) :=
  ⟨h.toPM.set i v h1 h2, h.lt, h.node.far _ _ (Nat.ne_of_lt h.lt), fun hg => (setOther wx B i 265 v h3).trans (h.tip hg), fun hg => (setOther wx B i 268 v h4).trans (h.shut hg)⟩
theorem PT.grow {g B : Nat} {ext : Int} {nd : Nat} {w wx wy : World} (h : PT g B ext nd w wx) (hb : Below wx.heap.size wx wy) : PT g B ext nd w wy :=
  ⟨h.toPM.grow hb, h.lt, h.node.of_block (hb.block nd h.node.lt), fun hg => (hb.cell (p := ⟨B, 265, none⟩) h.size).trans (h.tip hg), fun hg => (hb.cell (p := ⟨B, 268, none⟩) h.size).trans (h.shut hg)⟩
theorem PT.setTip {B : Nat} {ext : Int} {nd : Nat} {w wx : World} (h : PT 0 B ext nd w wx) : PT 1 B ext nd w (wx.setCell ⟨B, 265, none⟩ (.pointer (some ⟨nd, 0, none⟩))) := by
  obtain ⟨u, hu⟩ := h.cells 265 (by decide)
  exact ⟨h.toPM.set 265 _ (by decide) (by decide), h.lt, h.node.far _ _ (Nat.ne_of_lt h.lt), fun _ => World.cell?_setCell_same _ _ _ hu, fun hg => absurd hg (by decide)⟩
theorem PT.setShut {B : Nat} {ext : Int} {nd : Nat} {w wx : World} (h : PT 1 B ext nd w wx) : PT 2 B ext nd w (wx.setCell ⟨B, 268, none⟩ (.bool true)) := by
  obtain ⟨u, hu⟩ := h.cells 268 (by decide)
  exact ⟨h.toPM.set 268 _ (by decide) (by decide), h.lt, h.node.far _ _ (Nat.ne_of_lt h.lt), fun _ => (setOther wx B 268 265 _ (by decide)).trans (h.tip (by decide)), fun _ => World.cell?_setCell_same _ _ _ hu⟩
theorem PT.toTip {B : Nat} {ext : Int} {nd : Nat} {w wx : World} (h : PT 2 B ext nd w wx) : Tip wx B nd := ⟨h.tip (by decide), h.froz 265, h.shut (by decide)⟩

set_option maxHeartbeats 4000000 in
set_option maxRecDepth 100000 in
theorem newTip_any (ext : Int) (ab ao : Nat) (q : Addr) (w : World) (ha : w.cell? ⟨ab, ao, none⟩ = some (.func (.func 44) #[] #[.pointer (some q)])) (hq : w.cell? q = some (.int .i64 ext)) (hab : ab < w.heap.size) (hqb : q.block < w.heap.size) :
    Calls Tryz.prog 25 #[.slice (some ⟨ab, ao, none⟩) 1 1] w fun e w' => e = .returned (.pointer (some ⟨w.heap.size, 0, none⟩)) ∧ ∃ nd, PT 2 w.heap.size ext nd w w' := by
  obtain ⟨B, hB⟩ : ∃ B, B = w.heap.size := ⟨_, rfl⟩
  have HN := Lib.hid (PW.new w)
  have HB := Lib.hid hB
  have HA := Lib.hid ha
  have HQ := Lib.hid hq
  rw [← hB] at hab hqb ⊢
  clear ha hq hB
  go_enter Tryz.func25, Tryz.ntmps25
  go_upto_region 1 with fail
  go_cut [3] (fun s wx => s = .pointer (some ⟨B, 0, none⟩) ∧ PW B w wx)
  case first =>
    go_wp2_with fail
    go_meet
    exact ⟨by rw [HB.out], by rw [HB.out]; exact HN.out⟩
  case rest =>
    obtain ⟨rfl, hw⟩ := hcut
    have HW := Lib.hid hw
    clear hw HN
    go_upto_block 0 with fail
    go_cut [9] (fun _ wx => PX B ext w wx)
    case first =>
      go_wp2_with fail
      go_loopw [9] (fun t wr => NewRel B ext w t wr) (fun t _ => 1 - (intOf t).toNat)
      case atStart => exact Or.inl ⟨rfl, HW.out⟩
      case round =>
        rcases hrel with ⟨rfl, hP⟩ | ⟨rfl, hP⟩
        · have ca : wr.cell? ⟨ab, ao, none⟩ = some (.func (.func 44) #[] #[.pointer (some q)]) := by rw [hP.below.cell (p := ⟨ab, ao, none⟩) hab]; exact HA.out
          have HO := Lib.hid (opt_any ext q B w wr hP (by rw [hP.below.cell hqb]; exact HQ.out))
          clear hP
          go_wp2_with fail
          refine HO.out.mono ?_
          rintro e w1 ⟨rfl, hP1⟩
          have HP1 := Lib.hid hP1
          clear hP1
          go_wp2_with fail
          go_roundw
          case rel => exact Or.inr ⟨rfl, HP1.out⟩
          case measure => simp [intOf]
        · have HP := Lib.hid hP
          clear hP
          go_wp2_with fail
          go_meet
          exact HP.out
    case rest =>
      have HP := Lib.hid hcut
      clear hcut HW
      have hmm := @run_makeMap Tryz.prog
      have hsz := HP.out.size
      have f2 := HP.out.froz 2
      obtain ⟨v2, c2⟩ := HP.out.cells 2 (by decide)
      have f261 := HP.out.froz 261
      obtain ⟨v261, c261⟩ := HP.out.cells 261 (by decide)
      have f262 := HP.out.froz 262
      obtain ⟨v262, c262⟩ := HP.out.cells 262 (by decide)
      go_upto_region 10 with fail
      go_cut [6] (fun s wx => ∃ nd : Nat, s = .pointer (some ⟨nd, 0, none⟩) ∧ PT 0 B ext nd w wx)
      case first =>
        have hP := HP.out.map
        have hP1 := (hP.set 261 (.int .i64 16) (by decide) (by decide)).set 262 (.bool false) (by decide) (by decide)
        have e1 : (((wc.alloc (.map #[] 0)).setCell ⟨B, 2, none⟩ (.map (some wc.heap.size))).setCell ⟨B, 261, none⟩ (.int .i64 16)).setCell ⟨B, 262, none⟩ (.bool false) = (((wc.setCell ⟨B, 2, none⟩ (.map (some wc.heap.size))).setCell ⟨B, 261, none⟩ (.int .i64 16)).setCell ⟨B, 262, none⟩ (.bool false)).alloc (.map #[] 0) := by rw [World.setCell_alloc_past (hn := hsz), World.setCell_alloc_past (hn := by simpa using hsz), World.setCell_alloc_past (hn := by simpa using hsz)]
        rw [e1] at hP1
        have HP1 := Lib.hid hP1
        clear hP hP1 e1
        go_wp2_with fail
        refine (newNd_any 0 _).mono ?_
        rintro e w1 ⟨rfl, hb⟩
        have HB1 := Lib.hid hb
        clear hb
        go_wp2_with fail
        go_meet
        exact ⟨_, rfl, HP1.out.grow HB1.out.below, (by omega), (by simpa using HB1.out.nd), fun h => absurd h (by decide), fun h => absurd h (by decide)⟩
      obtain ⟨nd, rfl, hP⟩ := hcut
      clear hmm hsz HP f2 c2 f261 c261 f262 c262
      have HP := Lib.hid hP
      clear hP
      have f264 := HP.out.froz 264
      obtain ⟨v264, c264⟩ := HP.out.cells 264 (by decide)
      have f265 := HP.out.froz 265
      obtain ⟨v265, c265⟩ := HP.out.cells 265 (by decide)
      have f266 := HP.out.froz 266
      obtain ⟨v266, c266⟩ := HP.out.cells 266 (by decide)
      have f267 := HP.out.froz 267
      obtain ⟨v267, c267⟩ := HP.out.cells 267 (by decide)
      go_upto_region 14 with fail
      go_cut [] (fun wx => PT 1 B ext nd w wx)
      case first =>
        go_wp2_with fail
        go_meet
        exact ((((HP.out.set 264 _ (by decide) (by decide) (by decide) (by decide)).setTip).set 266 _ (by decide) (by decide) (by decide) (by decide)).set 267 _ (by decide) (by decide) (by decide) (by decide))
      clear HP f264 c264 f265 c265 f266 c266 f267 c267
      have HP := Lib.hid hcut
      clear hcut
      have f268 := HP.out.froz 268
      obtain ⟨v268, c268⟩ := HP.out.cells 268 (by decide)
      have f35 := HP.out.froz 35
      obtain ⟨v35, c35⟩ := HP.out.cells 35 (by decide)
      have f45 := HP.out.froz 45
      obtain ⟨v45, c45⟩ := HP.out.cells 45 (by decide)
      have f98 := HP.out.froz 98
      obtain ⟨v98, c98⟩ := HP.out.cells 98 (by decide)
      go_upto_region 18 with fail
      go_cut [] (fun wx => PT 2 B ext nd w wx)
      case first =>
        go_wp2_with fail
        go_meet
        exact ((((HP.out.setShut).set 35 _ (by decide) (by decide) (by decide) (by decide)).set 45 _ (by decide) (by decide) (by decide) (by decide)).set 98 _ (by decide) (by decide) (by decide) (by decide))
      clear HP f268 c268 f35 c35 f45 c45 f98 c98
      have HP := Lib.hid hcut
      clear hcut
      have cx := HP.out.ext
      have hsz := HP.out.size
      have f129 := HP.out.froz 129
      obtain ⟨v129, c129⟩ := HP.out.cells 129 (by decide)
      go_upto_if 39 with fail
      go_cut [] (fun wx => PT 2 B ext nd w wx)
      case first =>
        cases hT : (bits .and .i64 ext 32 != 0) with
        | false =>
          go_wp2_with fail
          go_meet
          exact HP.out
        | true =>
          go_wp2_with fail
          go_meet
          exact (HP.out.set 129 _ (by decide) (by decide) (by decide) (by decide))
      clear HP hsz cx f129 c129
      have HP := Lib.hid hcut
      clear hcut
      have f99 := HP.out.froz 99
      obtain ⟨v99, c99⟩ := HP.out.cells 99 (by decide)
      have f13 := HP.out.froz 13
      obtain ⟨v13, c13⟩ := HP.out.cells 13 (by decide)
      have f94 := HP.out.froz 94
      obtain ⟨v94, c94⟩ := HP.out.cells 94 (by decide)
      have f63 := HP.out.froz 63
      obtain ⟨v63, c63⟩ := HP.out.cells 63 (by decide)
      go_upto_region 24 with fail
      go_cut [] (fun wx => PT 2 B ext nd w wx)
      case first =>
        go_wp2_with fail
        go_meet
        exact ((((HP.out.set 99 _ (by decide) (by decide) (by decide) (by decide)).set 13 _ (by decide) (by decide) (by decide) (by decide)).set 94 _ (by decide) (by decide) (by decide) (by decide)).set 63 _ (by decide) (by decide) (by decide) (by decide))
      clear HP f99 c99 f13 c13 f94 c94 f63 c63
      have HP := Lib.hid hcut
      clear hcut
      have f95 := HP.out.froz 95
      obtain ⟨v95, c95⟩ := HP.out.cells 95 (by decide)
      have f41 := HP.out.froz 41
      obtain ⟨v41, c41⟩ := HP.out.cells 41 (by decide)
      have f36 := HP.out.froz 36
      obtain ⟨v36, c36⟩ := HP.out.cells 36 (by decide)
      have f97 := HP.out.froz 97
      obtain ⟨v97, c97⟩ := HP.out.cells 97 (by decide)
      go_upto_region 28 with fail
      go_cut [] (fun wx => PT 2 B ext nd w wx)
      case first =>
        go_wp2_with fail
        go_meet
        exact ((((HP.out.set 95 _ (by decide) (by decide) (by decide) (by decide)).set 41 _ (by decide) (by decide) (by decide) (by decide)).set 36 _ (by decide) (by decide) (by decide) (by decide)).set 97 _ (by decide) (by decide) (by decide) (by decide))
      clear HP f95 c95 f41 c41 f36 c36 f97 c97
      have HP := Lib.hid hcut
      clear hcut
      have cx := HP.out.ext
      have hsz := HP.out.size
      have f107 := HP.out.froz 107
      obtain ⟨v107, c107⟩ := HP.out.cells 107 (by decide)
      have f112 := HP.out.froz 112
      obtain ⟨v112, c112⟩ := HP.out.cells 112 (by decide)
      have f105 := HP.out.froz 105
      obtain ⟨v105, c105⟩ := HP.out.cells 105 (by decide)
      have f75 := HP.out.froz 75
      obtain ⟨v75, c75⟩ := HP.out.cells 75 (by decide)
      have f80 := HP.out.froz 80
      obtain ⟨v80, c80⟩ := HP.out.cells 80 (by decide)
      have f73 := HP.out.froz 73
      obtain ⟨v73, c73⟩ := HP.out.cells 73 (by decide)
      go_upto_if 61 with fail
      go_cut [] (fun wx => PT 2 B ext nd w wx)
      case first =>
        cases hT : (bits .and .i64 ext 16 != 0) with
        | false =>
          go_wp2_with fail
          go_meet
          exact HP.out
        | true =>
          go_wp2_with fail
          go_meet
          exact ((((((HP.out.set 107 _ (by decide) (by decide) (by decide) (by decide)).set 112 _ (by decide) (by decide) (by decide) (by decide)).set 105 _ (by decide) (by decide) (by decide) (by decide)).set 75 _ (by decide) (by decide) (by decide) (by decide)).set 80 _ (by decide) (by decide) (by decide) (by decide)).set 73 _ (by decide) (by decide) (by decide) (by decide))
      clear HP hsz cx f107 c107 f112 c112 f105 c105 f75 c75 f80 c80 f73 c73
      have HP := Lib.hid hcut
      clear hcut
      have cx := HP.out.ext
      have hsz := HP.out.size
      have f263 := HP.out.froz 263
      obtain ⟨v263, c263⟩ := HP.out.cells 263 (by decide)
      go_upto_if 77 with fail
      go_cut [] (fun wx => PT 2 B ext nd w wx)
      case first =>
        cases hT : (bits .and .i64 ext 1024 != 0) with
        | false =>
          go_wp2_with fail
          go_meet
          exact HP.out
        | true =>
          have hmk : ∀ w : World, (Instr.makeSlice 69 (.int .i64 0) (.int .i64 0)).run Tryz.prog w = .ok (.slice (some ⟨w.heap.size, 0, none⟩) 0 0) (w.alloc (.cells #[] 73)) := fun _ => by kernel_rfl
          go_wp2_with fail
          go_meet
          exact (HP.out.set 263 _ (by decide) (by decide) (by decide) (by decide)).grow ((Below.refl _ _).alloc (Nat.le_refl _) _)
      clear HP hsz cx f263 c263
      have HP := Lib.hid hcut
      clear hcut
      go_wp2_with fail
      go_ret
      exact ⟨rfl, _, HP.out⟩

end Go.Proofs.YtlndmebmcjngfaaGreatDoor
