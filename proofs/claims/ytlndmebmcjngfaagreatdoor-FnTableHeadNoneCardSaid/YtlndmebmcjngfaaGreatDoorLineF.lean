/- Lines: impl.parser walked: a new parser with extensions. Condition: the extensions are not negative. -/
import Derived.Test.YtlndmebmcjngfaaGreatDoorRun
import Derived.Deep.CutBlock
import Derived.Laws.EntriesVeiled
namespace Go.Proofs.YtlndmebmcjngfaaGreatDoor
open Go.ChangeShapes Go.WideShapes Go.ChangeAt Go.RowKit

/-- block B, new since the world w, is a parser's; all that was before is as it was -/
structure PW (B : Nat) (w wx : World) : Prop where
  below : Below B w wx
  size : B < wx.heap.size
  froz : ∀ i, wx.frozen? ⟨B, i, none⟩ = false
  cells : ∀ i, i < 269 → ∃ v, wx.cell? ⟨B, i, none⟩ = some v
structure PX (B : Nat) (ext : Int) (w wx : World) : Prop extends PW B w wx where
  ext : wx.cell? ⟨B, 259, none⟩ = some (.int .i64 ext)

theorem zero56 : Tryz.zeroCells72.size = 269 := by kernel_rfl
theorem PW.new (w : World) : PW w.heap.size w (w.alloc (.cells Tryz.zeroCells72 72)) := by
  refine ⟨(Below.refl _ _).alloc (Nat.le_refl _) _, by simp, fun i => by simp, fun i hi => ?_⟩
  have hz : i < Tryz.zeroCells72.size := by rw [zero56]; exact hi
  refine ⟨Tryz.zeroCells72[i], ?_⟩
  simp [hz]
theorem PW.set {B : Nat} {w wx : World} (h : PW B w wx) (i : Nat) (v : Value) : PW B w (wx.setCell ⟨B, i, none⟩ v) := by
  refine ⟨h.below.setCell (Nat.le_refl _) _, by simpa using h.size, fun j => by simpa using h.froz j, fun j hj => ?_⟩
  obtain ⟨u, hu⟩ := h.cells j hj
  exact cell?_setCell_some (w := wx) (p := ⟨B, i, none⟩) (x := v) (q := ⟨B, j, none⟩) (v := u) hu
theorem PW.grow {B : Nat} {w wx wy : World} (h : PW B w wx) (hb : Below wx.heap.size wx wy) : PW B w wy := by
  have hs := h.size
  have hs2 := hb.size
  refine ⟨h.below.trans (hb.mono (by omega)), by omega, fun j => ?_, fun j hj => ?_⟩
  · rw [hb.frozen (p := ⟨B, j, none⟩) hs]; exact h.froz j
  · obtain ⟨u, hu⟩ := h.cells j hj
    exact ⟨u, by rw [hb.cell (p := ⟨B, j, none⟩) hs]; exact hu⟩
theorem PX.set {B : Nat} {ext : Int} {w wx : World} (h : PX B ext w wx) (i : Nat) (v : Value) (hi : i ≠ 259) : PX B ext w (wx.setCell ⟨B, i, none⟩ v) := by
  refine ⟨h.toPW.set i v, ?_⟩
  have hne : (⟨B, i, none⟩ : Addr) ≠ ⟨B, 259, none⟩ := by intro e; cases e; exact hi rfl
  exact (World.cell?_setCell_other (w := wx) (v := v) _ _ hne).trans h.ext
theorem PX.grow {B : Nat} {ext : Int} {w wx wy : World} (h : PX B ext w wx) (hb : Below wx.heap.size wx wy) : PX B ext w wy :=
  ⟨h.toPW.grow hb, by rw [hb.cell (p := ⟨B, 259, none⟩) h.size]; exact h.ext⟩

/-- its references are an empty map of its own -/
structure PM (B : Nat) (ext : Int) (w wx : World) : Prop extends PX B ext w wx where
  refs : ∃ r, B < r ∧ r < wx.heap.size ∧ wx.cell? ⟨B, 2, none⟩ = some (.map (some r)) ∧ wx.heap[r]? = some (.map #[] 0)
theorem heap_setCell_other (w : World) (a : Addr) (v : Value) (r : Nat) (h : a.block ≠ r) : (w.setCell a v).heap[r]? = w.heap[r]? := by
  simp only [World.setCell, Array.getElem?_modify]
  rw [if_neg h]
theorem PM.set {B : Nat} {ext : Int} {w wx : World} (h : PM B ext w wx) (i : Nat) (v : Value) (hi : i ≠ 259) (hi2 : i ≠ 2) : PM B ext w (wx.setCell ⟨B, i, none⟩ v) := by
  refine ⟨h.toPX.set i v hi, ?_⟩
  obtain ⟨r, h1, h2, h3, h4⟩ := h.refs
  have hne : (⟨B, i, none⟩ : Addr) ≠ ⟨B, 2, none⟩ := by intro e; cases e; exact hi2 rfl
  exact ⟨r, h1, by simpa using h2, (World.cell?_setCell_other (w := wx) (v := v) _ _ hne).trans h3, (heap_setCell_other wx _ _ r (by show B ≠ r; omega)).trans h4⟩
theorem PM.grow {B : Nat} {ext : Int} {w wx wy : World} (h : PM B ext w wx) (hb : Below wx.heap.size wx wy) : PM B ext w wy := by
  refine ⟨h.toPX.grow hb, ?_⟩
  obtain ⟨r, h1, h2, h3, h4⟩ := h.refs
  have hs := hb.size
  exact ⟨r, h1, by omega, by rw [hb.cell (p := ⟨B, 2, none⟩) h.size]; exact h3, (hb.block r h2).trans h4⟩
theorem PX.map {B : Nat} {ext : Int} {w wx : World} (h : PX B ext w wx) : PM B ext w ((wx.alloc (.map #[] 0)).setCell ⟨B, 2, none⟩ (.map (some wx.heap.size))) := by
  have hs := h.size
  have h1 := h.grow ((Below.refl _ _).alloc (Nat.le_refl _) (.map #[] 0))
  obtain ⟨u, hu⟩ := h1.cells 2 (by decide)
  refine ⟨h1.set 2 _ (by decide), wx.heap.size, hs, by simp, World.cell?_setCell_same _ _ _ hu, ?_⟩
  rw [heap_setCell_other _ _ _ _ (by show B ≠ _; omega)]
  show (wx.heap.push _)[wx.heap.size]? = _
  simp

theorem newNode_any (w : World) :
    Calls Tryz.prog 32 #[.int .i64 0] w fun e w' => e = .returned (.pointer (some ⟨w.heap.size, 0, none⟩)) ∧ Below w.heap.size w w' := by
  go_enter Tryz.func32, Tryz.ntmps32
  go_wp2_with fail
  go_ret
  exact ⟨rfl, (Below.refl _ _).alloc (Nat.le_refl _) _⟩

theorem withExt_any (ext : Int) (w : World) :
    Calls Tryz.prog 26 #[.int .i64 ext] w fun e w' => e = .returned (.func (.func 44) #[] #[.pointer (some ⟨w.heap.size, 0, none⟩)]) ∧ w.alloc (.cells #[.int .i64 ext] 59) = w' := by
  go_enter Tryz.func26, Tryz.ntmps26
  go_wp2_with fail
  go_ret
  exact ⟨rfl, rfl⟩

theorem opt_any (ext : Int) (q : Addr) (B : Nat) (w wx : World) (h : PW B w wx) (hq : wx.cell? q = some (.int .i64 ext)) :
    Calls Tryz.prog 44 #[.pointer (some ⟨B, 0, none⟩), .pointer (some q)] wx fun e w' => e = .returned (.tuple #[]) ∧ PX B ext w w' := by
  have HX := Lib.hid h
  have f := h.froz 259
  obtain ⟨u, c⟩ := h.cells 259 (by decide)
  clear h
  go_enter Tryz.func44, Tryz.ntmps44
  go_wp2_with fail
  go_end0
  exact ⟨rfl, ⟨HX.out.set 259 _, World.cell?_setCell_same _ _ _ c⟩⟩

def NewRel (B : Nat) (ext : Int) (w : World) (t : Value) (wr : World) : Prop := (t = .int .i64 0 ∧ PW B w wr) ∨ (t = .int .i64 1 ∧ PX B ext w wr)

set_option maxHeartbeats 4000000 in
set_option maxRecDepth 100000 in
theorem new_any (ext : Int) (ab ao : Nat) (q : Addr) (w : World) (ha : w.cell? ⟨ab, ao, none⟩ = some (.func (.func 44) #[] #[.pointer (some q)])) (hq : w.cell? q = some (.int .i64 ext)) (hab : ab < w.heap.size) (hqb : q.block < w.heap.size) :
    Calls Tryz.prog 25 #[.slice (some ⟨ab, ao, none⟩) 1 1] w fun e w' => e = .returned (.pointer (some ⟨w.heap.size, 0, none⟩)) ∧ PM w.heap.size ext w w' := by
  obtain ⟨B, hB⟩ : ∃ B, B = w.heap.size := ⟨_, rfl⟩
  have HN := Lib.hid (PW.new w)
  have HB := Lib.hid hB
  have HA := Lib.hid ha
  have HQ := Lib.hid hq
  rw [← hB] at hab hqb ⊢
  clear ha hq hB
  go_enter Tryz.func25, Tryz.ntmps25
  go_upto_region 1 with fail
  go_cut [3] (fun s wx => s = .pointer (some ⟨B, 0, none⟩) ∧ PW B w wx)
  case first =>
    go_wp2_with fail
    go_meet
    exact ⟨by rw [HB.out], by rw [HB.out]; exact HN.out⟩
  case rest =>
    obtain ⟨rfl, hw⟩ := hcut
    have HW := Lib.hid hw
    clear hw HN
    go_upto_block 0 with fail
    go_cut [9] (fun _ wx => PX B ext w wx)
    case first =>
      go_wp2_with fail
      go_loopw [9] (fun t wr => NewRel B ext w t wr) (fun t _ => 1 - (intOf t).toNat)
      case atStart => exact Or.inl ⟨rfl, HW.out⟩
      case round =>
        rcases hrel with ⟨rfl, hP⟩ | ⟨rfl, hP⟩
        · have ca : wr.cell? ⟨ab, ao, none⟩ = some (.func (.func 44) #[] #[.pointer (some q)]) := by rw [hP.below.cell (p := ⟨ab, ao, none⟩) hab]; exact HA.out
          have HO := Lib.hid (opt_any ext q B w wr hP (by rw [hP.below.cell hqb]; exact HQ.out))
          clear hP
          go_wp2_with fail
          refine HO.out.mono ?_
          rintro e w1 ⟨rfl, hP1⟩
          have HP1 := Lib.hid hP1
          clear hP1
          go_wp2_with fail
          go_roundw
          case rel => exact Or.inr ⟨rfl, HP1.out⟩
          case measure => simp [intOf]
        · have HP := Lib.hid hP
          clear hP
          go_wp2_with fail
          go_meet
          exact HP.out
    case rest =>
      have HP := Lib.hid hcut
      clear hcut HW
      have hmm := @run_makeMap Tryz.prog
      have hsz := HP.out.size
      have f2 := HP.out.froz 2
      obtain ⟨v2, c2⟩ := HP.out.cells 2 (by decide)
      have f261 := HP.out.froz 261
      obtain ⟨v261, c261⟩ := HP.out.cells 261 (by decide)
      have f262 := HP.out.froz 262
      obtain ⟨v262, c262⟩ := HP.out.cells 262 (by decide)
      go_upto_region 10 with fail
      go_cut [6] (fun s wx => (∃ nd : Nat, s = .pointer (some ⟨nd, 0, none⟩)) ∧ PM B ext w wx)
      case first =>
        have hP := HP.out.map
        have hP1 := (hP.set 261 (.int .i64 16) (by decide) (by decide)).set 262 (.bool false) (by decide) (by decide)
        have e1 : (((wc.alloc (.map #[] 0)).setCell ⟨B, 2, none⟩ (.map (some wc.heap.size))).setCell ⟨B, 261, none⟩ (.int .i64 16)).setCell ⟨B, 262, none⟩ (.bool false) = (((wc.setCell ⟨B, 2, none⟩ (.map (some wc.heap.size))).setCell ⟨B, 261, none⟩ (.int .i64 16)).setCell ⟨B, 262, none⟩ (.bool false)).alloc (.map #[] 0) := by rw [World.setCell_alloc_past (hn := hsz), World.setCell_alloc_past (hn := by simpa using hsz), World.setCell_alloc_past (hn := by simpa using hsz)]
        rw [e1] at hP1
        have HP1 := Lib.hid hP1
        clear hP hP1 e1
        go_wp2_with fail
        refine (newNode_any _).mono ?_
        rintro e w1 ⟨rfl, hb⟩
        have HB1 := Lib.hid hb
        clear hb
        go_wp2_with fail
        go_meet
        exact ⟨⟨_, rfl⟩, HP1.out.grow HB1.out⟩
      obtain ⟨⟨nd, rfl⟩, hP⟩ := hcut
      clear hmm hsz HP f2 c2 f261 c261 f262 c262
      have HP := Lib.hid hP
      clear hP
      have f264 := HP.out.froz 264
      obtain ⟨v264, c264⟩ := HP.out.cells 264 (by decide)
      have f265 := HP.out.froz 265
      obtain ⟨v265, c265⟩ := HP.out.cells 265 (by decide)
      have f266 := HP.out.froz 266
      obtain ⟨v266, c266⟩ := HP.out.cells 266 (by decide)
      have f267 := HP.out.froz 267
      obtain ⟨v267, c267⟩ := HP.out.cells 267 (by decide)
      go_upto_region 14 with fail
      go_cut [] (fun wx => PM B ext w wx)
      case first =>
        go_wp2_with fail
        go_meet
        exact ((((HP.out.set 264 _ (by decide) (by decide)).set 265 _ (by decide) (by decide)).set 266 _ (by decide) (by decide)).set 267 _ (by decide) (by decide))
      clear HP f264 c264 f265 c265 f266 c266 f267 c267
      have HP := Lib.hid hcut
      clear hcut
      have f268 := HP.out.froz 268
      obtain ⟨v268, c268⟩ := HP.out.cells 268 (by decide)
      have f35 := HP.out.froz 35
      obtain ⟨v35, c35⟩ := HP.out.cells 35 (by decide)
      have f45 := HP.out.froz 45
      obtain ⟨v45, c45⟩ := HP.out.cells 45 (by decide)
      have f98 := HP.out.froz 98
      obtain ⟨v98, c98⟩ := HP.out.cells 98 (by decide)
      go_upto_region 18 with fail
      go_cut [] (fun wx => PM B ext w wx)
      case first =>
        go_wp2_with fail
        go_meet
        exact ((((HP.out.set 268 _ (by decide) (by decide)).set 35 _ (by decide) (by decide)).set 45 _ (by decide) (by decide)).set 98 _ (by decide) (by decide))
      clear HP f268 c268 f35 c35 f45 c45 f98 c98
      have HP := Lib.hid hcut
      clear hcut
      have cx := HP.out.ext
      have hsz := HP.out.size
      have f129 := HP.out.froz 129
      obtain ⟨v129, c129⟩ := HP.out.cells 129 (by decide)
      go_upto_if 39 with fail
      go_cut [] (fun wx => PM B ext w wx)
      case first =>
        cases hT : (bits .and .i64 ext 32 != 0) with
        | false =>
          go_wp2_with fail
          go_meet
          exact HP.out
        | true =>
          go_wp2_with fail
          go_meet
          exact (HP.out.set 129 _ (by decide) (by decide))
      clear HP hsz cx f129 c129
      have HP := Lib.hid hcut
      clear hcut
      have f99 := HP.out.froz 99
      obtain ⟨v99, c99⟩ := HP.out.cells 99 (by decide)
      have f13 := HP.out.froz 13
      obtain ⟨v13, c13⟩ := HP.out.cells 13 (by decide)
      have f94 := HP.out.froz 94
      obtain ⟨v94, c94⟩ := HP.out.cells 94 (by decide)
      have f63 := HP.out.froz 63
      obtain ⟨v63, c63⟩ := HP.out.cells 63 (by decide)
      go_upto_region 24 with fail
      go_cut [] (fun wx => PM B ext w wx)
      case first =>
        go_wp2_with fail
        go_meet
        exact ((((HP.out.set 99 _ (by decide) (by decide)).set 13 _ (by decide) (by decide)).set 94 _ (by decide) (by decide)).set 63 _ (by decide) (by decide))
      clear HP f99 c99 f13 c13 f94 c94 f63 c63
      have HP := Lib.hid hcut
      clear hcut
      have f95 := HP.out.froz 95
      obtain ⟨v95, c95⟩ := HP.out.cells 95 (by decide)
      have f41 := HP.out.froz 41
      obtain ⟨v41, c41⟩ := HP.out.cells 41 (by decide)
      have f36 := HP.out.froz 36
      obtain ⟨v36, c36⟩ := HP.out.cells 36 (by decide)
      have f97 := HP.out.froz 97
      obtain ⟨v97, c97⟩ := HP.out.cells 97 (by decide)
      go_upto_region 28 with fail
      go_cut [] (fun wx => PM B ext w wx)
      case first =>
        go_wp2_with fail
        go_meet
        exact ((((HP.out.set 95 _ (by decide) (by decide)).set 41 _ (by decide) (by decide)).set 36 _ (by decide) (by decide)).set 97 _ (by decide) (by decide))
      clear HP f95 c95 f41 c41 f36 c36 f97 c97
      have HP := Lib.hid hcut
      clear hcut
      have cx := HP.out.ext
      have hsz := HP.out.size
      have f107 := HP.out.froz 107
      obtain ⟨v107, c107⟩ := HP.out.cells 107 (by decide)
      have f112 := HP.out.froz 112
      obtain ⟨v112, c112⟩ := HP.out.cells 112 (by decide)
      have f105 := HP.out.froz 105
      obtain ⟨v105, c105⟩ := HP.out.cells 105 (by decide)
      have f75 := HP.out.froz 75
      obtain ⟨v75, c75⟩ := HP.out.cells 75 (by decide)
      have f80 := HP.out.froz 80
      obtain ⟨v80, c80⟩ := HP.out.cells 80 (by decide)
      have f73 := HP.out.froz 73
      obtain ⟨v73, c73⟩ := HP.out.cells 73 (by decide)
      go_upto_if 61 with fail
      go_cut [] (fun wx => PM B ext w wx)
      case first =>
        cases hT : (bits .and .i64 ext 16 != 0) with
        | false =>
          go_wp2_with fail
          go_meet
          exact HP.out
        | true =>
          go_wp2_with fail
          go_meet
          exact ((((((HP.out.set 107 _ (by decide) (by decide)).set 112 _ (by decide) (by decide)).set 105 _ (by decide) (by decide)).set 75 _ (by decide) (by decide)).set 80 _ (by decide) (by decide)).set 73 _ (by decide) (by decide))
      clear HP hsz cx f107 c107 f112 c112 f105 c105 f75 c75 f80 c80 f73 c73
      have HP := Lib.hid hcut
      clear hcut
      have cx := HP.out.ext
      have hsz := HP.out.size
      have f263 := HP.out.froz 263
      obtain ⟨v263, c263⟩ := HP.out.cells 263 (by decide)
      go_upto_if 77 with fail
      go_cut [] (fun wx => PM B ext w wx)
      case first =>
        cases hT : (bits .and .i64 ext 1024 != 0) with
        | false =>
          go_wp2_with fail
          go_meet
          exact HP.out
        | true =>
          have hmk : ∀ w : World, (Instr.makeSlice 69 (.int .i64 0) (.int .i64 0)).run Tryz.prog w = .ok (.slice (some ⟨w.heap.size, 0, none⟩) 0 0) (w.alloc (.cells #[] 73)) := fun _ => by kernel_rfl
          go_wp2_with fail
          go_meet
          exact (HP.out.set 263 _ (by decide) (by decide)).grow ((Below.refl _ _).alloc (Nat.le_refl _) _)
      clear HP hsz cx f263 c263
      have HP := Lib.hid hcut
      clear hcut
      go_wp2_with fail
      go_ret
      exact ⟨rfl, HP.out⟩

end Go.Proofs.YtlndmebmcjngfaaGreatDoor
