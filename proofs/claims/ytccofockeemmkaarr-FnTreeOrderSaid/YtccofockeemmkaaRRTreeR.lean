/- Forests: (*spec.TreeForest).Cut walked. Condition: the forest is one. -/
import Derived.Test.YtccofockeemmkaaRRTreeQ
namespace Go.Proofs.YtccofockeemmkaaRR
open Go.ChangeShapes Go.WideShapes Go.ChangeAt Go.RowKit

theorem int_info : (Try.prog.info? 3).map (fun i => (i.zero, i.size, i.bytes)) = some (some (.int .i64 0), 1, 8) := by kernel_rfl
def nats (l : List Nat) : List Value := l.map fun k : Nat => .int .i64 (k : Int)
def kept (l : List Nat) (b k : Nat) : List Nat := (l.take k).filter (fun x => x != b)
theorem kept_len (l : List Nat) (b k : Nat) : (kept l b k).length ≤ l.length :=
  Nat.le_trans (List.length_filter_le _ _) (by rw [List.length_take]; omega)
theorem kept_next (l : List Nat) (b k x : Nat) (h : l[k]? = some x) : kept l b (k + 1) = if x = b then kept l b k else kept l b k ++ [x] := by
  unfold kept
  rw [List.take_add_one, h, List.filter_append]
  by_cases e : x = b
  · simp [e]
  · simp [e]
theorem nats_snoc (l : List Nat) (x : Nat) : nats (l ++ [x]) = nats l ++ [.int .i64 (x : Int)] := by simp [nats]

theorem setCell_lt {w : World} {a : Addr} {u : Value} : (w.setCell a u).heap.size = w.heap.size := by simp

set_option maxHeartbeats 4000000 in
theorem cut_any {w : World} {B fb n : Nat} {up : Nat → Option Nat} {dn : Nat → List Nat} {upv dnv : Value} {rv : Nat → Value} (b : Nat) (h : Forest w B fb n n up dn upv dnv rv) (hp : Fp n up dn) (hb : b < n) (hn : n ≤ 1000000) :
    Calls Try.prog 8 #[.pointer (some ⟨fb, 0, none⟩), .int .i64 (b : Int)] w fun e w' => ∃ rv', e = .returned (.tuple #[]) ∧ Forest w' B fb n n (cutU up b) (cutD up dn b) upv dnv rv' ∧ Below B w w' := by
  have c0 := h.cu
  have c1 := h.cd
  obtain ⟨ug, uc, rfl, hu1, hu2, _, hug, huf, hucell⟩ := h.us (by omega)
  obtain ⟨dg, dc, rfl, hd1, hd2, _, hdg, hdf, hdcell⟩ := h.ds (by omega)
  have cb := hucell b hb
  have fb0 := huf b
  obtain ⟨F1, L1⟩ := h.setUp b none (-1) rfl
  have c0' := F1.cu
  have c1' := F1.cd
  obtain ⟨dg', dc', hde, _, _, _, _, _, hdc1⟩ := F1.ds (by omega)
  obtain ⟨rfl, rfl⟩ : dg' = dg ∧ dc' = dc := by
    injection hde with e1 _ e3
    injection e1 with e1
    injection e1 with e1 _
    exact ⟨e1.symm, e3.symm⟩
  cases hup : up b with
  | none =>
    have e : num1 none = -1 := rfl
    rw [hup, e] at cb
    have hcut : cutU up b = upd up b none := rfl
    have hcutD : cutD up dn b = dn := by
      funext i
      unfold cutD
      rw [hup, if_neg (fun e => by cases e)]
    rw [hcut, hcutD]
    have F1 := Lib.hid F1
    have L1 := Lib.hid L1
    clear h hucell hdcell hdc1
    go_enter Try.func8, Try.ntmps8
    go_wp2_with fail
    refine bodyPost_ret (results_none rfl _ _ _) rfl ?_
    exact ⟨rv, rfl, F1.out, L1.out⟩
  | some p =>
    have e : num1 (some p) = (p : Int) := rfl
    rw [hup, e] at cb
    have hpn : p < n := (hp.ub b p hup).2
    have hlen := hp.len p
    have cp := hdc1 p hpn
    have R1 := F1.rows p hpn (by omega)
    obtain ⟨rp, rc, hrp, hrc, hrm⟩ := own_slice R1
    have hcut : cutU up b = upd up b none := rfl
    have hcutD : cutD up dn b = setD dn p ((dn p).filter (fun x => x != b)) := by
      funext i
      unfold cutD setD
      by_cases ei : i = p
      · subst ei
        rw [if_pos hup, if_pos rfl]
      · rw [if_neg (fun e2 => ei (by rw [hup] at e2; injection e2 with e2; exact e2.symm)), if_neg ei]
    rw [hcut, hcutD]
    rw [hrp] at cp
    have HR := Lib.hid R1
    have F1 := Lib.hid F1
    have L1 := Lib.hid L1
    have HE := Lib.hid hrp
    clear h hucell hdcell hdc1 R1 hrp hp
    go_enter Try.func8, Try.ntmps8
    go_wp2_with fail
    go_loopw [5, 31] (fun v t wr => ∃ k : Nat, k ≤ (dn p).length ∧ t = .int .i64 k ∧ wr.ownsRow w.heap.size 3 1 v (kept (dn p) b k).length (nats (kept (dn p) b k)) ∧ Below w.heap.size (w.setCell ⟨ug, b, none⟩ (.int .i64 (-1))) wr) (fun _ t _ => (dn p).length - (intOf t).toNat)
    case atStart => exact ⟨0, Nat.zero_le _, rfl, World.ownsRow_nil _ _ _ _, Below.refl _ _⟩
    case round =>
      obtain ⟨k, hk, rfl, hown, hbel⟩ := hrel
      have hsz := hbel.size
      rw [setCell_lt] at hsz
      by_cases hkl : k < (dn p).length
      · obtain ⟨x, hx⟩ : ∃ x, (dn p)[k]? = some x := ⟨_, List.getElem?_eq_getElem hkl⟩
        obtain ⟨rg, rc2, hre, _, _, _, hrg, _, hrcell⟩ := own_cells HR.out (by omega)
        rw [HE.out] at hre
        obtain ⟨rfl, rfl⟩ : rp = some ⟨rg, 0, none⟩ ∧ rc = rc2 := by
          injection hre with e1 _ e3
          exact ⟨e1, e3⟩
        have cx := hrcell k (.int .i64 (x : Int)) (by simp [hx])
        have cx2 := (hbel.cell (p := ⟨rg, k, none⟩) (by rw [setCell_lt] at hrg; exact hrg)).trans cx
        have hnext := Lib.hid (kept_next (dn p) b k x hx)
        have hkl2 := kept_len (dn p) b k
        have HO := Lib.hid hown
        have HB := Lib.hid hbel
        clear hown hbel cx hrcell hre
        by_cases hxb : x = b
        · subst hxb
          go_wp2_with fail
          go_roundw
          case rel =>
            refine ⟨k + 1, by omega, by go_num, ?_, HB.out⟩
            have := hnext.out
            rw [if_pos rfl] at this
            rw [this]
            exact HO.out
          case measure => simp [intOf]; omega
        · go_wp2_with (at_builtin; refine app_row rfl (.tmp 38) (.tmp 40) 25 3 (.int .i64 0) 1 8 Try.underlying25 int_info rfl (by decide) (by decide) rfl w.heap.size _ _ _ rfl HO.out #[.int .i64 (x : Int)] rfl ?d1 rfl ?d2 hsz ?d3)
          case d1 => first | rfl | (intro u hu; simp at hu; subst hu; rfl)
          case d2 => omega
          case d3 =>
            intro v4 w4 h1 h2 h3 h4
            have h1 := Lib.hid h1
            have B4 := Lib.hid (HB.out.trans h3)
            clear h2 h3 h4
            go_wp2_with fail
            go_roundw
            case rel =>
              refine ⟨k + 1, by omega, by go_num, ?_, B4.out⟩
              have := hnext.out
              rw [if_neg hxb] at this
              rw [this, nats_snoc, List.length_append]
              exact h1.out
            case measure => simp [intOf]; omega
      · have hke : k = (dn p).length := by omega
        subst hke
        have hall : kept (dn p) b (dn p).length = (dn p).filter (fun x => x != b) := by unfold kept; rw [List.take_length]
        rw [hall] at hown
        obtain ⟨F3, L3⟩ := F1.out.setNew (by rw [setCell_lt]; exact hbel) p _ _ (by rw [setCell_lt]; exact hown)
        have F2 := F1.out.later (by rw [setCell_lt]; exact hbel)
        have d0 := F2.cu
        have d1 := F2.cd
        obtain ⟨dg2, dc2, hde2, _, _, _, _, hdf2, hdc2⟩ := F2.ds (by omega)
        obtain ⟨rfl, rfl⟩ : dg2 = dg' ∧ dc2 = dc' := by
          injection hde2 with e1 _ e3
          injection e1 with e1
          injection e1 with e1 _
          exact ⟨e1.symm, e3.symm⟩
        have cp2 := hdc2 p hpn
        have fp2 := hdf2 p
        have HF := Lib.hid F3
        have HL := Lib.hid L3
        obtain ⟨px, cx, rfl, _, _⟩ := own_slice hown
        clear hown hbel hdf2 hdc2 hde2 F2 F3 L3 hall
        go_wp2_with fail
        refine bodyPost_end0 rfl rfl ?_
        exact ⟨_, rfl, HF.out, L1.out.trans HL.out⟩

end Go.Proofs.YtccofockeemmkaaRR
