/- Forests: (*spec.TreeForest).Step walked for unlinking. Condition: the forest is one. -/
import Derived.Test.YtccofockeemmkaaRRTreeR
import Derived.Deep.QuietTactic
namespace Go.Proofs.YtccofockeemmkaaRR
open Go.ChangeShapes Go.WideShapes Go.ChangeAt Go.RowKit

theorem Forest.drew {w : World} {B fb n o : Nat} {up : Nat → Option Nat} {dn : Nat → List Nat} {upv dnv : Value} {rv : Nat → Value} (h : Forest w B fb n o up dn upv dnv rv) : Forest w.drew B fb n o up dn upv dnv rv :=
  h.later (Below.refl _ _).drew
theorem Forest.alloc {w : World} {B fb n o : Nat} {up : Nat → Option Nat} {dn : Nat → List Nat} {upv dnv : Value} {rv : Nat → Value} (h : Forest w B fb n o up dn upv dnv rv) (ob : Obj) : Forest (w.alloc ob) B fb n o up dn upv dnv rv :=
  h.later ((Below.refl _ _).alloc (Nat.le_refl _) _)

theorem insB_next (a b : Nat) (l : List Nat) (k x : Nat) (h : l[k]? = some x) : insB a b (l.take (k + 1)) = insB a b (l.take k) ++ (if x = a then [b, x] else [x]) := by
  rw [List.take_add_one, h]
  simp [insB, List.flatMap_append]
theorem insB_len (a b : Nat) (l : List Nat) : (insB a b l).length ≤ 2 * l.length := by
  induction l with
  | nil => simp [insB]
  | cons x l ih =>
    have e : insB a b (x :: l) = (if x = a then [b, x] else [x]) ++ insB a b l := by simp [insB]
    rw [e, List.length_append, List.length_cons]
    split <;> simp <;> omega

/-- what a step that is fine leaves -/
def Stepped (w w' : World) (B fb n : Nat) (up : Nat → Option Nat) (op a b : Int) : Prop :=
  ∃ n' up' dn' upv' dnv' rv', Forest w' B fb n' n' up' dn' upv' dnv' rv' ∧ Fp n' up' dn' ∧ n' ≤ n + 1 ∧ ∀ t : Tr, t.par = up → ∃ t' : Tr, Fine n t op a b n' t' ∧ t'.par = up'

set_option maxHeartbeats 4000000 in
set_option maxRecDepth 100000 in
theorem fstep3 {w : World} {B fb n : Nat} {up : Nat → Option Nat} {dn : Nat → List Nat} {upv dnv : Value} {rv : Nat → Value} (a : Nat) (b : Int) (h : Forest w B fb n n up dn upv dnv rv) (hp : Fp n up dn) (ha : a < n) (hn : n ≤ 1000000) :
    Calls Try.prog 5 #[.pointer (some ⟨fb, 0, none⟩), .agg #[.int .i64 3, .int .i64 (a : Int), .int .i64 b]] w fun e w' => e = .returned (.bool true) ∧ Stepped w w' B fb n up 3 a b ∧ Below B w w' := by
  have c0 := fun ob => (h.alloc ob).cu
  obtain ⟨ug, uc, hue, hu1, hu2, _, hug, huf, hucell⟩ := h.us (by omega)
  rw [hue] at c0
  have HC := Lib.hid (fun ob : Obj => cut_any a (h.alloc ob).drew hp ha hn)
  have HB := Lib.hid h.base
  have hpc := Lib.hid (hp.cut a)
  clear h hp hue hucell huf
  go_enter Try.func5, Try.ntmps5
  go_wp2_with fail
  go_region
  all_goals (go_wp2_with fail)
  refine (HC.out _).mono ?_
  rintro e w' ⟨rv', rfl, F, L⟩
  have F := Lib.hid F
  have L := Lib.hid L
  clear HC
  go_wp2_with fail
  go_ret
  refine ⟨rfl, ⟨n, _, _, _, _, rv', F.out, hpc.out, by omega, fun t ht => ⟨unl t a, Fine.unlink a b ha, ?_⟩⟩, (((Below.refl B w).alloc HB.out _).drew).trans L.out⟩
  rw [unl_par, ht]
  rfl

set_option maxHeartbeats 4000000 in
set_option maxRecDepth 100000 in
theorem fstep2 {w : World} {B fb n : Nat} {up : Nat → Option Nat} {dn : Nat → List Nat} {upv dnv : Value} {rv : Nat → Value} (a b : Nat) (h : Forest w B fb n n up dn upv dnv rv) (hp : Fp n up dn) (ha : a < n) (hb : b < n) (hn : n ≤ 100000) :
    Calls Try.prog 5 #[.pointer (some ⟨fb, 0, none⟩), .agg #[.int .i64 2, .int .i64 (a : Int), .int .i64 (b : Int)]] w fun e w' => ∃ r, e = .returned (.bool r) ∧ (r = true → Stepped w w' B fb n up 2 a b) ∧ Below B w w' := by
  have c0 := fun ob => (h.alloc ob).cu
  obtain ⟨ug, uc, rfl, hu1, hu2, _, hug, huf, hucell⟩ := h.us (by omega)
  have ca := fun ob => Lib.cell?_alloc_some ob (hucell a ha)
  have HU := Lib.hid (fun ob : Obj => under_any a b (h.alloc ob).drew hp ha (by omega) (by omega))
  have HC := Lib.hid (fun ob : Obj => cut_any b (h.alloc ob).drew hp hb (by omega))
  have HB := Lib.hid h.base
  have HP := Lib.hid hp
  have H := Lib.hid h
  cases hua : up a with
  | none =>
    have e : num1 none = -1 := rfl
    rw [hua, e] at ca
    clear h hp hucell huf
    go_enter Try.func5, Try.ntmps5
    go_wp2_with fail
    go_region
    all_goals (go_wp2_with fail)
    go_ret
    exact ⟨false, rfl, (fun h => by cases h), ((Below.refl B w).alloc HB.out _).drew⟩
  | some p =>
    have e : num1 (some p) = (p : Int) := rfl
    rw [hua, e] at ca
    clear h hp hucell huf
    go_enter Try.func5, Try.ntmps5
    go_wp2_with fail
    go_region
    all_goals (go_wp2_with fail)
    refine (HU.out _).mono ?_
    rintro e w1 ⟨r, rfl, hr, rfl⟩
    have HR := Lib.hid hr
    clear hr HU
    cases r with
    | true =>
      go_wp2_with fail
      go_ret
      exact ⟨false, rfl, (fun h => by cases h), ((Below.refl B w).alloc HB.out _).drew⟩
    | false =>
      go_wp2_with fail
      refine (HC.out _).mono ?_
      rintro e w2 ⟨rv', rfl, F, L⟩
      have hpn : p < n := (HP.out.ub a p hua).2
      have hab : a ≠ b := fun e => by
        have := HR.out
        rw [e] at this
        exact absurd (this.2 Anc.refl) (by decide)
      have hnanc : ¬ Anc up b a := fun k => absurd (HR.out.2 k) (by decide)
      have hpi := HP.out.insert a b p hua hb hnanc
      have hlen := (HP.out.cut b).len p
      obtain ⟨F1, L1⟩ := F.setUp b (some p) (p : Int) rfl
      have k0 := F.cu
      have k1 := F1.cu
      have k2 := F1.cd
      obtain ⟨ug3, uc3, hue3, _, _, _, _, huf3, huc3⟩ := F.us (by omega)
      obtain ⟨rfl, rfl⟩ : ug = ug3 ∧ uc = uc3 := by
        injection hue3 with e1 _ e3
        injection e1 with e1
        injection e1 with e1 _
        exact ⟨e1, e3⟩
      have kb := huc3 b hb
      have fb1 := huf3 b
      obtain ⟨dg, dc, rfl, hd1, hd2, _, hdg, hdf, hdcell⟩ := F1.ds (by omega)
      have kp := hdcell p hpn
      have R1 := F1.rows p hpn (by omega)
      obtain ⟨rp, rc, hrp, hrc, hrm⟩ := own_slice R1
      rw [hrp] at kp
      have HF := Lib.hid F
      have HF1 := Lib.hid F1
      have HL1 := Lib.hid L1
      have HL := Lib.hid L
      have HRr := Lib.hid R1
      have HE := Lib.hid hrp
      have HPI := Lib.hid hpi
      have HAB := Lib.hid hab
      clear HC F F1 L L1 R1 hrp hue3 huf3 huc3 hdf hdcell hpi hnanc hab
      go_wp2_with fail
      go_loopw [9, 154] (fun v t wr => ∃ k : Nat, k ≤ (cutD up dn b p).length ∧ t = .int .i64 k ∧ wr.ownsRow w2.heap.size 3 1 v (insB a b ((cutD up dn b p).take k)).length (nats (insB a b ((cutD up dn b p).take k))) ∧ Below w2.heap.size (w2.setCell ⟨ug, b, none⟩ (.int .i64 (p : Int))) wr) (fun _ t _ => (cutD up dn b p).length - (intOf t).toNat)
      case atStart => exact ⟨0, Nat.zero_le _, rfl, World.ownsRow_nil _ _ _ _, Below.refl _ _⟩
      case round =>
        obtain ⟨k, hk, rfl, hown, hbel⟩ := hrel
        have hsz := hbel.size
        rw [setCell_lt] at hsz
        by_cases hkl : k < (cutD up dn b p).length
        · obtain ⟨x, hx⟩ : ∃ x, (cutD up dn b p)[k]? = some x := ⟨_, List.getElem?_eq_getElem hkl⟩
          obtain ⟨rg, rc2, hre, _, _, _, hrg, _, hrcell⟩ := own_cells HRr.out (by omega)
          rw [HE.out] at hre
          obtain ⟨rfl, rfl⟩ : rp = some ⟨rg, 0, none⟩ ∧ rc = rc2 := by
            injection hre with e1 _ e3
            exact ⟨e1, e3⟩
          have cx := hrcell k (.int .i64 (x : Int)) (by simp [hx])
          have cx2 := (hbel.cell (p := ⟨rg, k, none⟩) (by rw [setCell_lt] at hrg; exact hrg)).trans cx
          have hnext := Lib.hid (insB_next a b (cutD up dn b p) k x hx)
          have hl2 := insB_len a b ((cutD up dn b p).take k)
          rw [List.length_take] at hl2
          have HO := Lib.hid hown
          have HBl := Lib.hid hbel
          clear hown hbel cx hrcell hre
          by_cases hxa : x = a
          · subst hxa
            go_wp2_with (at_builtin; refine app_row rfl (.tmp 161) (.tmp 163) 25 3 (.int .i64 0) 1 8 Try.underlying25 int_info rfl (by decide) (by decide) rfl w2.heap.size _ _ _ rfl HO.out #[.int .i64 (b : Int)] rfl ?d1 rfl ?d2 hsz ?d3)
            case d1 => first | rfl | (intro u hu; simp at hu; subst hu; rfl)
            case d2 => omega
            case d3 =>
              intro v4 w4 h1 h2 h3 h4
              have hsz4 := h3.size
              have H1 := Lib.hid h1
              have B4 := Lib.hid (HBl.out.trans h3)
              have cx4 := (h3.cell (p := ⟨rg, k, none⟩) (by rw [setCell_lt] at hrg; exact hrg)).trans cx2
              clear h1 h2 h3 h4 cx2
              go_wp2_with (at_builtin; refine app_row rfl (.tmp 165) (.tmp 167) 25 3 (.int .i64 0) 1 8 Try.underlying25 int_info rfl (by decide) (by decide) rfl w2.heap.size _ _ _ rfl H1.out #[.int .i64 (x : Int)] rfl ?d4 rfl ?d5 (by omega) ?d6)
              case d4 => first | rfl | (intro u hu; simp at hu; subst hu; rfl)
              case d5 => omega
              case d6 =>
                intro v5 w5 h1 h2 h3 h4
                have H5 := Lib.hid h1
                have B5 := Lib.hid (B4.out.trans h3)
                clear h1 h2 h3 h4
                go_wp2_with fail
                go_roundw
                case rel =>
                  refine ⟨k + 1, by omega, by go_num, ?_, B5.out⟩
                  have := hnext.out
                  rw [if_pos trivial] at this
                  rw [this]
                  have := H5.out
                  simpa [nats] using this
                case measure => simp [intOf]; omega
          · go_wp2_with (at_builtin; refine app_row rfl (.tmp 165) (.tmp 167) 25 3 (.int .i64 0) 1 8 Try.underlying25 int_info rfl (by decide) (by decide) rfl w2.heap.size _ _ _ rfl HO.out #[.int .i64 (x : Int)] rfl ?d1 rfl ?d2 hsz ?d3)
            case d1 => first | rfl | (intro u hu; simp at hu; subst hu; rfl)
            case d2 => omega
            case d3 =>
              intro v4 w4 h1 h2 h3 h4
              have H1 := Lib.hid h1
              have B4 := Lib.hid (HBl.out.trans h3)
              clear h1 h2 h3 h4
              go_wp2_with fail
              go_roundw
              case rel =>
                refine ⟨k + 1, by omega, by go_num, ?_, B4.out⟩
                have := hnext.out
                rw [if_neg hxa] at this
                rw [this]
                have := H1.out
                simpa [nats] using this
              case measure => simp [intOf]; omega
        · have hke : k = (cutD up dn b p).length := by omega
          subst hke
          rw [List.take_length] at hown
          obtain ⟨F3, L3⟩ := HF1.out.setNew (by rw [setCell_lt]; exact hbel) p _ _ (by rw [setCell_lt]; exact hown)
          have F2 := HF1.out.later (by rw [setCell_lt]; exact hbel)
          have d0 := F2.cu
          have d1 := F2.cd
          obtain ⟨dg2, dc2, hde2, _, _, _, _, hdf2, hdc2⟩ := F2.ds (by omega)
          obtain ⟨rfl, rfl⟩ : dg2 = dg ∧ dc2 = dc := by
            injection hde2 with e1 _ e3
            injection e1 with e1
            injection e1 with e1 _
            exact ⟨e1.symm, e3.symm⟩
          have cp2 := hdc2 p hpn
          have fp2 := hdf2 p
          have HF3 := Lib.hid F3
          have HL3 := Lib.hid L3
          obtain ⟨px, cx, rfl, _, _⟩ := own_slice hown
          clear hown hbel hdf2 hdc2 hde2 F2 F3 L3
          go_wp2_with fail
          go_ret
          refine ⟨true, rfl, (fun _ => ⟨n, _, _, _, _, _, HF3.out, HPI.out, by omega, fun t ht => ?_⟩), (((Below.refl B w).alloc HB.out _).drew).trans ((HL.out.trans HL1.out).trans HL3.out)⟩
          have hpa : (unl t b).par a = some p := by
            rw [unl_par, ht, upd_at, if_neg HAB.out]
            exact hua
          refine ⟨ins (unl t b) a b, Fine.insert a b ha hb (by rw [hpa]; exact fun e => by cases e), ?_⟩
          rw [ins_par _ _ _ _ hpa, unl_par, ht]
          rfl

end Go.Proofs.YtccofockeemmkaaRR
