/- Lines: laws.isLine and laws.lineAwake walked. No condition on the text. -/
import Derived.Test.YthddhejbkdenkaaGreatDoorLineG
namespace Go.Proofs.YthddhejbkdenkaaGreatDoor
open Go.ChangeShapes Go.WideShapes Go.ChangeAt Go.RowKit

/-- is a number a set of extensions -/
def extB (ext : Int) : Bool := decide (0 ≤ ext) && (decide (ext ≤ 131070) && (ext % 2 == 0))
theorem ext_any (ext : Int) (w : World) : Calls Tryz.prog 17 #[.int .i64 ext] w fun e w' => e = .returned (.bool (extB ext)) ∧ w = w' := by
  by_cases h0 : 0 ≤ ext
  · by_cases h1 : ext ≤ 131070
    · have HV := Lib.hid (show extB ext = (ext % 2 == 0) by unfold extB; rw [decide_eq_true h0, decide_eq_true h1]; rfl)
      go_enter Tryz.func17, Tryz.ntmps17
      go_wp2_with fail
      go_ret
      exact ⟨ret_bool (by rw [HV.out]), rfl⟩
    · have HV := Lib.hid (show extB ext = false by unfold extB; rw [decide_eq_true h0, decide_eq_false h1]; rfl)
      go_enter Tryz.func17, Tryz.ntmps17
      go_wp2_with fail
      go_ret
      exact ⟨ret_bool (by rw [HV.out]), rfl⟩
  · have HV := Lib.hid (show extB ext = false by unfold extB; rw [decide_eq_false h0]; rfl)
    go_enter Tryz.func17, Tryz.ntmps17
    go_wp2_with fail
    go_ret
    exact ⟨ret_bool (by rw [HV.out]), rfl⟩

def lineB (l : List UInt8) : Bool := decide (0 < l.length) && decide (l.length ≤ 1000) && (bat l (l.length - 1) == 10)
set_option maxHeartbeats 1000000 in
set_option maxRecDepth 100000 in
theorem isLine_any (ext : Int) (p : Option Addr) (n c : Nat) (l : List UInt8) (w : World) (h : Bs w p n l) :
    Calls Tryz.prog 8 #[.int .i64 ext, .slice p n c] w fun e w' => e = .returned (.bool (extB ext && lineB l)) ∧ w = w' := by
  have hn := h.len
  have HE := Lib.hid (ext_any ext w)
  obtain ⟨v, hv⟩ : ∃ v, v = extB ext := ⟨_, rfl⟩
  rw [← hv] at HE ⊢
  clear hv
  cases v with
  | false =>
    clear h hn
    go_enter Tryz.func8, Tryz.ntmps8
    go_wp2_with fail
    refine HE.out.mono ?_
    rintro e w1 ⟨rfl, rfl⟩
    go_wp2_with fail
    go_ret
    exact ⟨rfl, rfl⟩
  | true =>
    by_cases h0 : n = 0
    · have HV := Lib.hid (show (true && lineB l) = false by unfold lineB; rw [hn, h0]; rfl)
      subst h0
      clear h hn
      go_enter Tryz.func8, Tryz.ntmps8
      go_wp2_with fail
      refine HE.out.mono ?_
      rintro e w1 ⟨rfl, rfl⟩
      go_wp2_with fail
      go_ret
      exact ⟨ret_bool HV.out.symm, rfl⟩
    · by_cases h1 : 1000 < n
      · have HV := Lib.hid (show (true && lineB l) = false by unfold lineB; rw [hn, decide_eq_false (show ¬ n ≤ 1000 by omega)]; simp)
        clear h hn
        go_enter Tryz.func8, Tryz.ntmps8
        go_wp2_with fail
        refine HE.out.mono ?_
        rintro e w1 ⟨rfl, rfl⟩
        go_wp2_with fail
        go_ret
        exact ⟨ret_bool HV.out.symm, rfl⟩
      · obtain ⟨m, rfl⟩ : ∃ m, n = m + 1 := ⟨n - 1, by omega⟩
        obtain ⟨b, o, rfl, _, hc⟩ := h.cells (by omega)
        have cm := hc m (by omega)
        have HV := Lib.hid (show (true && lineB l) = (bat l m == 10) by unfold lineB; rw [hn, decide_eq_true (show 0 < m + 1 by omega), decide_eq_true (show m + 1 ≤ 1000 by omega)]; rfl)
        clear hc hn h
        go_enter Tryz.func8, Tryz.ntmps8
        go_wp2_with fail
        refine HE.out.mono ?_
        rintro e w1 ⟨rfl, rfl⟩
        go_wp2_with fail
        go_ret
        exact ⟨ret_bool HV.out.symm, rfl⟩

/-- what the law looks at in a result of impl.LineOf -/
def Said3 (a : Int) (h : Bool) (b : Int) (B : Nat) (w : World) (e : Ending) (w' : World) : Prop :=
  ∃ (r : Bool) (u k o q t : Int), e = .returned (.agg #[.int .i64 a, .bool r, .bool h, .int .i64 u, .int .i64 q, .int .i64 k, .int .i64 b, .int .i64 o, .int .i64 t]) ∧ Below B w w'
theorem lineAt (w : World) (l : List UInt8) (C : Array Value) (n L : Nat) (m : Nat × Nat) (hC : C.toList = vals l) (hn : l.length = n) (hF : Nl l L) (hl : bat l (n - 1) = 10) (hle : n ≤ 1000000) {a b : Int} {h : Bool} (ea : (emptyF l : Int) = a) (eh : headF (hasB 0) l = h) (eb : (bulF l : Int) = b) :
    Calls Tryz.prog 9 #[.int .i64 0, .slice (some ⟨w.heap.size, 0, none⟩) n n] (w.alloc (.cells C 5 m)) (Said3 a h b w.heap.size w) := by
  refine (lineOf_any 0 (some ⟨w.heap.size, 0, none⟩) n n L l _ (Bs.newAt w _ rfl l C _ m n hn hC) hF hl hle (by decide) (by decide)).mono ?_
  rintro e w' ⟨r, u, k, o, he, hb⟩
  rw [ea, eh, eb] at he
  exact ⟨r, u, k, o, _, _, he, ((Below.refl w.heap.size w).alloc (Nat.le_refl _) _).trans (hb.mono (by simp))⟩

theorem field0 (x0 x1 x2 x3 x4 x5 x6 x7 x8 : Value) (w : World) : (Instr.field 25 (.agg #[x0, x1, x2, x3, x4, x5, x6, x7, x8]) 0).run Tryz.prog w = .ok x0 w := by kernel_rfl
theorem field2 (x0 x1 x2 x3 x4 x5 x6 x7 x8 : Value) (w : World) : (Instr.field 25 (.agg #[x0, x1, x2, x3, x4, x5, x6, x7, x8]) 2).run Tryz.prog w = .ok x2 w := by kernel_rfl
theorem field4 (x0 x1 x2 x3 x4 x5 x6 x7 x8 : Value) (w : World) : (Instr.field 25 (.agg #[x0, x1, x2, x3, x4, x5, x6, x7, x8]) 4).run Tryz.prog w = .ok x4 w := by kernel_rfl
theorem field6 (x0 x1 x2 x3 x4 x5 x6 x7 x8 : Value) (w : World) : (Instr.field 25 (.agg #[x0, x1, x2, x3, x4, x5, x6, x7, x8]) 6).run Tryz.prog w = .ok x6 w := by kernel_rfl
theorem field8 (x0 x1 x2 x3 x4 x5 x6 x7 x8 : Value) (w : World) : (Instr.field 25 (.agg #[x0, x1, x2, x3, x4, x5, x6, x7, x8]) 8).run Tryz.prog w = .ok x8 w := by kernel_rfl

def tA : List UInt8 := [35, 32, 97, 10]
def tB : List UInt8 := [42, 32, 97, 10]
def tC : List UInt8 := [10]
theorem nlA : Nl tA 3 := ⟨by decide, by decide, fun j hj => by match j, hj with | 0, _ => decide | 1, _ => decide | 2, _ => decide⟩
theorem nlB : Nl tB 3 := ⟨by decide, by decide, fun j hj => by match j, hj with | 0, _ => decide | 1, _ => decide | 2, _ => decide⟩
theorem nlC : Nl tC 0 := ⟨by decide, by decide, fun j hj => absurd hj (Nat.not_lt_zero j)⟩

set_option maxHeartbeats 4000000 in
set_option maxRecDepth 100000 in
theorem awake_any (w : World) : Calls Tryz.prog 12 #[] w fun e w' => e = .returned (.bool true) ∧ Below w.heap.size w w' := by
  have H1 := Lib.hid (fun w : World => lineAt w tA #[.int .u8 35, .int .u8 32, .int .u8 97, .int .u8 10] 4 3 (4, 5) rfl rfl nlA (by decide) (by decide) (a := emptyF tA) (b := bulF tA) (h := true) rfl (by decide) rfl)
  have H2 := Lib.hid (fun w : World => lineAt w tB #[.int .u8 42, .int .u8 32, .int .u8 97, .int .u8 10] 4 3 (4, 5) rfl rfl nlB (by decide) (by decide) (a := emptyF tB) (b := 2) (h := headF (hasB 0) tB) rfl rfl (by decide))
  have H3 := Lib.hid (fun w : World => lineAt w tC #[.int .u8 10] 1 0 (1, 2) rfl rfl nlC (by decide) (by decide) (a := 1) (b := bulF tC) (h := headF (hasB 0) tC) (by decide) rfl rfl)
  have kc := fun (w : World) (C : Array Value) (n c : Nat) => Lib.run_convert_bytes_const (P := Tryz.prog) w 22 5 C n c Tryz.underlying22 Tryz.underlying5
  have g0 := field0
  have g2 := field2
  have g6 := field6
  go_enter Tryz.func12, Tryz.ntmps12
  go_wp2_with fail
  refine (H1.out _).mono ?_
  rintro e w1 ⟨r, u, k, o, q, t, rfl, hb1⟩
  have HB1 := Lib.hid hb1
  clear hb1 H1
  go_wp2_with fail
  refine (H2.out _).mono ?_
  rintro e w2 ⟨r2, u2, k2, o2, q2, t2, rfl, hb2⟩
  have HB2 := Lib.hid hb2
  clear hb2 H2
  go_wp2_with fail
  refine (H3.out _).mono ?_
  rintro e w3 ⟨r3, u3, k3, o3, q3, t3, rfl, hb3⟩
  have HB3 := Lib.hid hb3
  clear hb3 H3
  go_wp2_with fail
  go_ret
  refine ⟨rfl, ?_⟩
  have s1 := HB1.out.size
  have s2 := HB2.out.size
  exact HB1.out.trans ((HB2.out.mono s1).trans (HB3.out.mono (by omega)))

end Go.Proofs.YthddhejbkdenkaaGreatDoor
