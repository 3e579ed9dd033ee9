/- Runs of bytes of a class: spec.inRun, spec.inAt walked. Condition: lengths are bounded. -/
import Derived.Test.YtkjbmekpcjfenaaConv
import Derived.Test.YtkjbmekpcjfenaaChars
namespace Go.Proofs.Ytkjbmekpcjfenaa
open Go.ChangeShapes Go.WideShapes Go.ChangeAt Go.RowKit

/-- how many bytes of a class a text begins with -/
def span (P : Int → Bool) : List UInt8 → Nat
  | [] => 0
  | c :: r => if P (c.toNat : Int) then span P r + 1 else 0
/-- the end of the bytes of a class from a place on -/
def run (P : Int → Bool) (l : List UInt8) (i : Nat) : Nat := i + span P (l.drop i)
/-- does a byte stand at a place -/
def atB (l : List UInt8) (i : Nat) (c : Int) : Bool := decide (i < l.length) && bat l i == c

theorem drop_cons (l : List UInt8) (k : Nat) (h : k < l.length) : l.drop k = l.getD k 0 :: l.drop (k + 1) := by
  rw [List.drop_eq_getElem_cons h]
  simp [h]
theorem run_step {P : Int → Bool} {l : List UInt8} {i : Nat} (h : i < l.length) (hp : P (bat l i) = true) : run P l i = run P l (i + 1) := by
  rw [run, drop_cons l i h, span]
  have : P (((l.getD i 0).toNat : Nat) : Int) = true := hp
  rw [if_pos this, run]
  omega
theorem run_stop {P : Int → Bool} {l : List UInt8} {i : Nat} (hp : P (bat l i) = false) : run P l i = i := by
  rcases Nat.lt_or_ge i l.length with h | h
  · rw [run, drop_cons l i h, span]
    have : P (((l.getD i 0).toNat : Nat) : Int) = false := hp
    rw [if_neg (by rw [this]; simp)]
    omega
  · rw [run, List.drop_of_length_le h]
    rfl
theorem run_end {P : Int → Bool} {l : List UInt8} {i : Nat} (h : l.length ≤ i) : run P l i = i := by
  rw [run, List.drop_of_length_le h]
  rfl
theorem le_run (P : Int → Bool) (l : List UInt8) (i : Nat) : i ≤ run P l i := by unfold run; omega
theorem span_le (P : Int → Bool) (l : List UInt8) : span P l ≤ l.length := by
  induction l with
  | nil => simp [span]
  | cons c r ih => rw [span]; split <;> simp <;> omega
theorem run_le (P : Int → Bool) (l : List UInt8) (i : Nat) (h : i ≤ l.length) : run P l i ≤ l.length := by
  have := span_le P (l.drop i)
  rw [List.length_drop] at this
  unfold run
  omega

theorem span_mid (P : Int → Bool) (l : List UInt8) : ∀ k, k < span P l → k < l.length ∧ P (bat l k) = true := by
  induction l with
  | nil => intro k hk; simp [span] at hk
  | cons c r ih =>
    intro k hk
    rw [span] at hk
    by_cases hp : P (c.toNat : Int) = true
    · rw [if_pos hp] at hk
      cases k with
      | zero => exact ⟨by simp, by simpa [bat] using hp⟩
      | succ k =>
        have := ih k (by omega)
        exact ⟨by simp; omega, by simpa [bat] using this.2⟩
    · rw [if_neg hp] at hk
      omega
theorem run_mid {P : Int → Bool} {l : List UInt8} {i k : Nat} (h1 : i ≤ k) (h2 : k < run P l i) : k < l.length ∧ P (bat l k) = true := by
  unfold run at h2
  have h := span_mid P (l.drop i) (k - i) (by omega)
  rw [List.length_drop] at h
  refine ⟨by omega, ?_⟩
  have e : bat (l.drop i) (k - i) = bat l k := by
    unfold bat
    simp only [List.getD, List.getElem?_drop]
    rw [show i + (k - i) = k by omega]
  rw [← e]
  exact h.2

theorem inAt_any (p : Option Addr) (n c : Nat) (l : List UInt8) (i : Nat) (j ch : Int) (w : World) (h : Bs w p n l) (hj : j = i) (hn : n ≤ 2147483647) :
    Calls Try.prog 18 #[.slice p n c, .int .i64 j, .int .u8 ch] w fun e w' => e = .returned (.bool (atB l i ch)) ∧ w = w' := by
  subst hj
  have hl := h.len
  by_cases hlt : i < n
  · obtain ⟨b, o, rfl, _, hc⟩ := h.cells (by omega)
    have c1 := hc i hlt
    have hv : atB l i ch = (bat l i == ch) := by simp [atB, hl, hlt]
    have HV := Lib.hid hv
    clear hv hc hl
    go_enter Try.func18, Try.ntmps18
    go_wp2
    go_ret
    exact ⟨ret_bool HV.out.symm, rfl⟩
  · have hv : atB l i ch = false := by simp [atB, hl, hlt]
    have HV := Lib.hid hv
    clear hv hl
    go_enter Try.func18, Try.ntmps18
    go_wp2
    go_ret
    exact ⟨ret_bool HV.out.symm, rfl⟩

set_option maxHeartbeats 400000 in
theorem inRunW_any (P : Int → Bool) (f : FuncId) (cap : Array Value) (w : World) (hf : ∀ x, Calls Try.prog f (#[.int .u8 x] ++ cap) w fun e w' => e = .returned (.bool (P x)) ∧ w = w')
    (he : ∀ args w, (callFunc f args).run Try.prog w = .ok (.enter f args) w)
    (p : Option Addr) (n c : Nat) (l : List UInt8) (i : Nat) (j : Int) (h : Bs w p n l) (hj : j = i) (hn : n ≤ 2147483647) (hi : i ≤ 4294967295) :
    Calls Try.prog 16 #[.slice p n c, .int .i64 j, .func (.func f) #[] cap] w fun e w' => e = .returned (.int .i64 (run P l i)) ∧ w = w' := by
  subst hj
  have HL := Lib.hid h.len
  go_enter Try.func16, Try.ntmps16
  go_wp2
  go_loop [1] (fun t => ∃ k : Nat, t = .int .i64 k ∧ run P l i = run P l k ∧ k ≤ 4294967295) (fun t => n - (intOf t).toNat)
  case atStart => exact ⟨i, rfl, rfl, hi⟩
  case round =>
    obtain ⟨k, rfl, hr, hk⟩ := hrel
    have HR := Lib.hid hr
    clear hr
    by_cases hlt : k < n
    · obtain ⟨b, o, rfl, _, hc⟩ := h.cells (by omega)
      have c1 := hc k hlt
      clear hc
      have HF := Lib.hid hf
      clear hf
      cases hp : P (bat l k) with
      | true =>
        have HP := Lib.hid hp
        go_wp2_with (go_at_fn f; refine (HF.out _).mono ?_; rintro e w' ⟨rfl, rfl⟩)
        go_round
        case rel => exact ⟨k + 1, by go_num, by rw [HR.out, run_step (by rw [HL.out]; exact hlt) HP.out], by omega⟩
        case measure => simp [intOf]; omega
      | false =>
        have HP := Lib.hid hp
        go_wp2_with (go_at_fn f; refine (HF.out _).mono ?_; rintro e w' ⟨rfl, rfl⟩)
        go_ret
        exact ⟨ret_int (by rw [HR.out, run_stop HP.out]), rfl⟩
    · go_wp2
      go_ret
      exact ⟨ret_int (by rw [HR.out, run_end (by rw [HL.out]; omega)]), rfl⟩
theorem inRun_any (P : Int → Bool) (f : FuncId) (cap : Array Value) (hf : ∀ x w, Calls Try.prog f (#[.int .u8 x] ++ cap) w fun e w' => e = .returned (.bool (P x)) ∧ w = w')
    (he : ∀ args w, (callFunc f args).run Try.prog w = .ok (.enter f args) w)
    (p : Option Addr) (n c : Nat) (l : List UInt8) (i : Nat) (j : Int) (w : World) (h : Bs w p n l) (hj : j = i) (hn : n ≤ 2147483647) (hi : i ≤ 4294967295) :
    Calls Try.prog 16 #[.slice p n c, .int .i64 j, .func (.func f) #[] cap] w fun e w' => e = .returned (.int .i64 (run P l i)) ∧ w = w' :=
  inRunW_any P f cap w (fun x => hf x w) he p n c l i j h hj hn hi

end Go.Proofs.Ytkjbmekpcjfenaa
