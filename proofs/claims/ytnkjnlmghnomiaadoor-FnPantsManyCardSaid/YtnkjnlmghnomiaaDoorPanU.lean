/- Smart punctuation: how a piece is written, walked. Condition: the piece is a right one. -/
import Derived.Test.YtnkjnlmghnomiaaDoorPanT
import Derived.Deep.RegionHeld3
namespace Go.Proofs.YtnkjnlmghnomiaaDoor
open Go.ChangeShapes Go.WideShapes Go.ChangeAt Go.RowKit

theorem lit_str (l : List UInt8) : (⟨l.toArray⟩ : ByteArray) = str l := rfl
/-- a piece as a value -/
abbrev pcVal (P : Pc) : Value := .agg #[.int .i64 (P.kind : Int), .int .i64 (P.var : Int), .string (str P.a), .string (str P.b), .int .i64 (P.n : Int), .int .i64 (P.m : Int)]
theorem ret_str {a b : ByteArray} (h : a = b) : Ending.returned (.string a) = Ending.returned (.string b) := by rw [h]
theorem OkP.za {P : Pc} (h : OkP P) : (str P.a).size ≤ 43 := by rw [str_size]; exact wordsL_len h.a
theorem OkP.zb {P : Pc} (h : OkP P) (h7 : P.kind = 7) : (str P.b).size ≤ 43 := by rw [str_size]; exact wordsL_len (oneL_words (h.b h7))
theorem endL_len (v : Nat) : (endL v).length ≤ 2 := by
  unfold endL
  repeat' split
  all_goals simp
theorem hyL_len (v : Nat) : (hyL v).length ≤ 3 := by
  unfold hyL
  rw [List.length_take]
  simp
  omega
/-- the numbers of a piece that was boxed, and where the call stands -/
def In (w0 : World) (n m : Nat) (w : World) : Prop :=
  w.cell? ⟨w0.heap.size, 4, none⟩ = some (.int .i64 (n : Int)) ∧ w.cell? ⟨w0.heap.size, 5, none⟩ = some (.int .i64 (m : Int)) ∧ Below w0.heap.size w0 w ∧ w0.heap.size < w.heap.size
theorem In.new (w0 : World) (n m : Nat) (c0 c1 c2 c3 : Value) : In w0 n m (w0.alloc (.cells #[c0, c1, c2, c3, .int .i64 (n : Int), .int .i64 (m : Int)] 40)).drew :=
  ⟨by simp, by simp, ((Below.refl _ _).alloc (Nat.le_refl _) _).drew, by simp⟩
theorem In.decimal {w0 : World} {n m k : Nat} {w : World} (h : In w0 n m w) (hk : k ≤ 999) :
    Calls Tryd.prog 31 #[.int .i64 k] w fun e w' => e = .returned (.string (str (decL k))) ∧ In w0 n m w' :=
  (decimal_any k w (by omega)).mono fun e w' ⟨h1, h2⟩ =>
    ⟨h1, (h2.cell (p := ⟨w0.heap.size, 4, none⟩) h.2.2.2).trans h.1, (h2.cell (p := ⟨w0.heap.size, 5, none⟩) h.2.2.2).trans h.2.1, h.2.2.1.trans (h2.mono h.2.2.1.size), by have := h2.size; have := h.2.2.2; omega⟩

set_option maxHeartbeats 4000000 in
set_option maxRecDepth 100000 in
theorem written_any (P : Pc) (w : World) (hk : OkP P) :
    Calls Tryd.prog 17 #[pcVal P] w fun e w' => e = .returned (.string (str (wrL P))) ∧ Below w.heap.size w w' := by
  have za := hk.za
  have hzb := hk.zb
  have hkind := hk.kind
  have hv := hk.var
  have hn := hk.n2
  have hm := hk.m2
  clear hk
  obtain ⟨kind, v, a, b, n, m⟩ := P
  unfold pcVal
  simp only at za hzb hkind hv hn hm ⊢
  have HB := Lib.hid (show ∀ o : Obj, Below w.heap.size w (w.alloc o) from fun o => (Below.refl _ _).alloc (Nat.le_refl _) o)
  have HE := Lib.hid (fun w => pantEnd_any (v : Int) w (by omega) (by omega))
  have HH := Lib.hid (fun w => hyphens_any (v : Int) w (by omega) (by omega))
  have HS := Lib.hid (fun w => pantSign_any (v : Int) w (by omega) (by omega))
  have HI := Lib.hid (fun w => inEntity0_any (v : Int) w (by omega) (by omega))
  have HN := Lib.hid (fun w1 (h : In w n m w1) => h.decimal (k := n) hn)
  have HM := Lib.hid (fun w1 (h : In w n m w1) => h.decimal (k := m) hm)
  rw [Int.toNat_natCast] at HE HH HS HI
  have hk : kind = 0 ∨ kind = 1 ∨ kind = 2 ∨ kind = 3 ∨ kind = 5 ∨ kind = 8 ∨ kind = 9 ∨ kind = 10 ∨ kind = 14 ∨ kind = 4 ∨ kind = 6 ∨ kind = 7 ∨ kind = 11 ∨ kind = 12 ∨ kind = 13 := by omega
  clear hkind
  rcases hk with h | h | h | h | h | h | h | h | h | h
  iterate 9
    · clear hzb
      subst h
      go_enter Tryd.func17, Tryd.ntmps17
      go_wp2_with fail
      go_ret
      exact ⟨ret_str (by simp (decide := true) only [lit_str, str_app, wrL, if_true, if_false, List.append_assoc, List.cons_append, List.nil_append, quotL, tagL, hellipL]), HB.out _⟩
  rcases h with h | h | h | h | h | h
  · clear hzb
    subst h
    have ze : (str (endL v)).size ≤ 2 := by rw [str_size]; exact endL_len v
    go_enter Tryd.func17, Tryd.ntmps17
    go_upto_region 9 with fail
    go_quiet ((go_at_call 28; exact Calls.quiet_of_same ((HE.out _).mono fun _ _ h => ⟨h.1, h.2.symm⟩)))
    go_wp2_with fail
    go_ret
    exact ⟨ret_str (by simp (decide := true) only [lit_str, str_app, wrL, if_true, if_false, List.append_assoc, List.cons_append, List.nil_append]), Below.drewN (HB.out _) _⟩
  · clear hzb
    subst h
    go_enter Tryd.func17, Tryd.ntmps17
    go_wp2_with fail
    refine (HH.out _).mono ?_
    rintro e w1 ⟨rfl, rfl⟩
    go_wp2_with fail
    go_ret
    exact ⟨ret_str rfl, HB.out _⟩
  · subst h
    have zb := hzb rfl
    clear hzb
    have ze : (str (hyL v)).size ≤ 3 := by rw [str_size]; exact hyL_len v
    go_enter Tryd.func17, Tryd.ntmps17
    go_upto_region 15 with fail
    go_quiet ((go_at_call 29; exact Calls.quiet_of_same ((HH.out _).mono fun _ _ h => ⟨h.1, h.2.symm⟩)))
    go_wp2_with fail
    go_ret
    exact ⟨ret_str (by simp (decide := true) only [lit_str, str_app, wrL, if_true, if_false, List.append_assoc, List.cons_append, List.nil_append]), Below.drewN (HB.out _) _⟩
  · clear hzb
    subst h
    go_enter Tryd.func17, Tryd.ntmps17
    go_wp2_with fail
    refine (HS.out _).mono ?_
    rintro e w1 ⟨rfl, rfl⟩
    go_wp2_with fail
    go_ret
    exact ⟨ret_str rfl, HB.out _⟩
  · clear hzb
    subst h
    have zn : (str (decL n)).size ≤ 3 := by rw [str_size]; exact decL_len hn
    have zm : (str (decL m)).size ≤ 3 := by rw [str_size]; exact decL_len hm
    go_enter Tryd.func17, Tryd.ntmps17
    go_upto_region 26 with fail
    have HIn := Lib.hid (In.new w n m (.int .i64 12) (.int .i64 (v : Int)) (.string (str a)) (.string (str b)))
    go_region_with (first
      | (go_at_call 31
         with_reducible refine (HN.out _ ?_).mono ?_
         first | exact HIn.out | exact hin
         rintro e w1 ⟨rfl, hin⟩
         have c4 := hin.1
         have c5 := hin.2.1)
      | (go_at_call 31
         with_reducible refine (HM.out _ ?_).mono ?_
         first | exact HIn.out | exact hin
         rintro e w2 ⟨rfl, hin⟩
         have c4 := hin.1
         have c5 := hin.2.1))
    all_goals
      go_wp2_with fail
      go_ret
      exact ⟨(show Ending.returned (.string (str (decL n) ++ str [47] ++ str (decL m))) = _ from ret_str (by simp (decide := true) only [str_app, wrL, if_true, if_false, List.append_assoc, List.cons_append, List.nil_append])), hin.2.2.1⟩
  · clear hzb
    subst h
    have h7 : v = 0 ∨ v = 1 ∨ v = 2 ∨ v = 3 ∨ v = 4 ∨ v = 5 ∨ v = 6 := by omega
    clear hv
    rcases h7 with rfl | rfl | rfl | rfl | rfl | rfl | rfl
    all_goals
      go_enter Tryd.func17, Tryd.ntmps17
      go_wp2_with fail
      refine (HI.out _).mono ?_
      rintro e w1 ⟨s, rfl, rfl⟩
      go_wp2_with fail
      go_ret
      exact ⟨ret_str rfl, HB.out _⟩

end Go.Proofs.YtnkjnlmghnomiaaDoor
