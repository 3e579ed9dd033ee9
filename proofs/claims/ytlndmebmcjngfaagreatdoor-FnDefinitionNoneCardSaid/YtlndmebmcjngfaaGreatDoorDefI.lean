/- Definitions: zzFits32, spec.IsExtensions, spec.IsDefinition, spec.DefinitionText walked. Condition: lengths are bounded. -/
import Derived.Test.YtlndmebmcjngfaaGreatDoorDocA
import Derived.Deep.QuietTactic
namespace Go.Proofs.YtlndmebmcjngfaaGreatDoor
open Go.ChangeShapes Go.WideShapes Go.ChangeAt Go.RowKit

/-- is a number a set of extensions -/
def extB (ext : Int) : Bool := decide (0 ≤ ext) && (decide (ext ≤ 131070) && (ext % 2 == 0))
theorem ext_any (ext : Int) (w : World) : Calls Tryz.prog 11 #[.int .i64 ext] w fun e w' => e = .returned (.bool (extB ext)) ∧ w = w' := by
  by_cases h0 : 0 ≤ ext
  · by_cases h1 : ext ≤ 131070
    · have HV := Lib.hid (show extB ext = (ext % 2 == 0) by unfold extB; rw [decide_eq_true h0, decide_eq_true h1]; rfl)
      go_enter Tryz.func11, Tryz.ntmps11
      go_wp2_with fail
      go_ret
      exact ⟨ret_bool (by rw [HV.out]), rfl⟩
    · have HV := Lib.hid (show extB ext = false by unfold extB; rw [decide_eq_true h0, decide_eq_false h1]; rfl)
      go_enter Tryz.func11, Tryz.ntmps11
      go_wp2_with fail
      go_ret
      exact ⟨ret_bool (by rw [HV.out]), rfl⟩
  · have HV := Lib.hid (show extB ext = false by unfold extB; rw [decide_eq_false h0]; rfl)
    go_enter Tryz.func11, Tryz.ntmps11
    go_wp2_with fail
    go_ret
    exact ⟨ret_bool (by rw [HV.out]), rfl⟩

/-- the cells of a definition -/
def defV (bl : Int) (id pa ti : ByteArray) (q : Int) (nx : Bool) : Array Value := #[.int .u8 bl, .string id, .string pa, .string ti, .int .u8 q, .bool nx]
/-- nothing is longer than can be -/
def fits32 (id pa ti : ByteArray) : Bool := decide (id.size ≤ 2147483647) && decide (pa.size ≤ 2147483647) && decide (ti.size ≤ 2147483647)

theorem zzFits32_any (bl : Int) (id pa ti : ByteArray) (q : Int) (nx : Bool) (w : World) :
    Calls Tryz.prog 10 #[.agg #[.int .u8 bl, .string id, .string pa, .string ti, .int .u8 q, .bool nx]] w fun e w' => e = .returned (.bool (fits32 id pa ti)) ∧ Below w.heap.size w w' := by
  by_cases h1 : id.size ≤ 2147483647
  · by_cases h2 : pa.size ≤ 2147483647
    · by_cases h3 : ti.size ≤ 2147483647
      · have HF := Lib.hid (show fits32 id pa ti = true by unfold fits32; rw [decide_eq_true h1, decide_eq_true h2, decide_eq_true h3]; rfl)
        go_enter Tryz.func10, Tryz.ntmps10
        go_wp2_with fail
        go_ret
        exact ⟨ret_bool HF.out.symm, (Below.refl _ _).alloc (Nat.le_refl _) _⟩
      · have HF := Lib.hid (show fits32 id pa ti = false by unfold fits32; rw [decide_eq_false h3, Bool.and_false])
        go_enter Tryz.func10, Tryz.ntmps10
        go_wp2_with fail
        go_ret
        exact ⟨ret_bool HF.out.symm, (Below.refl _ _).alloc (Nat.le_refl _) _⟩
    · have HF := Lib.hid (show fits32 id pa ti = false by unfold fits32; rw [decide_eq_false h2, Bool.and_false, Bool.false_and])
      go_enter Tryz.func10, Tryz.ntmps10
      go_wp2_with fail
      go_ret
      exact ⟨ret_bool HF.out.symm, (Below.refl _ _).alloc (Nat.le_refl _) _⟩
  · have HF := Lib.hid (show fits32 id pa ti = false by unfold fits32; rw [decide_eq_false h1, Bool.false_and, Bool.false_and])
    go_enter Tryz.func10, Tryz.ntmps10
    go_wp2_with fail
    go_ret
    exact ⟨ret_bool HF.out.symm, (Below.refl _ _).alloc (Nat.le_refl _) _⟩

/-- is a definition a right one -/
def defB (bl : Int) (id pa ti : ByteArray) (q : Int) : Bool :=
  decide (bl ≤ 3) && (idL id.data.toList && (idL pa.data.toList && ((ti.data.toList.isEmpty || docL ti.data.toList) && decide (q ≤ 2))))

set_option maxHeartbeats 2000000 in
theorem isDef_any (bl : Int) (id pa ti : ByteArray) (q : Int) (nx : Bool) (w : World) (h1 : id.size ≤ 2147483647) (h2 : pa.size ≤ 2147483647) (h3 : ti.size ≤ 2147483647) :
    Calls Tryz.prog 12 #[.agg #[.int .u8 bl, .string id, .string pa, .string ti, .int .u8 q, .bool nx]] w fun e w' => e = .returned (.bool (defB bl id pa ti q)) ∧ Below w.heap.size w w' := by
  have H1 := Lib.hid (fun w => isDocID_any id w h1)
  have H2 := Lib.hid (fun w => isDocID_any pa w h2)
  have H3 := Lib.hid (fun w => isDocLine_any ti w h3)
  have HB := Lib.hid (show ∀ o : Obj, Below w.heap.size w (w.alloc o) from fun o => (Below.refl _ _).alloc (Nat.le_refl _) o)
  obtain ⟨b1, e1⟩ : ∃ b1, b1 = idL id.data.toList := ⟨_, rfl⟩
  obtain ⟨b2, e2⟩ : ∃ b2, b2 = idL pa.data.toList := ⟨_, rfl⟩
  obtain ⟨b3, e3⟩ : ∃ b3, b3 = docL ti.data.toList := ⟨_, rfl⟩
  rw [← e1] at H1
  rw [← e2] at H2
  rw [← e3] at H3
  have HD := Lib.hid (show defB bl id pa ti q = (decide (bl ≤ 3) && (b1 && (b2 && ((ti.data.toList.isEmpty || b3) && decide (q ≤ 2))))) by unfold defB; rw [e1, e2, e3])
  clear e1 e2 e3 h1 h2 h3
  by_cases g1 : bl ≤ 3
  · rw [decide_eq_true g1, Bool.true_and] at HD
    cases b1 with
    | false =>
      go_enter Tryz.func12, Tryz.ntmps12
      go_wp2_with fail
      refine (H1.out _).mono ?_
      rintro e w1 ⟨rfl, rfl⟩
      go_wp2_with fail
      go_ret
      exact ⟨ret_bool (by rw [HD.out]; rfl), HB.out _⟩
    | true =>
      rw [Bool.true_and] at HD
      cases b2 with
      | false =>
        go_enter Tryz.func12, Tryz.ntmps12
        go_wp2_with fail
        refine (H1.out _).mono ?_
        rintro e w1 ⟨rfl, rfl⟩
        go_wp2_with fail
        refine (H2.out _).mono ?_
        rintro e w1 ⟨rfl, rfl⟩
        go_wp2_with fail
        go_ret
        exact ⟨ret_bool (by rw [HD.out]; rfl), HB.out _⟩
      | true =>
        rw [Bool.true_and] at HD
        cases ht : ti.toList.isEmpty with
        | true =>
          have ht2 : ti.toList = [] := by simpa using ht
          have HT := Lib.hid (show ti.data.toList.isEmpty = true by rw [← Lib.toList_data]; exact ht)
          go_enter Tryz.func12, Tryz.ntmps12
          go_wp2_with fail
          refine (H1.out _).mono ?_
          rintro e w1 ⟨rfl, rfl⟩
          go_wp2_with fail
          refine (H2.out _).mono ?_
          rintro e w1 ⟨rfl, rfl⟩
          go_wp2_with fail
          go_ret
          exact ⟨ret_bool (by rw [HD.out, HT.out]; simp), HB.out _⟩
        | false =>
          have ht2 : ¬ ti.toList = [] := by simpa using ht
          have HT := Lib.hid (show ti.data.toList.isEmpty = false by rw [← Lib.toList_data]; exact ht)
          cases b3
          all_goals
            go_enter Tryz.func12, Tryz.ntmps12
            go_wp2_with fail
            refine (H1.out _).mono ?_
            rintro e w1 ⟨rfl, rfl⟩
            go_wp2_with fail
            refine (H2.out _).mono ?_
            rintro e w1 ⟨rfl, rfl⟩
            go_wp2_with fail
            refine (H3.out _).mono ?_
            rintro e w1 ⟨rfl, rfl⟩
            go_wp2_with fail
            go_ret
            exact ⟨ret_bool (by rw [HD.out, HT.out]; simp), HB.out _⟩
  · have HG := Lib.hid (decide_eq_false g1)
    go_enter Tryz.func12, Tryz.ntmps12
    go_wp2_with fail
    go_ret
    exact ⟨ret_bool (by rw [HD.out, HG.out]; rfl), HB.out _⟩

end Go.Proofs.YtlndmebmcjngfaaGreatDoor
