/- Definitions: spec.DefinitionText walked, the other titles. Condition: the definition is a right one. -/
import Derived.Test.YtlndmebmcjngfaaGreatDoorDefJ
namespace Go.Proofs.YtlndmebmcjngfaaGreatDoor
open Go.ChangeShapes Go.WideShapes Go.ChangeAt Go.RowKit

set_option maxHeartbeats 4000000 in
set_option maxRecDepth 100000 in
theorem defText_0true (bl : Nat) (id pa ti : ByteArray) (w : World) (hb : bl ≤ 3) (h1 : id.size ≤ 20) (h2 : pa.size ≤ 20) (h3 : ti.size ≤ 60) (ht : ti.toList.isEmpty = false) :
    Calls Tryz.prog 13 #[.agg #[.int .u8 (bl : Int), .string id, .string pa, .string ti, .int .u8 0, .bool true]] w (MadeSaid (defL bl id.data.toList pa.data.toList ti.data.toList 34 34 true) w) := by
  have ht2 : ¬ ti.toList = [] := by simpa using ht
  have hs0 : (str (List.replicate bl 32)).size ≤ 3 := by rw [str_size, List.length_replicate]; exact hb
  have hS : (str (List.replicate bl 32) ++ (⟨#[91]⟩ : ByteArray) ++ id ++ (⟨#[93, 58, 32, 47]⟩ : ByteArray) ++ pa ++ ((⟨#[10, 32, 32]⟩ : ByteArray) ++ (⟨#[34]⟩ : ByteArray) ++ ti ++ (⟨#[34]⟩ : ByteArray)) ++ (⟨#[10]⟩ : ByteArray)).size = (str (List.replicate bl 32)).size + 1 + id.size + 4 + pa.size + (4 + ti.size + 1) + 1 := by
    simp only [ByteArray.size_append]
    rfl
  have hl : (str (List.replicate bl 32) ++ (⟨#[91]⟩ : ByteArray) ++ id ++ (⟨#[93, 58, 32, 47]⟩ : ByteArray) ++ pa ++ ((⟨#[10, 32, 32]⟩ : ByteArray) ++ (⟨#[34]⟩ : ByteArray) ++ ti ++ (⟨#[34]⟩ : ByteArray)) ++ (⟨#[10]⟩ : ByteArray)).data.toList = defL bl id.data.toList pa.data.toList ti.data.toList 34 34 true := by
    have h0 : ¬ ti.data.toList = [] := by rw [← Lib.toList_data]; exact ht2
    simp only [Array.toList_eq_nil_iff] at h0
    simp [defL, tailL, str, h0]
  have HS := Lib.hid hS
  have HL := Lib.hid hl
  clear hS hl
  have kc := fun (w : World) (s : ByteArray) => Lib.run_convert_string_bytes (P := Tryz.prog) w 9 23 5 s Tryz.underlying9 Tryz.underlying23 Tryz.underlying5
  go_enter Tryz.func13, Tryz.ntmps13
  go_wp2_with fail
  go_quiet ((go_at_call 21; exact Calls.quiet_of_same ((repeated_at 32 _ bl _ (by first | rfl | simp) (by omega)).mono fun _ _ h => ⟨h.1, h.2.symm⟩)))
  go_wp2_with fail
  go_region
  all_goals go_wp2_with fail
  all_goals go_ret
  all_goals exact made_fit HL.out HS.out (((Below.drewN ((Below.refl _ _).alloc (Nat.le_refl _) _) _).alloc (by simp) _).alloc (by simp; omega) _) (by simp)

set_option maxHeartbeats 4000000 in
set_option maxRecDepth 100000 in
theorem defText_1false (bl : Nat) (id pa ti : ByteArray) (w : World) (hb : bl ≤ 3) (h1 : id.size ≤ 20) (h2 : pa.size ≤ 20) (h3 : ti.size ≤ 60) (ht : ti.toList.isEmpty = false) :
    Calls Tryz.prog 13 #[.agg #[.int .u8 (bl : Int), .string id, .string pa, .string ti, .int .u8 1, .bool false]] w (MadeSaid (defL bl id.data.toList pa.data.toList ti.data.toList 39 39 false) w) := by
  have ht2 : ¬ ti.toList = [] := by simpa using ht
  have hs0 : (str (List.replicate bl 32)).size ≤ 3 := by rw [str_size, List.length_replicate]; exact hb
  have hS : (str (List.replicate bl 32) ++ (⟨#[91]⟩ : ByteArray) ++ id ++ (⟨#[93, 58, 32, 47]⟩ : ByteArray) ++ pa ++ ((⟨#[32]⟩ : ByteArray) ++ (⟨#[39]⟩ : ByteArray) ++ ti ++ (⟨#[39]⟩ : ByteArray)) ++ (⟨#[10]⟩ : ByteArray)).size = (str (List.replicate bl 32)).size + 1 + id.size + 4 + pa.size + (2 + ti.size + 1) + 1 := by
    simp only [ByteArray.size_append]
    rfl
  have hl : (str (List.replicate bl 32) ++ (⟨#[91]⟩ : ByteArray) ++ id ++ (⟨#[93, 58, 32, 47]⟩ : ByteArray) ++ pa ++ ((⟨#[32]⟩ : ByteArray) ++ (⟨#[39]⟩ : ByteArray) ++ ti ++ (⟨#[39]⟩ : ByteArray)) ++ (⟨#[10]⟩ : ByteArray)).data.toList = defL bl id.data.toList pa.data.toList ti.data.toList 39 39 false := by
    have h0 : ¬ ti.data.toList = [] := by rw [← Lib.toList_data]; exact ht2
    simp only [Array.toList_eq_nil_iff] at h0
    simp [defL, tailL, str, h0]
  have HS := Lib.hid hS
  have HL := Lib.hid hl
  clear hS hl
  have kc := fun (w : World) (s : ByteArray) => Lib.run_convert_string_bytes (P := Tryz.prog) w 9 23 5 s Tryz.underlying9 Tryz.underlying23 Tryz.underlying5
  go_enter Tryz.func13, Tryz.ntmps13
  go_wp2_with fail
  go_quiet ((go_at_call 21; exact Calls.quiet_of_same ((repeated_at 32 _ bl _ (by first | rfl | simp) (by omega)).mono fun _ _ h => ⟨h.1, h.2.symm⟩)))
  go_wp2_with fail
  go_region
  all_goals go_wp2_with fail
  all_goals go_ret
  all_goals exact made_fit HL.out HS.out (((Below.drewN ((Below.refl _ _).alloc (Nat.le_refl _) _) _).alloc (by simp) _).alloc (by simp; omega) _) (by simp)

set_option maxHeartbeats 4000000 in
set_option maxRecDepth 100000 in
theorem defText_1true (bl : Nat) (id pa ti : ByteArray) (w : World) (hb : bl ≤ 3) (h1 : id.size ≤ 20) (h2 : pa.size ≤ 20) (h3 : ti.size ≤ 60) (ht : ti.toList.isEmpty = false) :
    Calls Tryz.prog 13 #[.agg #[.int .u8 (bl : Int), .string id, .string pa, .string ti, .int .u8 1, .bool true]] w (MadeSaid (defL bl id.data.toList pa.data.toList ti.data.toList 39 39 true) w) := by
  have ht2 : ¬ ti.toList = [] := by simpa using ht
  have hs0 : (str (List.replicate bl 32)).size ≤ 3 := by rw [str_size, List.length_replicate]; exact hb
  have hS : (str (List.replicate bl 32) ++ (⟨#[91]⟩ : ByteArray) ++ id ++ (⟨#[93, 58, 32, 47]⟩ : ByteArray) ++ pa ++ ((⟨#[10, 32, 32]⟩ : ByteArray) ++ (⟨#[39]⟩ : ByteArray) ++ ti ++ (⟨#[39]⟩ : ByteArray)) ++ (⟨#[10]⟩ : ByteArray)).size = (str (List.replicate bl 32)).size + 1 + id.size + 4 + pa.size + (4 + ti.size + 1) + 1 := by
    simp only [ByteArray.size_append]
    rfl
  have hl : (str (List.replicate bl 32) ++ (⟨#[91]⟩ : ByteArray) ++ id ++ (⟨#[93, 58, 32, 47]⟩ : ByteArray) ++ pa ++ ((⟨#[10, 32, 32]⟩ : ByteArray) ++ (⟨#[39]⟩ : ByteArray) ++ ti ++ (⟨#[39]⟩ : ByteArray)) ++ (⟨#[10]⟩ : ByteArray)).data.toList = defL bl id.data.toList pa.data.toList ti.data.toList 39 39 true := by
    have h0 : ¬ ti.data.toList = [] := by rw [← Lib.toList_data]; exact ht2
    simp only [Array.toList_eq_nil_iff] at h0
    simp [defL, tailL, str, h0]
  have HS := Lib.hid hS
  have HL := Lib.hid hl
  clear hS hl
  have kc := fun (w : World) (s : ByteArray) => Lib.run_convert_string_bytes (P := Tryz.prog) w 9 23 5 s Tryz.underlying9 Tryz.underlying23 Tryz.underlying5
  go_enter Tryz.func13, Tryz.ntmps13
  go_wp2_with fail
  go_quiet ((go_at_call 21; exact Calls.quiet_of_same ((repeated_at 32 _ bl _ (by first | rfl | simp) (by omega)).mono fun _ _ h => ⟨h.1, h.2.symm⟩)))
  go_wp2_with fail
  go_region
  all_goals go_wp2_with fail
  all_goals go_ret
  all_goals exact made_fit HL.out HS.out (((Below.drewN ((Below.refl _ _).alloc (Nat.le_refl _) _) _).alloc (by simp) _).alloc (by simp; omega) _) (by simp)

set_option maxHeartbeats 4000000 in
set_option maxRecDepth 100000 in
theorem defText_2false (bl : Nat) (id pa ti : ByteArray) (w : World) (hb : bl ≤ 3) (h1 : id.size ≤ 20) (h2 : pa.size ≤ 20) (h3 : ti.size ≤ 60) (ht : ti.toList.isEmpty = false) :
    Calls Tryz.prog 13 #[.agg #[.int .u8 (bl : Int), .string id, .string pa, .string ti, .int .u8 2, .bool false]] w (MadeSaid (defL bl id.data.toList pa.data.toList ti.data.toList 40 41 false) w) := by
  have ht2 : ¬ ti.toList = [] := by simpa using ht
  have hs0 : (str (List.replicate bl 32)).size ≤ 3 := by rw [str_size, List.length_replicate]; exact hb
  have hS : (str (List.replicate bl 32) ++ (⟨#[91]⟩ : ByteArray) ++ id ++ (⟨#[93, 58, 32, 47]⟩ : ByteArray) ++ pa ++ ((⟨#[32]⟩ : ByteArray) ++ (⟨#[40]⟩ : ByteArray) ++ ti ++ (⟨#[41]⟩ : ByteArray)) ++ (⟨#[10]⟩ : ByteArray)).size = (str (List.replicate bl 32)).size + 1 + id.size + 4 + pa.size + (2 + ti.size + 1) + 1 := by
    simp only [ByteArray.size_append]
    rfl
  have hl : (str (List.replicate bl 32) ++ (⟨#[91]⟩ : ByteArray) ++ id ++ (⟨#[93, 58, 32, 47]⟩ : ByteArray) ++ pa ++ ((⟨#[32]⟩ : ByteArray) ++ (⟨#[40]⟩ : ByteArray) ++ ti ++ (⟨#[41]⟩ : ByteArray)) ++ (⟨#[10]⟩ : ByteArray)).data.toList = defL bl id.data.toList pa.data.toList ti.data.toList 40 41 false := by
    have h0 : ¬ ti.data.toList = [] := by rw [← Lib.toList_data]; exact ht2
    simp only [Array.toList_eq_nil_iff] at h0
    simp [defL, tailL, str, h0]
  have HS := Lib.hid hS
  have HL := Lib.hid hl
  clear hS hl
  have kc := fun (w : World) (s : ByteArray) => Lib.run_convert_string_bytes (P := Tryz.prog) w 9 23 5 s Tryz.underlying9 Tryz.underlying23 Tryz.underlying5
  go_enter Tryz.func13, Tryz.ntmps13
  go_wp2_with fail
  go_quiet ((go_at_call 21; exact Calls.quiet_of_same ((repeated_at 32 _ bl _ (by first | rfl | simp) (by omega)).mono fun _ _ h => ⟨h.1, h.2.symm⟩)))
  go_wp2_with fail
  go_region
  all_goals go_wp2_with fail
  all_goals go_ret
  all_goals exact made_fit HL.out HS.out (((Below.drewN ((Below.refl _ _).alloc (Nat.le_refl _) _) _).alloc (by simp) _).alloc (by simp; omega) _) (by simp)

set_option maxHeartbeats 4000000 in
set_option maxRecDepth 100000 in
theorem defText_2true (bl : Nat) (id pa ti : ByteArray) (w : World) (hb : bl ≤ 3) (h1 : id.size ≤ 20) (h2 : pa.size ≤ 20) (h3 : ti.size ≤ 60) (ht : ti.toList.isEmpty = false) :
    Calls Tryz.prog 13 #[.agg #[.int .u8 (bl : Int), .string id, .string pa, .string ti, .int .u8 2, .bool true]] w (MadeSaid (defL bl id.data.toList pa.data.toList ti.data.toList 40 41 true) w) := by
  have ht2 : ¬ ti.toList = [] := by simpa using ht
  have hs0 : (str (List.replicate bl 32)).size ≤ 3 := by rw [str_size, List.length_replicate]; exact hb
  have hS : (str (List.replicate bl 32) ++ (⟨#[91]⟩ : ByteArray) ++ id ++ (⟨#[93, 58, 32, 47]⟩ : ByteArray) ++ pa ++ ((⟨#[10, 32, 32]⟩ : ByteArray) ++ (⟨#[40]⟩ : ByteArray) ++ ti ++ (⟨#[41]⟩ : ByteArray)) ++ (⟨#[10]⟩ : ByteArray)).size = (str (List.replicate bl 32)).size + 1 + id.size + 4 + pa.size + (4 + ti.size + 1) + 1 := by
    simp only [ByteArray.size_append]
    rfl
  have hl : (str (List.replicate bl 32) ++ (⟨#[91]⟩ : ByteArray) ++ id ++ (⟨#[93, 58, 32, 47]⟩ : ByteArray) ++ pa ++ ((⟨#[10, 32, 32]⟩ : ByteArray) ++ (⟨#[40]⟩ : ByteArray) ++ ti ++ (⟨#[41]⟩ : ByteArray)) ++ (⟨#[10]⟩ : ByteArray)).data.toList = defL bl id.data.toList pa.data.toList ti.data.toList 40 41 true := by
    have h0 : ¬ ti.data.toList = [] := by rw [← Lib.toList_data]; exact ht2
    simp only [Array.toList_eq_nil_iff] at h0
    simp [defL, tailL, str, h0]
  have HS := Lib.hid hS
  have HL := Lib.hid hl
  clear hS hl
  have kc := fun (w : World) (s : ByteArray) => Lib.run_convert_string_bytes (P := Tryz.prog) w 9 23 5 s Tryz.underlying9 Tryz.underlying23 Tryz.underlying5
  go_enter Tryz.func13, Tryz.ntmps13
  go_wp2_with fail
  go_quiet ((go_at_call 21; exact Calls.quiet_of_same ((repeated_at 32 _ bl _ (by first | rfl | simp) (by omega)).mono fun _ _ h => ⟨h.1, h.2.symm⟩)))
  go_wp2_with fail
  go_region
  all_goals go_wp2_with fail
  all_goals go_ret
  all_goals exact made_fit HL.out HS.out (((Below.drewN ((Below.refl _ _).alloc (Nat.le_refl _) _) _).alloc (by simp) _).alloc (by simp; omega) _) (by simp)

end Go.Proofs.YtlndmebmcjngfaaGreatDoor
