/- Definitions: spec.DefinitionText walked. Condition: the definition is a right one. -/
import Derived.Test.YtlndmebmcjngfaaGreatDoorDefI
import Derived.RegionTactic
import Derived.BigRegion
namespace Go.Proofs.YtlndmebmcjngfaaGreatDoor
open Go.ChangeShapes Go.WideShapes Go.ChangeAt Go.RowKit

theorem repeated_at (c : UInt8) (n : Int) (k : Nat) (w : World) (hn : n = k) (hk : k ≤ 1000000) :
    Calls Tryz.prog 21 #[.string ⟨#[c]⟩, .int .i64 n, .string ⟨#[]⟩] w fun e w' => e = .returned (.string (str (List.replicate k c))) ∧ w = w' := by
  subst hn
  exact repeated_any c k w hk

/-- a new slice of bytes, with what stands behind it -/
structure Conv (w : World) (g n cap : Nat) (l : List UInt8) : Prop where
  bs : Bs w (some ⟨g, 0, none⟩) n l
  le : n ≤ cap
  spare : ∀ j, n ≤ j → j < cap → (w.cell? ⟨g, j, none⟩).isSome = true ∧ w.frozen? ⟨g, j, none⟩ = false
theorem conv_new (w : World) (s : ByteArray) (l : List UInt8) (hl : s.data.toList = l) : Conv (Lib.bytesWorld w 5 s) w.heap.size s.size (grownCap w s.size 0 5) l := by
  have hlen : l.length = s.size := by rw [← hl, Lib.size_eq]
  have hge := grownCap_ge w s.size 0 5
  have hat := Lib.bytesWorld_at_new w 5 s
  have hsz : (Lib.bytesCells w 5 s).size = grownCap w s.size 0 5 := by
    unfold Lib.bytesCells
    have : s.data.size = s.size := rfl
    simp
    omega
  refine ⟨⟨hlen, fun h0 => ⟨w.heap.size, 0, rfl, by rw [Lib.bytesWorld_size]; omega, fun i hi => ?_⟩⟩, hge, fun j h1 h2 => ⟨?_, ?_⟩⟩
  · rw [Nat.zero_add, Lib.bytesWorld_cell w 5 s i hi, hl]
    rfl
  · simp [World.cell?, hat, hsz, h2]
  · simp [World.frozen?, hat, hsz]
    omega

/-- a new text was made -/
def MadeSaid (l : List UInt8) (w : World) (e : Ending) (w' : World) : Prop :=
  ∃ g cap, e = .returned (.slice (some ⟨g, 0, none⟩) l.length cap) ∧ w.heap.size ≤ g ∧ Conv w' g l.length cap l ∧ Below w.heap.size w w'

theorem made_said {w W : World} {S : ByteArray} {l : List UInt8} {gb n cap : Nat} (hb : Below w.heap.size w W) (hl : S.data.toList = l) (h1 : gb = W.heap.size) (h2 : n = S.size) (h3 : cap = grownCap W S.size 0 5) :
    MadeSaid l w (.returned (.slice (some ⟨gb, 0, none⟩) n cap)) (Lib.bytesWorld W 5 S) := by
  subst h1 h2 h3
  have hn : S.size = l.length := by rw [← hl, Lib.size_eq]
  have hC := conv_new W S l hl
  rw [hn] at hC ⊢
  exact ⟨_, _, rfl, hb.size, hC, hb.trans ((Lib.bytesWorld_below W _ S).mono hb.size)⟩

set_option maxHeartbeats 4000000 in
set_option maxRecDepth 100000 in
theorem defText0_any (bl : Nat) (id pa : ByteArray) (q : Int) (q1 q2 : UInt8) (nx : Bool) (w : World) (hb : bl ≤ 3) (h1 : id.size ≤ 20) (h2 : pa.size ≤ 20) :
    Calls Tryz.prog 13 #[.agg #[.int .u8 (bl : Int), .string id, .string pa, .string ⟨#[]⟩, .int .u8 q, .bool nx]] w (MadeSaid (defL bl id.data.toList pa.data.toList [] q1 q2 nx) w) := by
  have hs0 : (str (List.replicate bl 32)).size ≤ 3 := by rw [str_size, List.length_replicate]; exact hb
  have kc := fun (w : World) (s : ByteArray) => Lib.run_convert_string_bytes (P := Tryz.prog) w 9 23 5 s Tryz.underlying9 Tryz.underlying23 Tryz.underlying5
  go_enter Tryz.func13, Tryz.ntmps13
  go_wp2_with fail
  go_quiet ((go_at_call 21; exact Calls.quiet_of_same ((repeated_at 32 _ bl _ (by first | rfl | simp) (by omega)).mono fun _ _ h => ⟨h.1, h.2.symm⟩)))
  go_wp2_with fail
  go_ret
  have hS : (str (List.replicate bl 32) ++ (⟨#[91]⟩ : ByteArray) ++ id ++ (⟨#[93, 58, 32, 47]⟩ : ByteArray) ++ pa ++ (⟨#[10]⟩ : ByteArray)).size = (str (List.replicate bl 32)).size + 1 + id.size + 4 + pa.size + 1 := by
    simp only [ByteArray.size_append]
    rfl
  have hl : (str (List.replicate bl 32) ++ (⟨#[91]⟩ : ByteArray) ++ id ++ (⟨#[93, 58, 32, 47]⟩ : ByteArray) ++ pa ++ (⟨#[10]⟩ : ByteArray)).data.toList = defL bl id.data.toList pa.data.toList [] q1 q2 nx := by
    simp [defL, tailL, str]
  have hW := Below.drewN ((Below.refl w.heap.size w).alloc (Nat.le_refl _) (.cells #[.int .u8 (bl : Int), .string id, .string pa, .string ⟨#[]⟩, .int .u8 q, .bool nx] 34)) nq
  have hM := made_said (gb := w.heap.size + 1) hW hl (by simp) hS.symm rfl
  rw [hS] at hM
  exact hM

theorem made_fit {w W : World} {S : ByteArray} {l : List UInt8} {gb m : Nat} (hl : S.data.toList = l) (hS : S.size = m) (hb : Below w.heap.size w W) (h1 : gb = W.heap.size) :
    MadeSaid l w (.returned (.slice (some ⟨gb, 0, none⟩) m (grownCap W m 0 5))) (Lib.bytesWorld W 5 S) := by
  subst hS
  exact made_said hb hl h1 rfl rfl

set_option maxHeartbeats 4000000 in
set_option maxRecDepth 100000 in
theorem defText_0false (bl : Nat) (id pa ti : ByteArray) (w : World) (hb : bl ≤ 3) (h1 : id.size ≤ 20) (h2 : pa.size ≤ 20) (h3 : ti.size ≤ 60) (ht : ti.toList.isEmpty = false) :
    Calls Tryz.prog 13 #[.agg #[.int .u8 (bl : Int), .string id, .string pa, .string ti, .int .u8 0, .bool false]] w (MadeSaid (defL bl id.data.toList pa.data.toList ti.data.toList 34 34 false) w) := by
  have ht2 : ¬ ti.toList = [] := by simpa using ht
  have hs0 : (str (List.replicate bl 32)).size ≤ 3 := by rw [str_size, List.length_replicate]; exact hb
  have hS : (str (List.replicate bl 32) ++ (⟨#[91]⟩ : ByteArray) ++ id ++ (⟨#[93, 58, 32, 47]⟩ : ByteArray) ++ pa ++ ((⟨#[32]⟩ : ByteArray) ++ (⟨#[34]⟩ : ByteArray) ++ ti ++ (⟨#[34]⟩ : ByteArray)) ++ (⟨#[10]⟩ : ByteArray)).size = (str (List.replicate bl 32)).size + 1 + id.size + 4 + pa.size + (2 + ti.size + 1) + 1 := by
    simp only [ByteArray.size_append]
    rfl
  have hl : (str (List.replicate bl 32) ++ (⟨#[91]⟩ : ByteArray) ++ id ++ (⟨#[93, 58, 32, 47]⟩ : ByteArray) ++ pa ++ ((⟨#[32]⟩ : ByteArray) ++ (⟨#[34]⟩ : ByteArray) ++ ti ++ (⟨#[34]⟩ : ByteArray)) ++ (⟨#[10]⟩ : ByteArray)).data.toList = defL bl id.data.toList pa.data.toList ti.data.toList 34 34 false := by
    have h0 : ¬ ti.data.toList = [] := by rw [← Lib.toList_data]; exact ht2
    simp only [Array.toList_eq_nil_iff] at h0
    simp [defL, tailL, str, h0]
  have HS := Lib.hid hS
  have HL := Lib.hid hl
  clear hS hl
  have kc := fun (w : World) (s : ByteArray) => Lib.run_convert_string_bytes (P := Tryz.prog) w 9 23 5 s Tryz.underlying9 Tryz.underlying23 Tryz.underlying5
  go_enter Tryz.func13, Tryz.ntmps13
  go_wp2_with fail
  go_quiet ((go_at_call 21; exact Calls.quiet_of_same ((repeated_at 32 _ bl _ (by first | rfl | simp) (by omega)).mono fun _ _ h => ⟨h.1, h.2.symm⟩)))
  go_wp2_with fail
  go_region
  all_goals go_wp2_with fail
  all_goals go_ret
  all_goals exact made_fit HL.out HS.out (((Below.drewN ((Below.refl _ _).alloc (Nat.le_refl _) _) _).alloc (by simp) _).alloc (by simp; omega) _) (by simp)

end Go.Proofs.YtlndmebmcjngfaaGreatDoor
