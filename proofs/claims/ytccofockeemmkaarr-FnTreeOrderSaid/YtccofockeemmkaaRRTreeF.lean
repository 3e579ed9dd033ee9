/- Trees: NewNode and indexOf walked. Conditions: the slice's cells are the nodes' pointers. -/
import Derived.Test.YtccofockeemmkaaRRTreeE
import Derived.LaidEqlPtr
namespace Go.Proofs.YtccofockeemmkaaRR
open Go.ChangeShapes Go.WideShapes Go.ChangeAt Go.RowKit

/-- a slice of n pointers to nodes -/
def Ptrs (w : World) (p : Option Addr) (n : Nat) (A : Nat → Nat) : Prop := 0 < n → ∃ b o, p = some ⟨b, o, none⟩ ∧ ∀ k, k < n → w.cell? ⟨b, o + k, none⟩ = some (.pointer (some ⟨A k, 0, none⟩))

/-- the number of a node, -1 for none -/
def num1 (o : Option Nat) : Int := match o with | some j => j | none => -1

theorem newNode_any (k : Int) (w : World) :
    Calls Try.prog 11 #[.int .i64 k] w fun e w' => e = .returned (.pointer (some ⟨w.heap.size, 0, none⟩)) ∧
      ∃ cs : Array Value, w' = w.alloc (.cells cs 61) ∧ cs.size = 29 ∧ ∀ i, 1 ≤ i → i ≤ 5 → cs[i]? = some (.pointer none) := by
  go_enter Try.func11, Try.ntmps11
  go_wp2_with fail
  go_ret
  refine ⟨rfl, _, rfl, rfl, fun i h1 h2 => ?_⟩
  match i, h1, h2 with
  | 1, _, _ => rfl
  | 2, _, _ => rfl
  | 3, _, _ => rfl
  | 4, _, _ => rfl
  | 5, _, _ => rfl

theorem node_info : ∃ j, Try.prog.info? 61 = some j ∧ j.size ≠ 0 := by
  have h : (Try.prog.info? 61).map (fun i => i.size) = some 29 := by kernel_rfl
  cases hx : Try.prog.info? 61 with
  | none => rw [hx] at h; cases h
  | some j =>
    rw [hx] at h
    refine ⟨j, rfl, ?_⟩
    simp only [Option.map_some, Option.some.injEq] at h
    omega

theorem indexOf_any (T C : Nat) (t : Tr) (p : Option Addr) (n c : Nat) (A : Nat → Nat) (o : Option Nat) (w : World) (hN : Nodes w T C A n t) (h : Ptrs w p n A) (ho : ∀ j, o = some j → j < n) (hn : n ≤ 1000000) :
    Calls Try.prog 10 #[.slice p n c, pt A o] w fun e w' => e = .returned (.int .i64 (num1 o)) ∧ w = w' := by
  have HA := Lib.hid hN
  have HO := Lib.hid ho
  have HP := Lib.hid h
  clear h hN ho
  cases o with
  | none =>
    rw [pt_none]
    go_enter Try.func10, Try.ntmps10
    go_wp2_with fail
    go_loop [9] (fun t => ∃ k : Nat, k ≤ n ∧ t = .int .i64 k) (fun t => n - (intOf t).toNat)
    case atStart => exact ⟨0, Nat.zero_le _, rfl⟩
    case round =>
      obtain ⟨k, hk, rfl⟩ := hrel
      by_cases hlt : k < n
      · obtain ⟨b, a, rfl, hc⟩ := HP.out (by omega)
        have ck := hc k hlt
        clear hc
        go_wp2_with fail
        go_round
        case rel => exact ⟨k + 1, by omega, by go_num⟩
        case measure => simp [intOf]; omega
      · go_wp2_with fail
        go_ret
        exact ⟨rfl, rfl⟩
  | some j =>
    have hj := HO.out j rfl
    rw [pt_some]
    go_enter Try.func10, Try.ntmps10
    go_wp2_with fail
    go_loop [9] (fun t => ∃ k : Nat, k ≤ j ∧ t = .int .i64 k) (fun t => n - (intOf t).toNat)
    case atStart => exact ⟨0, Nat.zero_le _, rfl⟩
    case round =>
      obtain ⟨k, hk, rfl⟩ := hrel
      have hlt : k < n := by omega
      obtain ⟨b, a, rfl, hc⟩ := HP.out (by omega)
      have ck := hc k hlt
      clear hc
      obtain ⟨ji, hji, hjs⟩ := node_info
      by_cases he : k = j
      · subst he
        have heq := run_eql_ptr_same (P := Try.prog) w ⟨A k, 0, none⟩ Try.underlying44 hji
        clear hji hjs
        go_wp2_with fail
        go_ret
        exact ⟨rfl, rfl⟩
      · have hne : ¬ A k = A j := fun x => he (HA.out.inj k j hlt hj x)
        obtain ⟨_, ⟨c1, hb1, _, _⟩, _⟩ := HA.out.rows k hlt
        obtain ⟨_, ⟨c2, hb2, _, _⟩, _⟩ := HA.out.rows j hj
        have heq := run_eql_ptr_other (P := Try.prog) w (a := ⟨A k, 0, none⟩) (b := ⟨A j, 0, none⟩) Try.underlying44 hji hjs (fun x => hne (congrArg Addr.block x)) hb1 hb2
        clear hji hjs hb1 hb2
        go_wp2_with fail
        go_round
        case rel => exact ⟨k + 1, by omega, by go_num⟩
        case measure => simp [intOf]; omega

end Go.Proofs.YtccofockeemmkaaRR
