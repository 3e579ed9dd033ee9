/- Definitions: zzLower walked at letters from a to z. Condition: lengths are bounded. -/
import Derived.Test.YtlndmebmcjngfaaGreatDoorDefB
import Derived.Deep.OwnRows
namespace Go.Proofs.YtlndmebmcjngfaaGreatDoor
open Go.ChangeShapes Go.WideShapes Go.ChangeAt Go.RowKit

theorem tolower_low (n : Int) (w : World) (h : lowI n = true) : Calls Tryz.prog 79 #[.int .u8 n] w fun e w' => e = .returned (.int .u8 n) ∧ w = w' := by
  obtain ⟨h1, h2⟩ := low_range h
  clear h
  go_enter Tryz.func79, Tryz.ntmps79
  go_wp2_with fail
  go_ret
  exact ⟨rfl, rfl⟩

/-- the first k bytes of a text, then noughts -/
def lowRow (l : List UInt8) (k : Nat) (i : Nat) : Value := .int .u8 (if i < k then bat l i else 0)

set_option maxHeartbeats 2000000 in
theorem zzLower_any (p : Option Addr) (n c : Nat) (l : List UInt8) (w : World) (h : Bs w p n l) (h0 : 0 < n) (hl : ∀ j, j < n → lowI (bat l j) = true) (hn : n ≤ 1000000) :
    Calls Tryz.prog 47 #[.slice p n c] w fun e w' => ∃ p' c', e = .returned (.slice p' n c') ∧ Bs w' p' n l ∧ Below w.heap.size w w' := by
  have HL := Lib.hid h.len
  obtain ⟨b, o, rfl, hb, hcell⟩ := h.cells h0
  have HC := Lib.hid hcell
  have HA := Lib.hid hl
  clear h hcell hl
  have hmk := run_make_row' (P := Tryz.prog) 23 5 (.int .u8 0) 1 Tryz.underlying23 Tryz.info5 rfl .i64 .i64 n (by omega) (by omega)
  have HR := Lib.hid (World.rowIs_made w (.int .u8 0) n 5)
  go_enter Tryz.func47, Tryz.ntmps47
  go_wp2_with fail
  go_loopw [11] (fun t wr => ∃ k : Nat, k ≤ n ∧ t = .int .i64 k ∧ wr.rowIs w.heap.size 5 n (lowRow l k) ∧ Below w.heap.size w wr) (fun t _ => n - (intOf t).toNat)
  case atStart => exact ⟨0, Nat.zero_le _, rfl, HR.out.congr (fun i _ => by simp [lowRow]), (Below.refl _ _).alloc (Nat.le_refl _) _⟩
  case round =>
    obtain ⟨k, hk, rfl, hrow, hbel⟩ := hrel
    by_cases hlt : k < n
    · have ck : wr.cell? ⟨b, o + k, none⟩ = some (.int .u8 (bat l k)) := by rw [hbel.cell (p := ⟨b, o + k, none⟩) hb]; exact HC.out k hlt
      have rk := hrow.cell hlt
      have fk := hrow.frozen k
      have HT := Lib.hid (tolower_low (bat l k) wr (HA.out k hlt))
      have HRow := Lib.hid hrow
      have HBel := Lib.hid hbel
      clear hrow hbel
      go_wp2_with fail
      refine HT.out.mono ?_
      rintro e w1 ⟨rfl, rfl⟩
      go_wp2_with fail
      go_roundw
      case rel =>
        refine ⟨k + 1, by omega, by go_num, (HRow.out.set k _).congr (fun i _ => ?_), HBel.out.setCell (Nat.le_refl _) _⟩
        unfold lowRow
        by_cases e : i = k
        · rw [e]; simp
        · simp only [e, if_false]
          by_cases e2 : i < k
          · rw [if_pos e2, if_pos (by omega)]
          · rw [if_neg e2, if_neg (by omega)]
      case measure => simp [intOf]; omega
    · obtain rfl : n = k := by omega
      have HRow := Lib.hid hrow
      have HBel := Lib.hid hbel
      clear hrow hbel
      go_wp2_with fail
      go_ret
      refine ⟨_, _, rfl, ⟨HL.out, fun _ => ⟨w.heap.size, 0, rfl, HRow.out.lt, fun i hi => ?_⟩⟩, HBel.out⟩
      rw [Nat.zero_add, HRow.out.cell hi]
      simp [lowRow, hi]

end Go.Proofs.YtlndmebmcjngfaaGreatDoor
