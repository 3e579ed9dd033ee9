/- Tables: tableHeader walked at a line without a bar; spec.IsTableLine walked. Condition: lengths are bounded. -/
import Derived.Test.YtlndmebmcjngfaaGreatDoorTabQ
namespace Go.Proofs.YtlndmebmcjngfaaGreatDoor
open Go.ChangeShapes Go.WideShapes Go.ChangeAt Go.RowKit

/-- the first line has no bar -/
structure NoBar (l : List UInt8) (L : Nat) : Prop where
  over : ∀ j, j < L → bat l j ≠ 10 ∧ bat l j ≠ 124
  nl : bat l L = 10
set_option maxHeartbeats 2000000 in
set_option maxRecDepth 100000 in
theorem headerNone_any (v : Value) (b o n c L : Nat) (l : List UInt8) (w : World) (h : Bs w (some ⟨b, o, none⟩) n l) (hH : NoBar l L) (hn : n ≤ 1000000) :
    Calls Tryz.prog 24 #[v, .slice (some ⟨b, o, none⟩) n c] w fun e w' => e = .returned (.tuple #[.int .i64 0, .slice none 0 0]) ∧ w = w' := by
  have hLn : L < n := by rw [← h.len]; exact bat_is hH.nl (by decide)
  obtain ⟨b', o', e', hbl, hcl⟩ := h.cells (by omega)
  cases e'
  have HC := Lib.hid hcl
  have HH := Lib.hid hH
  clear hcl h hH
  go_enter Tryz.func24, Tryz.ntmps24
  go_upto_block 0 with fail
  go_cut [6, 7] (fun i t wx => i = .int .i64 L ∧ t = .int .i64 1 ∧ wx = w)
  case first => as_aux_lemma =>
    go_wp2_with fail
    go_loop [6, 7] (fun i t => ∃ k : Nat, k ≤ L ∧ i = .int .i64 k ∧ t = .int .i64 1) (fun i _ => L - (intOf i).toNat)
    case atStart => exact ⟨0, Nat.zero_le _, rfl, rfl⟩
    case round =>
      obtain ⟨k, hk, rfl, rfl⟩ := hrel
      have hkn : k < n := by omega
      have ck := HC.out k hkn
      by_cases hlt : k < L
      · have h10 : (bat l k != 10) = true := by simpa using (HH.out.over k hlt).1
        have hq : (bat l k == 124) = false := by simpa using (HH.out.over k hlt).2
        go_wp2_with fail
        go_round
        case rel => exact ⟨k + 1, by omega, by go_num, rfl⟩
        case measure => simp [intOf]; omega
      · obtain rfl : k = L := by omega
        have h10 : (bat l k != 10) = false := by simpa using HH.out.nl
        go_wp2_with fail
        go_meet
        exact ⟨rfl, rfl, rfl⟩
  obtain ⟨rfl, rfl, rfl⟩ := hcut
  go_wp2_with fail
  exact bodyPost_ret (v := .tuple #[.int .i64 0, .slice none 0 0]) (by simp [results, Tryz.results24, go_sem]) rfl ⟨rfl, rfl⟩

/-- TableHeader is tableHeader -/
theorem dHeader_any (a b : Value) (w : World) (Q : Ending → World → Prop) (hQ : ∀ e w', Q e w' → ∃ s v, e = .returned (.tuple #[s, v])) (h : Calls Tryz.prog 24 #[a, b] w Q) : Calls Tryz.prog 17 #[a, b] w Q := by
  have H := Lib.hid h
  clear h
  go_enter Tryz.func17, Tryz.ntmps17
  go_wp2_with fail
  refine H.out.mono ?_
  intro e w' hq
  obtain ⟨s, v, rfl⟩ := hQ e w' hq
  have HQ := Lib.hid hq
  clear hq hQ
  go_wp2_with fail
  exact HQ.out

end Go.Proofs.YtlndmebmcjngfaaGreatDoor
