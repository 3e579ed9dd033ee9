/- Trees: treeStep walked for the steps that move nodes. Conditions: the nodes agree; the step is fine. -/
import Derived.Test.YtccofockeemmkaaRRTreeG
import Derived.Deep.CutBlock
import Derived.Deep.RegionWith
namespace Go.Proofs.YtccofockeemmkaaRR
open Go.ChangeShapes Go.WideShapes Go.ChangeAt Go.RowKit

theorem Ptrs.alloc {w : World} {p : Option Addr} {n : Nat} {A : Nat → Nat} (h : Ptrs w p n A) (o : Obj) : Ptrs (w.alloc o) p n A := by
  intro hn
  obtain ⟨b, a, e, hc⟩ := h hn
  exact ⟨b, a, e, fun k hk => Lib.cell?_alloc_some _ (hc k hk)⟩
theorem Nodes.alloc {w : World} {T C : Nat} {A : Nat → Nat} {n : Nat} {t : Tr} (h : Nodes w T C A n t) (o : Obj) : Nodes (w.alloc o) T C A n t := by
  refine ⟨fun i hi => ?_, h.inj⟩
  obtain ⟨f, hr, h1⟩ := h.rows i hi
  exact ⟨f, hr.alloc o, h1⟩

set_option maxHeartbeats 4000000 in
set_option maxRecDepth 100000 in
theorem step3_any (T C : Nat) (A : Nat → Nat) (n : Nat) (t : Tr) (w : World) (p : Option Addr) (c : Nat) (a : Nat) (b : Int) (hP : Ptrs w p n A) (h : Nodes w T C A n t) (hg : Agree t) (hW : Within t n) (ha : a < n) (hC : 6 ≤ C) (hn : n ≤ 1000000) :
    Calls Try.prog 9 #[.slice p n c, .agg #[.int .i64 3, .int .i64 a, .int .i64 b]] w fun e w' => e = .returned (.slice p n c) ∧ ∃ o, Nodes w' T C A n (unl t a) ∧ Kept A n (w.alloc o) w' := by
  obtain ⟨bb, oo, rfl, hc⟩ := hP (by omega)
  have ca : ∀ o, (w.alloc o).cell? ⟨bb, oo + a, none⟩ = some (.pointer (some ⟨A a, 0, none⟩)) := fun o => Lib.cell?_alloc_some _ (hc a ha)
  clear hc hP
  have HU := Lib.hid (fun o => unlink_any T C A n t (w.alloc o) a (h.alloc o) hg hW ha hC)
  go_enter Try.func9, Try.ntmps9
  go_wp2_with fail
  refine (HU.out _).mono ?_
  rintro e w' ⟨rfl, h1, h2⟩
  go_wp2_with fail
  go_ret
  exact ⟨rfl, _, h1, h2⟩

set_option maxHeartbeats 4000000 in
set_option maxRecDepth 100000 in
theorem step1_any (T C : Nat) (A : Nat → Nat) (n : Nat) (t : Tr) (w : World) (p : Option Addr) (c : Nat) (a b : Nat) (hP : Ptrs w p n A) (h : Nodes w T C A n t) (hg : Agree t) (hW : Within t n) (ha : a < n) (hb : b < n) (hC : 6 ≤ C) (hn : n ≤ 1000000) :
    Calls Try.prog 9 #[.slice p n c, .agg #[.int .i64 1, .int .i64 a, .int .i64 b]] w fun e w' => e = .returned (.slice p n c) ∧ ∃ o, Nodes w' T C A n (app (unl t b) a b) ∧ Kept A n (w.alloc o) w' := by
  obtain ⟨bb, oo, rfl, hc⟩ := hP (by omega)
  have ca : ∀ o, (w.alloc o).cell? ⟨bb, oo + a, none⟩ = some (.pointer (some ⟨A a, 0, none⟩)) := fun o => Lib.cell?_alloc_some _ (hc a ha)
  have cb : ∀ o, (w.alloc o).cell? ⟨bb, oo + b, none⟩ = some (.pointer (some ⟨A b, 0, none⟩)) := fun o => Lib.cell?_alloc_some _ (hc b hb)
  clear hc hP
  have HU := Lib.hid (fun (o : Obj) => (append_any T C A n t (w.alloc o).drew a b (h.alloc o).drew hg hW ha hb hC))
  go_enter Try.func9, Try.ntmps9
  go_upto_region 8 with fail
  go_region_with (go_at_call 12; refine (HU.out _).mono ?_; rintro e w1 ⟨rfl, h1, h2⟩)
  all_goals (go_wp2_with fail; go_ret; exact ⟨rfl, _, h1, (Kept.refl _ _ _).drew.trans h2⟩)

set_option maxHeartbeats 4000000 in
set_option maxRecDepth 100000 in
theorem step2_any (T C : Nat) (A : Nat → Nat) (n : Nat) (t : Tr) (w : World) (p : Option Addr) (c : Nat) (a b : Nat) (hP : Ptrs w p n A) (h : Nodes w T C A n t) (hg : Agree t) (hW : Within t n) (ha : a < n) (hb : b < n) (hC : 6 ≤ C) (hn : n ≤ 1000000) (hpar : (unl t b).par a ≠ none) :
    Calls Try.prog 9 #[.slice p n c, .agg #[.int .i64 2, .int .i64 a, .int .i64 b]] w fun e w' => e = .returned (.slice p n c) ∧ ∃ o, Nodes w' T C A n (ins (unl t b) a b) ∧ Kept A n (w.alloc o) w' := by
  obtain ⟨bb, oo, rfl, hc⟩ := hP (by omega)
  have ca : ∀ o, (w.alloc o).cell? ⟨bb, oo + a, none⟩ = some (.pointer (some ⟨A a, 0, none⟩)) := fun o => Lib.cell?_alloc_some _ (hc a ha)
  have cb : ∀ o, (w.alloc o).cell? ⟨bb, oo + b, none⟩ = some (.pointer (some ⟨A b, 0, none⟩)) := fun o => Lib.cell?_alloc_some _ (hc b hb)
  clear hc hP
  have HU := Lib.hid (fun (o : Obj) => (insert_any T C A n t (w.alloc o).drew a b (h.alloc o).drew hg hW ha hb hC hpar))
  go_enter Try.func9, Try.ntmps9
  go_upto_region 10 with fail
  go_region_with (go_at_call 13; refine (HU.out _).mono ?_; rintro e w1 ⟨rfl, h1, h2⟩)
  all_goals (go_wp2_with fail; go_ret; exact ⟨rfl, _, h1, (Kept.refl _ _ _).drew.trans h2⟩)

end Go.Proofs.YtccofockeemmkaaRR
