/- Trees: impl.TreeRun walked. Condition: each step is fine for the nodes as they stand. -/
import Derived.Test.YtccofockeemmkaaRRTreeM
namespace Go.Proofs.YtccofockeemmkaaRR
open Go.ChangeShapes Go.WideShapes Go.ChangeAt Go.RowKit

/-- the steps as they lie in memory -/
structure Steps (w : World) (p : Option Addr) (m : Nat) (S : Nat → Int × Int × Int) : Prop where
  cells : 0 < m → ∃ b o, p = some ⟨b, o, none⟩ ∧ b < w.heap.size ∧ ∀ i, i < m → w.cell? ⟨b, o + i * 3, none⟩ = some (.int .i64 (S i).1) ∧ w.cell? ⟨b, o + i * 3 + 1, none⟩ = some (.int .i64 (S i).2.1) ∧ w.cell? ⟨b, o + i * 3 + 2, none⟩ = some (.int .i64 (S i).2.2)

set_option maxHeartbeats 4000000 in
set_option maxRecDepth 100000 in
theorem treeRun_any (p : Option Addr) (m c : Nat) (S : Nat → Int × Int × Int) (nn : Nat → Nat) (tt : Nat → Tr) (w : World) (hS : Steps w p m S) (h0 : nn 0 = 0) (ht0 : tt 0 = tr0) (hf : ∀ j, j < m → Fine (nn j) (tt j) (S j).1 (S j).2.1 (S j).2.2 (nn (j + 1)) (tt (j + 1))) (hn : ∀ j, j ≤ m → nn j ≤ 1000000) (hm : m ≤ 1000000) :
    Calls Try.prog 6 #[.slice p m c] w fun e w' => ∃ v rows, e = .returned v ∧ w'.ownsRow w.heap.size 35 1 v m rows ∧ Rows' w' w.heap.size nn tt rows m ∧ Below w.heap.size w w' := by
  have HS := Lib.hid hS
  have HF := Lib.hid hf
  have HN := Lib.hid hn
  clear hS hf hn
  go_enter Try.func6, Try.ntmps6
  go_wp2_with fail
  go_loopw [3, 4, 12] (fun v ov t wr => ∃ (j : Nat) (A : Nat → Nat) (rows : List Value), j ≤ m ∧ t = .int .i64 j ∧ Tree wr w.heap.size v (nn j) A (tt j) ∧ wr.ownsRow w.heap.size 35 1 ov j rows ∧ Rows' wr w.heap.size nn tt rows j ∧ Below w.heap.size w wr) (fun _ _ t _ => m - (intOf t).toNat)
  case atStart =>
    refine ⟨0, fun _ => 0, [], Nat.zero_le _, rfl, ?_, World.ownsRow_nil _ _ _ _, ⟨rfl, fun j r hr => by simp at hr⟩, Below.refl _ _⟩
    rw [h0, ht0]
    exact Tree.start _ _
  case round =>
    obtain ⟨j, A, rows, hj, rfl, hT, hO, hR, hB⟩ := hrel
    by_cases hlt : j < m
    · obtain ⟨b, o, rfl, hb, hc⟩ := HS.out.cells (by omega)
      obtain ⟨c0, c1, c2⟩ := hc j hlt
      have hsz := hB.size
      have d0 := (hB.cell (p := ⟨b, o + j * 3, none⟩) hb).trans c0
      have d1 := (hB.cell (p := ⟨b, o + j * 3 + 1, none⟩) hb).trans c1
      have d2 := (hB.cell (p := ⟨b, o + j * 3 + 2, none⟩) hb).trans c2
      have HT := Lib.hid hT
      have HO := Lib.hid hO
      have HR := Lib.hid hR
      have HB := Lib.hid hB
      clear c0 c1 c2 hc hT hO hR hB
      have hbs : w.heap.size ≤ wr.heap.size := hsz
      have HT' := fun o : Obj => HT.out.later ((Below.refl wr.heap.size wr).alloc (Nat.le_refl _) o)
      have HTS := Lib.hid (fun o : Obj => treeStep_spare w.heap.size A (nn j) (nn (j + 1)) (tt j) (tt (j + 1)) (wr.alloc o) u3 (S j).1 (S j).2.1 (S j).2.2 (HT' o) (HF.out j hlt) (HN.out j (by omega)))
      clear HT'
      go_wp2_with fail
      refine (HTS.out _).mono ?_
      rintro e w1 ⟨v1, A1, rfl, T1, B1, S1⟩
      clear HTS
      have O1 := Lib.hid (own_spare (World.ownsRow.alloc HO.out _) S1 (by decide) (by decide))
      have R1 := Lib.hid ((HR.out.later ((Below.refl wr.heap.size wr).alloc (Nat.le_refl _) _)).spare S1)
      have B1 := Lib.hid ((HB.out.alloc hsz _).trans B1)
      clear HO HR HB HT d0 d1 d2
      have hN1 : nn (j + 1) ≤ 1000000 := HN.out (j + 1) (by omega)
      obtain ⟨p1, c1, rfl, hc1, hc2, P1⟩ := T1.ptrs
      have T1 := Lib.hid T1
      have P1 := Lib.hid P1
      go_wp2_with fail
      go_loopw [7, 21] (fun lv t w2 => ∃ k : Nat, k ≤ nn (j + 1) ∧ t = .int .i64 k ∧ w2.ownsRow w1.heap.size 37 5 lv k (links (tt (j + 1)) k) ∧ Below w1.heap.size w1 w2) (fun _ t _ => nn (j + 1) - (intOf t).toNat)
      case atStart => exact ⟨0, Nat.zero_le _, rfl, World.ownsRow_nil _ _ _ _, Below.refl _ _⟩
      case round =>
        obtain ⟨k, hk, rfl, hown, hbel⟩ := hrel
        by_cases hkl : k < nn (j + 1)
        · have T2 := T1.out.later hbel
          obtain ⟨ib, io, rfl, hpc⟩ := P1.out (by omega)
          obtain ⟨p2, c2, hpe, _, _, P2⟩ := T2.ptrs
          obtain ⟨rfl, rfl⟩ : p2 = some ⟨ib, io, none⟩ ∧ c2 = c1 := by
            injection hpe with h1 _ h3
            exact ⟨h1.symm, h3.symm⟩
          obtain ⟨ib', io', he, hpc2⟩ := P2 (by omega)
          have e1 : ib' = ib ∧ io' = io := by
            injection he with he
            injection he with h1 h2
            exact ⟨h1.symm, h2.symm⟩
          obtain ⟨rfl, rfl⟩ := e1
          have ck := hpc2 k hkl
          have HI := Lib.hid (fun (o : Option Nat) (ho : ∀ i, o = some i → i < nn (j + 1)) => indexOf_any 61 29 (tt (j + 1)) (some ⟨ib', io', none⟩) (nn (j + 1)) c2 A1 o wr.drew T2.nodes.drew (fun h => by obtain ⟨x, y, hxy, hc⟩ := P2 h; exact ⟨x, y, hxy, hc⟩) ho hN1)
          have HY := Lib.hid (fun (w' : World) (hb : Below w1.heap.size w1 w') => have T := T1.out.later hb; And.intro (T.nodes.c1 hkl (by decide)) (And.intro (T.nodes.c2 hkl (by decide)) (And.intro (T.nodes.c3 hkl (by decide)) (And.intro (T.nodes.c4 hkl (by decide)) (T.nodes.c5 hkl (by decide))))))
          have hsz1 := hbel.size
          obtain ⟨z1, z2, z3, z4, z5⟩ := (⟨T2.nodes.drew.c1 hkl (by decide), T2.nodes.drew.c2 hkl (by decide), T2.nodes.drew.c3 hkl (by decide), T2.nodes.drew.c4 hkl (by decide), T2.nodes.drew.c5 hkl (by decide)⟩ : _ ∧ _ ∧ _ ∧ _ ∧ _)
          have HYa := Lib.hid (fun (o : Obj) => HY.out _ ((hbel.alloc hsz1 o).drew))
          have HZ := Lib.hid (And.intro z1 (And.intro z2 (And.intro z3 (And.intro z4 z5))))
          have HW1 := Lib.hid (fun x (h : _) => (T2.within.b1 k x h).2)
          have HW2 := Lib.hid (fun x (h : _) => (T2.within.b2 k x h).2)
          have HW3 := Lib.hid (fun x (h : _) => (T2.within.b3 k x h).2)
          have HW4 := Lib.hid (fun x (h : _) => (T2.within.b4 k x h).2)
          have HW5 := Lib.hid (fun x (h : _) => (T2.within.b5 k x h).2)
          have T2 := Lib.hid T2
          have P2 := Lib.hid P2
          have hown := Lib.hid hown
          have hbel := Lib.hid hbel
          clear z1 z2 z3 z4 z5 hpc hpc2
          go_upto_region 11 with fail
          go_region_held_law (fun w' => w'.cell? ⟨A1 k, 1, none⟩ = some (pt A1 ((tt (j + 1)).par k)) ∧ w'.cell? ⟨A1 k, 2, none⟩ = some (pt A1 ((tt (j + 1)).fst k)) ∧ w'.cell? ⟨A1 k, 3, none⟩ = some (pt A1 ((tt (j + 1)).lst k)) ∧ w'.cell? ⟨A1 k, 4, none⟩ = some (pt A1 ((tt (j + 1)).prv k)) ∧ w'.cell? ⟨A1 k, 5, none⟩ = some (pt A1 ((tt (j + 1)).nxt k)))
            (first | exact HZ.out | exact HYa.out _ | exact HY.out _ (by assumption))
            (first
              | (go_at_call 10; refine (HI.out _ (by first | exact HW1.out | exact HW2.out | exact HW3.out | exact HW4.out | exact HW5.out)).mono ?_; rintro e w3 ⟨rfl, rfl⟩)
              | (refine app_links rfl (.tmp 25) (.tmp 57) rfl w1.heap.size w1 wr.drew _ _ k (tt (j + 1)) rfl hown.out.drew hsz1 hbel.out.drew (by omega) rfl rfl ?_; rintro v9 w9 ⟨pa, ca, rfl⟩ hown9 hbel9))
          have hown9 := Lib.hid hown9
          have hbel9 := Lib.hid hbel9
          go_wp2_with fail
          go_roundw
          case rel => exact ⟨k + 1, by omega, by go_num, hown9.out, hbel9.out⟩
          case measure => simp [intOf]; omega
        · have hke : k = nn (j + 1) := by omega
          subst hke
          have T2 := Lib.hid (T1.out.later hbel)
          have O2 := Lib.hid (own_later O1.out hbel)
          have R2 := Lib.hid (R1.out.later hbel)
          have B2 := Lib.hid (B1.out.trans (hbel.mono T1.out.base))
          have hsz2 := B2.out.size
          obtain ⟨p3, c3, rfl, _, _⟩ := own_slice hown
          have hown := Lib.hid (own_base hown T1.out.base)
          clear hbel
          go_wp2_with (at_builtin; refine app_row rfl (.tmp 60) (.tmp 62) 33 35 (.slice none 0 0) 1 24 Try.underlying33 linksS_info rfl (by decide) (by decide) rfl w.heap.size _ j rows rfl O2.out #[.slice p3 (nn (j + 1)) c3] rfl ?d1 rfl ?d2 hsz2 ?d3)
          case d1 => first | rfl | (intro u hu; simp at hu; subst hu; rfl)
          case d2 => omega
          case d3 =>
            intro v4 w4 h1 h2 h3 h4
            have T4 := Lib.hid (T2.out.aside O2.out h3.size h4)
            have R4 := Lib.hid ((R2.out.more hown.out).aside O2.out h4)
            have B4 := Lib.hid (B2.out.trans h3)
            have O4 := Lib.hid h1
            clear h1 h2 h3 h4
            go_wp2_with fail
            go_roundw
            case rel => exact ⟨j + 1, A1, rows ++ [.slice p3 (nn (j + 1)) c3], by omega, by go_num, T4.out, by simpa using O4.out, R4.out, B4.out⟩
            case measure => simp [intOf]; omega
    · have hje : j = m := by omega
      subst hje
      have HT := Lib.hid hT
      have HO := Lib.hid hO
      have HR := Lib.hid hR
      have HB := Lib.hid hB
      clear hT hO hR hB
      go_wp2_with fail
      go_ret
      exact ⟨_, rows, rfl, HO.out, HR.out, HB.out⟩

end Go.Proofs.YtccofockeemmkaaRR
