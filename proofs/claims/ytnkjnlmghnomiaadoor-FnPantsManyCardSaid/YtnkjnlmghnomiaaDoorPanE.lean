/- Smart punctuation: a new renderer walked: its table of callbacks. No condition. -/
import Derived.Test.YtnkjnlmghnomiaaDoorPanA
import Derived.Deep.OwnRows
import Derived.Deep.CutBlock
import Derived.Deep.DeepCutAuto
import Derived.Laws.EntriesVeiled
namespace Go.Proofs.YtnkjnlmghnomiaaDoor
open Go.ChangeShapes Go.WideShapes Go.ChangeAt Go.RowKit

/-- the flags that matter, of a number -/
def cfgOf (flags : Int) : Cfg := ⟨bits .and .i64 flags 65536 != 0, bits .and .i64 flags 131072 != 0, bits .and .i64 flags 16384 != 0, bits .and .i64 flags 32768 != 0, bits .and .i64 flags 8192 != 0⟩

theorem or_t {a b : Bool} : (a || b) = true ↔ a = true ∨ b = true := by simp
/-- a method of the renderer at block B -/
def meth (B k : Nat) : Value := .func (.func k) #[.pointer (some ⟨B, 0, none⟩)] #[]
/-- the callback of a byte; va: the one of the ampersand -/
def want (F : Cfg) (B : Nat) (va : Value) (c : Nat) : Value :=
  if c = 34 then meth B (if F.ang then 37 else 36) else if c = 38 then va else if c = 39 then meth B 38 else if c = 40 then meth B 39 else
  if c = 45 then (if F.dash then meth B (if F.latex then 41 else 40) else .nilFunc) else if c = 46 then meth B 42 else
  if 49 ≤ c ∧ c ≤ 57 then (if F.frac then meth B 44 else if c = 49 ∨ c = 51 then meth B 43 else .nilFunc) else
  if c = 60 then meth B 45 else if c = 96 then meth B 46 else .nilFunc
/-- the renderer's cells, the callbacks in S laid -/
def spRow (F : Cfg) (B : Nat) (va : Value) (S : Nat → Bool) (j : Nat) : Value := if j < 2 then .bool false else if S (j - 2) then want F B va (j - 2) else .nilFunc
def SPRow (F : Cfg) (B : Nat) (va : Value) (S : Nat → Bool) (w : World) : Prop := w.rowIs B 72 258 (spRow F B va S)

theorem SPRow.set {F : Cfg} {B : Nat} {va : Value} {S S' : Nat → Bool} {w : World} (h : SPRow F B va S w) (c j0 : Nat) (v : Value) (hj0 : j0 = c + 2) (hv : v = want F B va c) (hS : ∀ x, S' x = (S x || x == c)) : SPRow F B va S' (w.setCell ⟨B, j0, none⟩ v) := by
  subst hj0
  refine (World.rowIs.set h (c + 2) v).congr fun j hj => ?_
  unfold spRow
  by_cases e : j = c + 2
  · subst e
    rw [if_pos rfl, if_neg (by omega), Nat.add_sub_cancel, if_pos (by rw [hS]; simp), hv]
  · rw [if_neg e]
    by_cases h2 : j < 2
    · rw [if_pos h2, if_pos h2]
    · rw [if_neg h2, if_neg h2, hS]
      have : (j - 2 == c) = false := by simp; omega
      rw [this, Bool.or_false]
theorem SPRow.skip {F : Cfg} {B : Nat} {va : Value} {S S' : Nat → Bool} {w : World} (h : SPRow F B va S w) (hS : ∀ x, S' x = true → S x = true ∨ want F B va x = .nilFunc) (hS2 : ∀ x, S x = true → S' x = true) : SPRow F B va S' w := by
  refine World.rowIs.congr h fun j hj => ?_
  unfold spRow
  by_cases h2 : j < 2
  · rw [if_pos h2, if_pos h2]
  · rw [if_neg h2, if_neg h2]
    cases h3 : S (j - 2) with
    | true => rw [hS2 _ h3]
    | false =>
      cases h4 : S' (j - 2) with
      | false => rfl
      | true =>
        rcases hS _ h4 with h5 | h5
        · rw [h3] at h5; cases h5
        · rw [if_neg (by decide), if_pos rfl, h5]
theorem zeroSP : Tryd.zeroCells72 = #[.bool false, .bool false] ++ Array.replicate 256 .nilFunc := by kernel_rfl
theorem SPRow.new (F : Cfg) (va : Value) (w : World) : SPRow F w.heap.size va (fun _ => false) (w.alloc (.cells Tryd.zeroCells72 72)) := by
  have hz : Tryd.zeroCells72.size = 258 := by rw [zeroSP]; simp
  have h := World.rowIs_alloc w Tryd.zeroCells72 72 (spRow F w.heap.size va (fun _ => false)) (fun i hi => by
    rw [hz] at hi
    rw [zeroSP]
    unfold spRow
    rcases Nat.lt_or_ge i 2 with h | h
    · rw [if_pos h, Array.getElem?_append_left (by simpa using h)]
      have : i = 0 ∨ i = 1 := by omega
      rcases this with rfl | rfl <;> rfl
    · rw [if_neg (by omega), Array.getElem?_append_right (by simpa using h), Array.getElem?_replicate, if_pos (by simp; omega)]
      rfl)
  rw [hz] at h
  exact h

/-- a closure for the ampersand: what it captured -/
structure Amp (F : Cfg) (B : Nat) (va : Value) (w : World) : Prop where
  val : ∃ x y z : Nat, va = .func (.func 48) #[] #[.pointer (some ⟨x, 0, none⟩), .pointer (some ⟨y, 0, none⟩), .pointer (some ⟨z, 0, none⟩)] ∧ x < w.heap.size ∧ y < w.heap.size ∧ z < w.heap.size ∧ x ≠ B ∧ y ≠ B ∧ z ≠ B ∧
    w.cell? ⟨x, 0, none⟩ = some (.pointer (some ⟨B, 0, none⟩)) ∧ w.cell? ⟨y, 0, none⟩ = some (.int .u8 ((quoK F).toNat : Int)) ∧ w.cell? ⟨z, 0, none⟩ = some (.bool F.nbsp)

theorem new_cell (w : World) (v : Value) (t : TypeId) : (w.alloc (.cells #[v] t)).cell? ⟨w.heap.size, 0, none⟩ = some v := by simp
theorem three_new (w : World) (a b c : Value) (ta tb tc : TypeId) :
    (((w.alloc (.cells #[a] ta)).alloc (.cells #[b] tb)).alloc (.cells #[c] tc)).cell? ⟨w.heap.size, 0, none⟩ = some a ∧
    (((w.alloc (.cells #[a] ta)).alloc (.cells #[b] tb)).alloc (.cells #[c] tc)).cell? ⟨w.heap.size + 1, 0, none⟩ = some b ∧
    (((w.alloc (.cells #[a] ta)).alloc (.cells #[b] tb)).alloc (.cells #[c] tc)).cell? ⟨w.heap.size + 1 + 1, 0, none⟩ = some c := by
  refine ⟨Lib.cell?_alloc_some _ (Lib.cell?_alloc_some _ (by simp)), Lib.cell?_alloc_some _ ?_, ?_⟩
  · have e : w.heap.size + 1 = (w.alloc (.cells #[a] ta)).heap.size := by simp
    rw [e]
    exact new_cell _ _ _
  · have e : w.heap.size + 1 + 1 = ((w.alloc (.cells #[a] ta)).alloc (.cells #[b] tb)).heap.size := by simp
    rw [e]
    exact new_cell _ _ _

theorem smartAmp_any (B : Nat) (ang nb : Bool) (w : World) (hB : B < w.heap.size) :
    Calls Tryd.prog 35 #[.pointer (some ⟨B, 0, none⟩), .bool ang, .bool nb] w fun e w' => ∃ x y z : Nat, e = .returned (.func (.func 48) #[] #[.pointer (some ⟨x, 0, none⟩), .pointer (some ⟨y, 0, none⟩), .pointer (some ⟨z, 0, none⟩)]) ∧
      (∀ F : Cfg, F.ang = ang → F.nbsp = nb → Amp F B (.func (.func 48) #[] #[.pointer (some ⟨x, 0, none⟩), .pointer (some ⟨y, 0, none⟩), .pointer (some ⟨z, 0, none⟩)]) w') ∧ Below w.heap.size w w' := by
  cases ang
  all_goals
    go_enter Tryd.func35, Tryd.ntmps35
    go_wp2_with fail
    go_ret
    obtain ⟨k0, k1, k2⟩ := three_new w _ _ _ _ _ _
    refine ⟨_, _, _, rfl, fun F h1 h2 => ⟨_, _, _, rfl, ?_, ?_, ?_, ?_, ?_, ?_, k0, ?_, ?_⟩, (((Below.refl _ _).alloc (Nat.le_refl _) _).alloc (by simp) _).alloc (by simp; omega) _⟩
    · simp <;> omega
    · simp <;> omega
    · simp <;> omega
    · omega
    · omega
    · omega
    · rw [k2]; simp [quoK, h1]
    · rw [k1, h2]

/-- a new renderer for flags -/
def NewSPSaid (F : Cfg) (w : World) (e : Ending) (w' : World) : Prop :=
  ∃ va, e = .returned (.pointer (some ⟨w.heap.size, 0, none⟩)) ∧ SPRow F w.heap.size va (fun _ => true) w' ∧ Amp F w.heap.size va w' ∧ Below w.heap.size w w'

theorem Amp.on {F : Cfg} {B : Nat} {va : Value} {w w' : World} (h : Amp F B va w) (hs : w.heap.size ≤ w'.heap.size) (hk : ∀ k, k < w.heap.size → k ≠ B → w'.heap[k]? = w.heap[k]?) : Amp F B va w' := by
  obtain ⟨x, y, z, h0, h1, h2, h3, h4, h5, h6, h7, h8, h9⟩ := h.val
  have kc : ∀ k, k < w.heap.size → k ≠ B → w'.cell? ⟨k, 0, none⟩ = w.cell? ⟨k, 0, none⟩ := fun k a b => by simp [World.cell?, hk k a b]
  exact ⟨x, y, z, h0, by omega, by omega, by omega, h4, h5, h6, (kc x h1 h4).trans h7, (kc y h2 h5).trans h8, (kc z h3 h6).trans h9⟩
theorem SPRow.on {F : Cfg} {B : Nat} {va : Value} {S : Nat → Bool} {w w' : World} (h : SPRow F B va S w) (hb : Below w.heap.size w w') : SPRow F B va S w' :=
  World.rowIs.of_block h (hb.block B (World.rowIs.lt h))

/-- where the making of a renderer stands -/
structure Mk (F : Cfg) (B : Nat) (va : Value) (S : Nat → Bool) (w wx : World) : Prop where
  row : SPRow F B va S wx
  amp : Amp F B va wx
  below : Below B w wx
theorem Mk.set {F : Cfg} {B : Nat} {va : Value} {S S' : Nat → Bool} {w wx : World} (h : Mk F B va S w wx) (c j0 : Nat) (v : Value) (hj0 : j0 = c + 2) (hv : v = want F B va c) (hS : ∀ x, S' x = (S x || x == c)) : Mk F B va S' w (wx.setCell ⟨B, j0, none⟩ v) :=
  ⟨h.row.set c j0 v hj0 hv hS, h.amp.on (by simp) (fun k _ hne => by simp only [World.setCell, Array.getElem?_modify]; rw [if_neg (fun e => hne e.symm)]), h.below.setCell (Nat.le_refl _) _⟩
theorem Mk.skip {F : Cfg} {B : Nat} {va : Value} {S S' : Nat → Bool} {w wx : World} (h : Mk F B va S w wx) (hS : ∀ x, S' x = true → S x = true ∨ want F B va x = .nilFunc) (hS2 : ∀ x, S x = true → S' x = true) : Mk F B va S' w wx :=
  ⟨h.row.skip hS hS2, h.amp, h.below⟩

set_option maxHeartbeats 4000000 in
set_option maxRecDepth 100000 in
theorem newSP_any (flags : Int) (w : World) : Calls Tryd.prog 19 #[.int .i64 flags] w (NewSPSaid (cfgOf flags) w) := by
  obtain ⟨B, hB⟩ : ∃ B, B = w.heap.size := ⟨_, rfl⟩
  have HB := Lib.hid hB
  clear hB
  have hA2 : (bits .and .i64 flags 65536 == 0) = !(cfgOf flags).ang := by show _ = !(_ != _); simp [bne]
  have hN2 : (bits .and .i64 flags 131072 != 0) = (cfgOf flags).nbsp := rfl
  have hD2 : (bits .and .i64 flags 16384 != 0) = (cfgOf flags).dash := rfl
  have hL2 : (bits .and .i64 flags 32768 == 0) = !(cfgOf flags).latex := by show _ = !(_ != _); simp [bne]
  have hF2 : (bits .and .i64 flags 8192 == 0) = !(cfgOf flags).frac := by show _ = !(_ != _); simp [bne]
  obtain ⟨Fc, hFc⟩ : ∃ Fc, Fc = cfgOf flags := ⟨_, rfl⟩
  rw [← hFc] at hA2 hN2 hD2 hL2 hF2 ⊢
  have HA2 := Lib.hid hA2
  have HN2 := Lib.hid hN2
  have HD2 := Lib.hid hD2
  have HL2 := Lib.hid hL2
  have HF2 := Lib.hid hF2
  clear hFc hA2 hN2 hD2 hL2 hF2
  have HN := Lib.hid (fun va => SPRow.new Fc va w)
  rw [← HB.out] at HN
  go_enter Tryd.func19, Tryd.ntmps19
  go_upto_region 1 with fail
  go_cut [3] (fun s wx => s = .pointer (some ⟨B, 0, none⟩) ∧ (∀ va, SPRow Fc B va (fun _ => false) wx) ∧ Below B w wx)
  case first =>
    go_wp2_with fail
    go_meet
    exact ⟨by rw [HB.out], HN.out, (Below.refl _ _).alloc (by rw [HB.out]; exact Nat.le_refl _) _⟩
  obtain ⟨rfl, hR, hbel⟩ := hcut
  have HR := Lib.hid hR
  have HBel := Lib.hid hbel
  have hlt : B < wc.heap.size := World.rowIs.lt (hR .nilFunc)
  clear hR hbel HN
  go_wp2_with fail
  refine (smartAmp_any B true false wc hlt).mono ?_
  rintro e w1 ⟨x4, y4, z4, rfl, ha4, hb1⟩
  have HA4 := Lib.hid ha4
  have HB1 := Lib.hid hb1
  have hlt1 : B < w1.heap.size := Nat.lt_of_lt_of_le hlt hb1.size
  clear ha4 hb1
  go_wp2_with fail
  refine (smartAmp_any B true true w1 hlt1).mono ?_
  rintro e w2 ⟨x5, y5, z5, rfl, ha5, hb2⟩
  have HA5 := Lib.hid ha5
  have HB2 := Lib.hid hb2
  have hlt2 : B < w2.heap.size := Nat.lt_of_lt_of_le hlt1 hb2.size
  clear ha5 hb2
  go_wp2_with fail
  refine (smartAmp_any B false false w2 hlt2).mono ?_
  rintro e w3 ⟨x6, y6, z6, rfl, ha6, hb3⟩
  have HA6 := Lib.hid ha6
  have HB3 := Lib.hid hb3
  have hlt3 : B < w3.heap.size := Nat.lt_of_lt_of_le hlt2 hb3.size
  clear ha6 hb3
  go_wp2_with fail
  refine (smartAmp_any B false true w3 hlt3).mono ?_
  rintro e w4 ⟨x7, y7, z7, rfl, ha7, hb4⟩
  have HA7 := Lib.hid ha7
  have HB4 := Lib.hid hb4
  clear ha7 hb4
  obtain ⟨A, hA⟩ : ∃ A, A = Fc.ang := ⟨_, rfl⟩
  obtain ⟨N, hN⟩ : ∃ N, N = Fc.nbsp := ⟨_, rfl⟩
  obtain ⟨va, hva⟩ : ∃ va : Value, va = .func (.func 48) #[] (if A then (if N then #[.pointer (some ⟨x5, 0, none⟩), .pointer (some ⟨y5, 0, none⟩), .pointer (some ⟨z5, 0, none⟩)] else #[.pointer (some ⟨x4, 0, none⟩), .pointer (some ⟨y4, 0, none⟩), .pointer (some ⟨z4, 0, none⟩)]) else (if N then #[.pointer (some ⟨x7, 0, none⟩), .pointer (some ⟨y7, 0, none⟩), .pointer (some ⟨z7, 0, none⟩)] else #[.pointer (some ⟨x6, 0, none⟩), .pointer (some ⟨y6, 0, none⟩), .pointer (some ⟨z6, 0, none⟩)])) := ⟨_, rfl⟩
  have bAll : Below wc.heap.size wc w4 := HB1.out.trans ((HB2.out.mono HB1.out.size).trans ((HB3.out.mono (Nat.le_trans HB1.out.size HB2.out.size)).trans (HB4.out.mono (Nat.le_trans HB1.out.size (Nat.le_trans HB2.out.size HB3.out.size)))))
  have on : ∀ {v : Value} {wa wb : World}, Amp Fc B v wa → Below wa.heap.size wa wb → Amp Fc B v wb := fun h hb => h.on hb.size (fun k hk _ => hb.block k hk)
  have hMk : Mk Fc B va (fun _ => false) w w4 := by
    refine ⟨(HR.out va).on bAll, ?_, HBel.out.trans (bAll.mono (Nat.le_of_lt hlt))⟩
    rw [hva]
    cases A
    · cases N
      · exact on (HA6.out _ hA.symm hN.symm) HB4.out
      · exact HA7.out _ hA.symm hN.symm
    · cases N
      · exact on (on (on (HA4.out _ hA.symm hN.symm) HB2.out) HB3.out) HB4.out
      · exact on (on (HA5.out _ hA.symm hN.symm) HB3.out) HB4.out
  have HMk := Lib.hid hMk
  have HVa := Lib.hid hva
  have hA2 := HA2.out
  have hN2 := HN2.out
  rw [← hA] at hA2
  rw [← hN] at hN2
  have HA := Lib.hid hA
  have HNN := Lib.hid hN
  clear hMk hva bAll hA hN HA4 HA5 HA6 HA7 HB1 HB2 HB3 HB4 HR HBel hlt hlt1 hlt2 hlt3 on
  have c36 := World.rowIs.cell HMk.out.row (i := 36) (by decide)
  have f36 := World.rowIs.frozen HMk.out.row 36
  have c40 := World.rowIs.cell HMk.out.row (i := 40) (by decide)
  have f40 := World.rowIs.frozen HMk.out.row 40
  go_upto_if 19 with fail
  go_cut [] (fun wx => Mk Fc B va (fun c => false || c == 34 || c == 38) w wx)
  case first =>
    cases A
    all_goals cases N
    all_goals
      go_wp2_with fail
      go_meet
      exact (HMk.out.set 34 36 _ rfl (by simp [want, meth, ← HA.out]) (S' := (fun c => false || c == 34)) (fun _ => rfl)).set 38 40 _ rfl (by rw [HVa.out]; rfl) (fun _ => rfl)
  clear hA2 hN2
  clear c36 f36 c40 f40
  have HMk2 := Lib.hid hcut
  clear hcut HMk HVa
  have c41 := World.rowIs.cell HMk2.out.row (i := 41) (by decide)
  have f41 := World.rowIs.frozen HMk2.out.row 41
  go_upto_region 16 with fail
  go_cut [] (fun wx => Mk Fc B va (fun c => false || c == 34 || c == 38 || c == 39) w wx)
  case first =>
    go_wp2_with fail
    go_meet
    exact HMk2.out.set 39 41 _ rfl rfl (fun _ => rfl)
  clear c41 f41
  have HMk3 := Lib.hid hcut
  clear hcut HMk2
  have c42 := World.rowIs.cell HMk3.out.row (i := 42) (by decide)
  have f42 := World.rowIs.frozen HMk3.out.row 42
  go_upto_region 17 with fail
  go_cut [] (fun wx => Mk Fc B va (fun c => false || c == 34 || c == 38 || c == 39 || c == 40) w wx)
  case first =>
    go_wp2_with fail
    go_meet
    exact HMk3.out.set 40 42 _ rfl rfl (fun _ => rfl)
  clear c42 f42
  have HMk4 := Lib.hid hcut
  clear hcut HMk3
  have c47 := World.rowIs.cell HMk4.out.row (i := 47) (by decide)
  have f47 := World.rowIs.frozen HMk4.out.row 47
  have hD2 := HD2.out
  have hL2 := HL2.out
  go_upto_if 50 with fail
  go_cut [] (fun wx => Mk Fc B va (fun c => false || c == 34 || c == 38 || c == 39 || c == 40 || c == 45) w wx)
  case first =>
    cases hd : Fc.dash
    · rw [hd] at hD2
      go_wp2_with fail
      go_meet
      refine HMk4.out.skip (fun x hx => ?_) (fun x hx => or_t.2 (Or.inl hx))
      rcases or_t.1 hx with h | h
      · exact Or.inl h
      · right
        have e2 : x = 45 := by simpa using h
        subst e2
        simp [want, hd]
    · rw [hd] at hD2
      cases hl : Fc.latex
      all_goals
        rw [hl] at hL2
        go_wp2_with fail
        go_meet
        refine HMk4.out.set 45 47 _ rfl ?_ (fun _ => rfl)
        simp [want, hd, hl, meth]
  clear c47 f47
  have HMk5 := Lib.hid hcut
  clear hcut HMk4 hD2 hL2
  have c48 := World.rowIs.cell HMk5.out.row (i := 48) (by decide)
  have f48 := World.rowIs.frozen HMk5.out.row 48
  go_upto_region 22 with fail
  go_cut [] (fun wx => Mk Fc B va (fun c => false || c == 34 || c == 38 || c == 39 || c == 40 || c == 45 || c == 46) w wx)
  case first =>
    go_wp2_with fail
    go_meet
    exact HMk5.out.set 46 48 _ rfl rfl (fun _ => rfl)
  clear c48 f48
  have HMk6 := Lib.hid hcut
  clear hcut HMk5
  have c51 := World.rowIs.cell HMk6.out.row (i := 51) (by decide)
  have f51 := World.rowIs.frozen HMk6.out.row 51
  have c53 := World.rowIs.cell HMk6.out.row (i := 53) (by decide)
  have f53 := World.rowIs.frozen HMk6.out.row 53
  have hF2 := HF2.out
  go_upto_if 65 with fail
  go_cut [9] (fun _ wx => Mk Fc B va (fun c => (false || c == 34 || c == 38 || c == 39 || c == 40 || c == 45 || c == 46) || (decide (49 ≤ c) && decide (c < 58))) w wx)
  case first =>
    cases hf : Fc.frac
    · rw [hf] at hF2
      go_wp2_with fail
      go_meet
      have h1 := (HMk6.out.set 49 51 (meth B 43) rfl (by simp [want, hf]) (S' := fun c => (false || c == 34 || c == 38 || c == 39 || c == 40 || c == 45 || c == 46) || c == 49) (fun _ => rfl)).set 51 53 (meth B 43) rfl (by simp [want, hf]) (S' := fun c => ((false || c == 34 || c == 38 || c == 39 || c == 40 || c == 45 || c == 46) || c == 49) || c == 51) (fun _ => rfl)
      refine h1.skip (fun x hx => ?_) (fun x hx => ?_)
      · by_cases e : 49 ≤ x ∧ x ≤ 57
        · by_cases e2 : x = 49 ∨ x = 51
          · left
            rcases e2 with e2 | e2 <;> subst e2 <;> rfl
          · right
            unfold want
            rw [if_neg (by omega), if_neg (by omega), if_neg (by omega), if_neg (by omega), if_neg (by omega), if_neg (by omega), if_pos e, hf, if_neg (by decide), if_neg e2]
        · left
          rcases or_t.1 hx with h | h
          · exact or_t.2 (Or.inl (or_t.2 (Or.inl h)))
          · simp at h; omega
      · rcases or_t.1 hx with h | h
        · rcases or_t.1 h with h | h
          · exact or_t.2 (Or.inl h)
          · exact or_t.2 (Or.inr (by simp at h; subst h; rfl))
        · exact or_t.2 (Or.inr (by simp at h; subst h; rfl))
    · rw [hf] at hF2
      clear c51 f51 c53 f53
      go_wp2_with fail
      go_loopw [9] (fun t wr => ∃ k : Nat, 49 ≤ k ∧ k ≤ 58 ∧ t = .int .i32 k ∧ Mk Fc B va (fun c => (false || c == 34 || c == 38 || c == 39 || c == 40 || c == 45 || c == 46) || (decide (49 ≤ c) && decide (c < k))) w wr) (fun t _ => 58 - (intOf t).toNat)
      case atStart => exact ⟨49, Nat.le_refl _, by decide, rfl, HMk6.out.skip (fun x hx => Or.inl ((or_t.1 hx).elim id (fun h => by simp at h; omega))) (fun x hx => or_t.2 (Or.inl hx))⟩
      case round =>
        obtain ⟨k, hk1, hk2, rfl, hm⟩ := hrel
        by_cases hlt : k < 58
        · have ck := World.rowIs.cell hm.row (i := 2 + k) (by omega)
          have fk := World.rowIs.frozen hm.row (2 + k)
          have HM := Lib.hid hm
          clear hm
          go_wp2_with fail
          go_roundw
          case rel =>
            refine ⟨k + 1, by omega, by omega, by go_num, ?_⟩
            refine HM.out.set k _ _ (by omega) ?_ (fun x => ?_)
            · unfold want
              rw [if_neg (by omega), if_neg (by omega), if_neg (by omega), if_neg (by omega), if_neg (by omega), if_neg (by omega), if_pos (by omega), hf, if_pos rfl]
              rfl
            · have e : (decide (49 ≤ x) && decide (x < k + 1)) = ((decide (49 ≤ x) && decide (x < k)) || x == k) := by
                rw [Bool.eq_iff_iff]
                simp
                omega
              show (_ || (decide (49 ≤ x) && decide (x < k + 1))) = ((_ || _) || _)
              rw [e]
              exact (Bool.or_assoc _ _ _).symm
          case measure => simp [intOf]; omega
        · obtain rfl : 58 = k := by omega
          have HM := Lib.hid hm
          clear hm
          go_wp2_with fail
          go_meet
          exact HM.out
  try clear c51 f51 c53 f53
  have HMk7 := Lib.hid hcut
  clear hcut HMk6 hF2
  have c62 := World.rowIs.cell HMk7.out.row (i := 62) (by decide)
  have f62 := World.rowIs.frozen HMk7.out.row 62
  go_upto_region 30 with fail
  go_cut [] (fun wx => Mk Fc B va (fun c => ((false || c == 34 || c == 38 || c == 39 || c == 40 || c == 45 || c == 46) || (decide (49 ≤ c) && decide (c < 58))) || c == 60) w wx)
  case first =>
    go_wp2_with fail
    go_meet
    exact HMk7.out.set 60 62 _ rfl rfl (fun _ => rfl)
  clear c62 f62
  have HMk8 := Lib.hid hcut
  clear hcut HMk7
  have c98 := World.rowIs.cell HMk8.out.row (i := 98) (by decide)
  have f98 := World.rowIs.frozen HMk8.out.row 98
  go_upto_region 31 with fail
  go_cut [] (fun wx => Mk Fc B va (fun c => (((false || c == 34 || c == 38 || c == 39 || c == 40 || c == 45 || c == 46) || (decide (49 ≤ c) && decide (c < 58))) || c == 60) || c == 96) w wx)
  case first =>
    go_wp2_with fail
    go_meet
    exact HMk8.out.set 96 98 _ rfl rfl (fun _ => rfl)
  clear c98 f98
  have HMk9 := Lib.hid hcut
  clear hcut HMk8
  go_wp2_with fail
  go_ret
  have h := HMk9.out
  obtain rfl := HB.out
  refine ⟨va, rfl, (h.skip (S' := fun _ => true) (fun x _ => ?_) (fun _ _ => rfl)).row, h.amp, h.below⟩
  cases hS : (fun c => (((false || c == 34 || c == 38 || c == 39 || c == 40 || c == 45 || c == 46) || (decide (49 ≤ c) && decide (c < 58))) || c == 60) || c == 96) x with
  | true => exact Or.inl hS
  | false =>
    right
    simp at hS
    unfold want
    rw [if_neg (by omega), if_neg (by omega), if_neg (by omega), if_neg (by omega), if_neg (by omega), if_neg (by omega), if_neg (by omega), if_neg (by omega), if_neg (by omega)]

end Go.Proofs.YtnkjnlmghnomiaaDoor
