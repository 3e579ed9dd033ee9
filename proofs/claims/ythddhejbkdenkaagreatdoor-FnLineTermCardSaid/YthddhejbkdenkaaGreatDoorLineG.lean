/- Lines: impl.parser and the doors walked. Condition: as for the functions behind them. -/
import Derived.Test.YthddhejbkdenkaaGreatDoorLineF
namespace Go.Proofs.YthddhejbkdenkaaGreatDoor
open Go.ChangeShapes Go.WideShapes Go.ChangeAt Go.RowKit

/-- a call hands back a new parser -/
def ParserSaid (ext : Int) (w : World) (e : Ending) (w' : World) : Prop :=
  ∃ B wm, e = .returned (.pointer (some ⟨B, 0, none⟩)) ∧ w.heap.size ≤ B ∧ B = wm.heap.size ∧ Below w.heap.size w wm ∧ PM B ext wm w'

set_option maxHeartbeats 1000000 in
theorem parser_any (ext : Int) (w : World) : Calls Tryz.prog 18 #[.int .i64 ext] w (ParserSaid ext w) := by
  have HW := Lib.hid (fun w => withExt_any ext w)
  have HN := Lib.hid (fun C : Array Value => new_any ext (w.heap.size + 1) 0 ⟨w.heap.size, 0, none⟩ ((w.alloc (.cells #[.int .i64 ext] 43)).alloc (.cells #[.func (.func 55) #[] #[.pointer (some ⟨w.heap.size, 0, none⟩)]] 41)) (by simp) (by simp) (by simp) (by show w.heap.size < (World.alloc (w.alloc _) _).heap.size; simp; omega))
  go_enter Tryz.func18, Tryz.ntmps18
  go_wp2_with fail
  refine (HW.out _).mono ?_
  rintro e w1 ⟨rfl, rfl⟩
  go_wp2_with fail
  refine (HN.out #[]).mono ?_
  rintro e w1 ⟨rfl, hP⟩
  have HP := Lib.hid hP
  clear HN HW hP
  go_wp2_with fail
  go_ret
  refine ⟨_, _, by simp, ?_, rfl, ?_, HP.out⟩
  · simp; omega
  · exact ((Below.refl _ _).alloc (Nat.le_refl _) _).alloc (by simp) _

theorem dEmpty_any (v : Value) (p : Option Addr) (n c L : Nat) (l : List UInt8) (w : World) (h : Bs w p n l) (hF : Nl l L) (hn : n ≤ 1000000) :
    Calls Tryz.prog 20 #[v, .slice p n c] w (fun e w' => e = .returned (.int .i64 (emptyF l)) ∧ w = w') := by
  have H := Lib.hid (pEmpty_any v p n c L l w h hF hn)
  clear h
  go_enter Tryz.func20, Tryz.ntmps20
  go_wp2_with fail
  refine H.out.mono ?_
  rintro e w1 ⟨rfl, rfl⟩
  go_wp2_with fail
  go_ret
  exact ⟨rfl, rfl⟩

theorem dRule_any (v : Value) (p : Option Addr) (n c L : Nat) (l : List UInt8) (w : World) (h : Bs w p n l) (hF : Nl l L) (hn : n ≤ 1000000) :
    Calls Tryz.prog 21 #[v, .slice p n c] w (SomeBool w) := by
  have H := Lib.hid (pRule_any v p n c L l w h hF hn)
  clear h
  go_enter Tryz.func21, Tryz.ntmps21
  go_wp2_with fail
  refine H.out.mono ?_
  rintro e w1 ⟨z, rfl, rfl⟩
  go_wp2_with fail
  go_ret
  exact ⟨z, rfl, rfl⟩

theorem dUnder_any (v : Value) (p : Option Addr) (n c : Nat) (l : List UInt8) (w : World) (h : Bs w p n l) (h0 : 0 < n) (hn : n ≤ 1000000) :
    Calls Tryz.prog 23 #[v, .slice p n c] w (SomeInt w) := by
  have H := Lib.hid (pUnder_any v p n c l w h h0 hn)
  clear h
  go_enter Tryz.func23, Tryz.ntmps23
  go_wp2_with fail
  refine H.out.mono ?_
  rintro e w1 ⟨z, rfl, rfl⟩
  go_wp2_with fail
  go_ret
  exact ⟨z, rfl, rfl⟩

theorem dQuo_any (v : Value) (p : Option Addr) (n c : Nat) (l : List UInt8) (w : World) (h : Bs w p n l) (h0 : 0 < n) (hn : n ≤ 1000000) :
    Calls Tryz.prog 24 #[v, .slice p n c] w (fun e w' => e = .returned (.int .i64 (quoF l)) ∧ w = w') := by
  have H := Lib.hid (pQuo_any v p n c l w h h0 hn)
  clear h
  go_enter Tryz.func24, Tryz.ntmps24
  go_wp2_with fail
  refine H.out.mono ?_
  rintro e w1 ⟨rfl, rfl⟩
  go_wp2_with fail
  go_ret
  exact ⟨rfl, rfl⟩

theorem dCode_any (v : Value) (p : Option Addr) (n c : Nat) (l : List UInt8) (w : World) (h : Bs w p n l) (h0 : 0 < n) (hn : n ≤ 1000000) :
    Calls Tryz.prog 25 #[v, .slice p n c] w (SomeInt w) := by
  have H := Lib.hid (pCode_any v p n c l w h h0 hn)
  clear h
  go_enter Tryz.func25, Tryz.ntmps25
  go_wp2_with fail
  refine H.out.mono ?_
  rintro e w1 ⟨z, rfl, rfl⟩
  go_wp2_with fail
  go_ret
  exact ⟨z, rfl, rfl⟩

theorem dBul_any (v : Value) (p : Option Addr) (n c : Nat) (l : List UInt8) (w : World) (h : Bs w p n l) (h0 : 0 < n) (hn : n ≤ 1000000) :
    Calls Tryz.prog 26 #[v, .slice p n c] w (fun e w' => e = .returned (.int .i64 (bulF l)) ∧ w = w') := by
  have H := Lib.hid (pBul_any v p n c l w h h0 hn)
  clear h
  go_enter Tryz.func26, Tryz.ntmps26
  go_wp2_with fail
  refine H.out.mono ?_
  rintro e w1 ⟨rfl, rfl⟩
  go_wp2_with fail
  go_ret
  exact ⟨rfl, rfl⟩

theorem dOli_any (v : Value) (p : Option Addr) (n c : Nat) (l : List UInt8) (w : World) (h : Bs w p n l) (h0 : 0 < n) (hn : n ≤ 1000000) :
    Calls Tryz.prog 27 #[v, .slice p n c] w (SomeInt w) := by
  have H := Lib.hid (pOli_any v p n c l w h h0 hn)
  clear h
  go_enter Tryz.func27, Tryz.ntmps27
  go_wp2_with fail
  refine H.out.mono ?_
  rintro e w1 ⟨z, rfl, rfl⟩
  go_wp2_with fail
  go_ret
  exact ⟨z, rfl, rfl⟩

theorem dTerm_any (v : Value) (p : Option Addr) (n c : Nat) (l : List UInt8) (w : World) (h : Bs w p n l) (hn : n ≤ 1000000) :
    Calls Tryz.prog 28 #[v, .slice p n c] w (fun e w' => e = .returned (.int .i64 (termF l)) ∧ w = w') := by
  have H := Lib.hid (pTerm_any v p n c l w h hn)
  clear h
  go_enter Tryz.func28, Tryz.ntmps28
  go_wp2_with fail
  refine H.out.mono ?_
  rintro e w1 ⟨rfl, rfl⟩
  go_wp2_with fail
  go_ret
  exact ⟨rfl, rfl⟩

theorem dHead_any (ext : Int) (B : Nat) (p : Option Addr) (n c : Nat) (l : List UInt8) (w : World) (h : Bs w p n l) (h0 : 0 < n) (hn : n ≤ 1000000) (e0 : 0 ≤ ext) (e1 : ext ≤ 1000000) (hx : w.cell? ⟨B, 259, none⟩ = some (.int .i64 ext)) :
    Calls Tryz.prog 22 #[.pointer (some ⟨B, 0, none⟩), .slice p n c] w fun e w' => e = .returned (.bool (headF (hasB ext) l)) ∧ w = w' := by
  have H := Lib.hid (pHead_any ext B p n c l w h h0 hn e0 e1 hx)
  clear h hx
  go_enter Tryz.func22, Tryz.ntmps22
  go_wp2_with fail
  refine H.out.mono ?_
  rintro e w1 ⟨rfl, rfl⟩
  go_wp2_with fail
  go_ret
  exact ⟨rfl, rfl⟩

theorem new_cells {w w2 : World} {C : Array Value} {t : TypeId} (h : Below (w.alloc (.cells C t)).heap.size (w.alloc (.cells C t)) w2) {i : Nat} (hi : i < C.size) : ∃ v, w2.cell? ⟨w.heap.size, i, none⟩ = some v := by
  refine ⟨C[i], ?_⟩
  rw [h.cell (p := ⟨w.heap.size, i, none⟩) (by simp)]
  simp [hi]
theorem new_free {w w2 : World} {C : Array Value} {t : TypeId} (h : Below (w.alloc (.cells C t)).heap.size (w.alloc (.cells C t)) w2) (i : Nat) : w2.frozen? ⟨w.heap.size, i, none⟩ = false := by
  rw [h.frozen (p := ⟨w.heap.size, i, none⟩) (by simp)]
  simp

/-- the results of impl.LineOf -/
def LineSaid (ext : Int) (l : List UInt8) (w : World) (e : Ending) (w' : World) : Prop :=
  ∃ (r : Bool) (u k o : Int), e = .returned (.agg #[.int .i64 (emptyF l), .bool r, .bool (headF (hasB ext) l), .int .i64 u, .int .i64 (quoF l), .int .i64 k, .int .i64 (bulF l), .int .i64 o, .int .i64 (termF l)]) ∧ Below w.heap.size w w'

set_option maxHeartbeats 4000000 in
set_option maxRecDepth 100000 in
theorem lineOf_any (ext : Int) (p : Option Addr) (n c L : Nat) (l : List UInt8) (w : World) (h : Bs w p n l) (hF : Nl l L) (hl : bat l (n - 1) = 10) (hn : n ≤ 1000000) (e0 : 0 ≤ ext) (e1 : ext ≤ 1000000) :
    Calls Tryz.prog 9 #[.int .i64 ext, .slice p n c] w (LineSaid ext l w) := by
  have hlt := hF.lt
  rw [h.len] at hlt
  have h0 : 0 < n := by omega
  obtain ⟨m, rfl⟩ : ∃ m, n = m + 1 := ⟨n - 1, by omega⟩
  rw [Nat.add_sub_cancel] at hl
  have HH := Lib.hid h
  obtain ⟨b, o, rfl, hb, hcell⟩ := h.cells h0
  have cm := hcell m (by omega)
  rw [hl] at cm
  have HP := Lib.hid (fun w => parser_any ext w)
  have HFF := Lib.hid hF
  clear h hcell hl hF
  go_enter Tryz.func9, Tryz.ntmps9
  go_wp2_with fail
  refine (HP.out _).mono ?_
  rintro e w1 ⟨B, wm, rfl, hB1, hB2, hB3, hP⟩
  have hbel : Below w.heap.size w w1 := ((Below.refl _ _).alloc (Nat.le_refl _) _).trans ((hB3.mono (by simp)).trans (hP.below.mono (by simp at hB1; omega)))
  have HBel := Lib.hid hbel
  have HAll := Lib.hid (hB3.trans (hP.below.mono hB1))
  clear hB2
  have HPM := Lib.hid hP
  have HO := Lib.hid (own_bs (some ⟨b, o, none⟩) (m + 1) c l w1 (HH.out.below hbel (Nat.le_refl _)) (by omega))
  clear hB3 hP hbel HP
  go_wp2_with fail
  refine HO.out.mono ?_
  rintro e w2 ⟨p2, c2, rfl, hc1, hc2, hBs, hBel⟩
  have hz1 : w.heap.size < w1.heap.size := by
    have := HPM.out.size
    simp at hB1
    omega
  have hz2 := hBel.size
  have hAll := HAll.out.trans (hBel.mono (by have := HAll.out.size; exact this))
  have hcb : ∀ i, i < 9 → ∃ v, w2.cell? ⟨w.heap.size, i, none⟩ = some v := fun i hi => new_cells hAll hi
  have hfb : ∀ i, w2.frozen? ⟨w.heap.size, i, none⟩ = false := fun i => new_free hAll i
  clear hAll HAll
  obtain ⟨x0, k0⟩ := hcb 0 (by decide)
  obtain ⟨x1, k1⟩ := hcb 1 (by decide)
  obtain ⟨x2, k2⟩ := hcb 2 (by decide)
  obtain ⟨x3, k3⟩ := hcb 3 (by decide)
  obtain ⟨x4, k4⟩ := hcb 4 (by decide)
  obtain ⟨x5, k5⟩ := hcb 5 (by decide)
  obtain ⟨x6, k6⟩ := hcb 6 (by decide)
  obtain ⟨x7, k7⟩ := hcb 7 (by decide)
  obtain ⟨x8, k8⟩ := hcb 8 (by decide)
  have f0 := hfb 0
  have f1 := hfb 1
  have f2 := hfb 2
  have f3 := hfb 3
  have f4 := hfb 4
  have f5 := hfb 5
  have f6 := hfb 6
  have f7 := hfb 7
  have f8 := hfb 8
  clear hcb hfb
  have HPM2 := Lib.hid (HPM.out.grow hBel)
  have HBel2 := Lib.hid (HBel.out.trans (hBel.mono (by omega)))
  have hx := HPM2.out.ext
  have D1 := Lib.hid (dEmpty_any (.pointer (some ⟨B, 0, none⟩)) p2 (m + 1) c2 L l w2 hBs HFF.out hn)
  have D2 := Lib.hid (dRule_any (.pointer (some ⟨B, 0, none⟩)) p2 (m + 1) c2 L l w2 hBs HFF.out hn)
  have D3 := Lib.hid (dHead_any ext B p2 (m + 1) c2 l w2 hBs h0 hn e0 e1 hx)
  have D4 := Lib.hid (dUnder_any (.pointer (some ⟨B, 0, none⟩)) p2 (m + 1) c2 l w2 hBs h0 hn)
  have D5 := Lib.hid (dQuo_any (.pointer (some ⟨B, 0, none⟩)) p2 (m + 1) c2 l w2 hBs h0 hn)
  have D6 := Lib.hid (dCode_any (.pointer (some ⟨B, 0, none⟩)) p2 (m + 1) c2 l w2 hBs h0 hn)
  have D7 := Lib.hid (dBul_any (.pointer (some ⟨B, 0, none⟩)) p2 (m + 1) c2 l w2 hBs h0 hn)
  have D8 := Lib.hid (dOli_any (.pointer (some ⟨B, 0, none⟩)) p2 (m + 1) c2 l w2 hBs h0 hn)
  have D9 := Lib.hid (dTerm_any (.pointer (some ⟨B, 0, none⟩)) p2 (m + 1) c2 l w2 hBs hn)
  clear hx hBs hBel HO cm
  go_wp2_with fail
  refine D1.out.mono ?_
  rintro e w3 ⟨rfl, rfl⟩
  go_wp2_with fail
  refine D2.out.mono ?_
  rintro e w3 ⟨rr, rfl, rfl⟩
  go_wp2_with fail
  refine D3.out.mono ?_
  rintro e w3 ⟨rfl, rfl⟩
  go_wp2_with fail
  refine D4.out.mono ?_
  rintro e w3 ⟨uu, rfl, rfl⟩
  go_wp2_with fail
  refine D5.out.mono ?_
  rintro e w3 ⟨rfl, rfl⟩
  go_wp2_with fail
  refine D6.out.mono ?_
  rintro e w3 ⟨kk, rfl, rfl⟩
  go_wp2_with fail
  refine D7.out.mono ?_
  rintro e w3 ⟨rfl, rfl⟩
  go_wp2_with fail
  refine D8.out.mono ?_
  rintro e w3 ⟨oo, rfl, rfl⟩
  go_wp2_with fail
  refine D9.out.mono ?_
  rintro e w3 ⟨rfl, rfl⟩
  clear D1 D2 D3 D4 D5 D6 D7 D8 D9
  go_wp2_with fail
  refine bodyPost_ret (v := .agg #[.int .i64 (emptyF l), .bool rr, .bool (headF (hasB ext) l), .int .i64 uu, .int .i64 (quoF l), .int .i64 kk, .int .i64 (bulF l), .int .i64 oo, .int .i64 (termF l)]) (by simp [results, Tryz.results9, go_sem, k0, k1, k2, k3, k4, k5, k6, k7, k8]) rfl ⟨rr, uu, kk, oo, rfl, ?_⟩
  exact ((((((((HBel2.out.setCell (Nat.le_refl _) _).setCell (Nat.le_refl _) _).setCell (Nat.le_refl _) _).setCell (Nat.le_refl _) _).setCell (Nat.le_refl _) _).setCell (Nat.le_refl _) _).setCell (Nat.le_refl _) _).setCell (Nat.le_refl _) _).setCell (Nat.le_refl _) _

end Go.Proofs.YthddhejbkdenkaaGreatDoor
