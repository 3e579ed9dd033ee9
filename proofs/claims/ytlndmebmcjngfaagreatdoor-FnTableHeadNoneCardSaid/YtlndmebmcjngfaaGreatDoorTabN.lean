/- Tables: tableRow walked: the rows and cells of a table's head. Condition: lengths are bounded, nothing is escaped. -/
import Derived.Test.YtlndmebmcjngfaaGreatDoorTabJ
import Derived.Test.YtlndmebmcjngfaaGreatDoorTabA
namespace Go.Proofs.YtlndmebmcjngfaaGreatDoor
open Go.ChangeShapes Go.WideShapes Go.ChangeAt Go.RowKit

/-- a row of numbers -/
structure Nums (w : World) (b : Nat) (N : Nat) : Prop where
  cells : ∀ i, i < N → ∃ v : Int, w.cell? ⟨b, i, none⟩ = some (.int .i64 v)
  froz : ∀ i, w.frozen? ⟨b, i, none⟩ = false
  lt : b < w.heap.size
theorem Nums.of_block {w w' : World} {b N : Nat} (h : Nums w b N) (hs : w.heap.size ≤ w'.heap.size) (hb : w'.heap[b]? = w.heap[b]?) : Nums w' b N := by
  refine ⟨fun i hi => ?_, fun i => ?_, Nat.lt_of_lt_of_le h.lt hs⟩
  · obtain ⟨v, hv⟩ := h.cells i hi
    exact ⟨v, by simpa [World.cell?, hb] using hv⟩
  · simpa [World.frozen?, hb] using h.froz i
theorem Bs.of_but {K : Nat → Prop} {w w' : World} {p : Option Addr} {n : Nat} {l : List UInt8} (h : Bs w p n l) (hb : But K w w') (hK : ∀ a, p = some a → ¬ K a.block) : Bs w' p n l := by
  refine ⟨h.len, fun hn => ?_⟩
  obtain ⟨b, o, hp, hlt, hc⟩ := h.cells hn
  refine ⟨b, o, hp, Nat.lt_of_lt_of_le hlt hb.size, fun i hi => ?_⟩
  have := hb.block b hlt (hK _ hp)
  rw [← hc i hi]
  simp [World.cell?, this]

theorem But.drewN {K : Nat → Prop} {w w' : World} (h : But K w w') (k : Nat) : But K w (w'.drewN k) := ⟨h.os, h.tape, h.output, h.size, h.block⟩
/-- a row was begun below T: the tip is the row -/
structure RowNew (P T : Nat) (w : World) (R : Nat) (wr : World) : Prop where
  tip : Tip wr P R
  row : Nd wr R 23 (some T) none
  new : w.heap.size ≤ R
  but : But (fun k => k = P ∨ k = T) w wr
/-- .. the tip is its last cell -/
structure RowCell (P T : Nat) (w : World) (C : Nat) (wr : World) : Prop where
  tip : Tip wr P C
  row : ∃ R, w.heap.size ≤ R ∧ R < C ∧ Nd wr C 20 (some R) none ∧ Nd wr R 23 (some T) (some C)
  but : But (fun k => k = P ∨ k = T) w wr
def RowAt (P T : Nat) (w wr : World) : Prop := (∃ R, RowNew P T w R wr) ∨ (∃ C, RowCell P T w C wr)
theorem RowAt.but {P T : Nat} {w wr : World} (h : RowAt P T w wr) : But (fun k => k = P ∨ k = T) w wr := by
  rcases h with ⟨_, h⟩ | ⟨_, h⟩ <;> exact h.but
theorem RowAt.drewN {P T : Nat} {w wr : World} (h : RowAt P T w wr) (k : Nat) : RowAt P T w (wr.drewN k) := by
  rcases h with ⟨R, h⟩ | ⟨C, h⟩
  · exact Or.inl ⟨R, h.tip.of_block rfl, h.row.of_block rfl, h.new, h.but.drewN k⟩
  · obtain ⟨R, h1, h2, h3, h4⟩ := h.row
    exact Or.inr ⟨C, h.tip.of_block rfl, ⟨R, h1, h2, h3.of_block rfl, h4.of_block rfl⟩, h.but.drewN k⟩
theorem But.join {K K' : Nat → Prop} {a b c : World} (h : But K a b) (g : But K' b c) (hk : ∀ k, k < a.heap.size → K' k → K k) : But K a c :=
  ⟨g.os.trans h.os, g.tape.trans h.tape, g.output.trans h.output, Nat.le_trans h.size g.size, fun k hl hn => (g.block k (Nat.lt_of_lt_of_le hl h.size) (fun e => hn (hk k hl e))).trans (h.block k hl hn)⟩
theorem RowCell.set {P T : Nat} {w : World} {C : Nat} {wr : World} (h : RowCell P T w C wr) (hP : P < w.heap.size) (i : Nat) (v : Value) (h0 : i ≠ 0) (h1 : i ≠ 1) (h3 : i ≠ 3) : RowCell P T w C (wr.setCell ⟨C, i, none⟩ v) := by
  obtain ⟨R, g1, g2, g3, g4⟩ := h.row
  refine ⟨h.tip.of_block (heap_setCell_other _ _ _ _ (by show C ≠ P; omega)), ⟨R, g1, g2, g3.set i v h0 h1 h3, g4.far _ _ (by show C ≠ R; omega)⟩, ?_⟩
  refine ⟨h.but.os, h.but.tape, h.but.output, by simpa using h.but.size, fun k hk hn => ?_⟩
  rw [heap_setCell_other _ _ _ _ (by show C ≠ k; omega)]
  exact h.but.block k hk hn
theorem RowCell.nd {P T : Nat} {w : World} {C : Nat} {wr : World} (h : RowCell P T w C wr) : w.heap.size < C ∧ ∃ R, Nd wr C 20 (some R) none := by
  obtain ⟨R, g1, g2, g3, g4⟩ := h.row
  exact ⟨by omega, R, g3⟩

/-- one more cell -/
theorem cell_any (P T : Nat) (p : Option Addr) (n c : Nat) (w wr : World) (h : RowAt P T w wr) (hP : P < w.heap.size) :
    Calls Tryz.prog 30 #[.pointer (some ⟨P, 0, none⟩), .int .i64 20, .slice p n c] wr fun e w' => ∃ C, e = .returned (.pointer (some ⟨C, 0, none⟩)) ∧ RowCell P T w C w' := by
  rcases h with ⟨R, h⟩ | ⟨C, h⟩
  · have hsz := h.but.size
    have hnew := h.new
    refine (addBlock_any P R 23 20 (some T) none p n c wr h.tip h.row (by omega) (fun L e => by cases e) (Or.inr (Or.inr (Or.inl ⟨rfl, rfl, rfl⟩)))).mono ?_
    rintro e w' ⟨rfl, w1, hb, had⟩
    exact ⟨_, rfl, had.tip, ⟨R, h.new, h.row.lt, had.new, had.top⟩, (h.but.below hb).join had.but (fun k hk e => by
      rcases e with e | e | e | e
      · exact Or.inl e
      · omega
      · omega
      · cases e)⟩
  · have hsz := h.but.size
    obtain ⟨R, g1, g2, g3, g4⟩ := h.row
    refine (addBlock2_any P R C (some T) none p n c wr h.tip g3 g4 (by omega) (by omega) (by omega)).mono ?_
    rintro e w' ⟨rfl, w1, hb, had⟩
    exact ⟨_, rfl, had.tip, ⟨R, g1, g4.lt, had.new, had.top⟩, (h.but.below hb).join had.but (fun k hk e => by
      rcases e with e | e | e | e
      · exact Or.inl e
      · omega
      · omega
      · cases e; omega)⟩
/-- the row begins -/
theorem row_any (P T D : Nat) (p : Option Addr) (n c : Nat) (w : World) (hP : Tip w P T) (hT : Nd w T 21 (some D) none) (hPT : P ≠ T) :
    Calls Tryz.prog 30 #[.pointer (some ⟨P, 0, none⟩), .int .i64 23, .slice p n c] w fun e w' => (∃ R, e = .returned (.pointer (some ⟨R, 0, none⟩))) ∧ RowAt P T w w' := by
  refine (addBlock_any P T 21 23 (some D) none p n c w hP hT hPT (fun L e => by cases e) (Or.inr (Or.inl ⟨rfl, rfl, rfl⟩))).mono ?_
  rintro e w' ⟨rfl, w1, hb, had⟩
  exact ⟨⟨_, rfl⟩, Or.inl ⟨_, had.tip, had.new, Nat.le_refl _, ((But.refl (fun k => k = P ∨ k = T) w).below hb).join had.but (fun k hk e => by
      rcases e with e | e | e | e
      · exact Or.inl e
      · omega
      · exact Or.inr e
      · cases e)⟩⟩

def RowSaid (P T : Nat) (w : World) (e : Ending) (w' : World) : Prop := e = .returned (.tuple #[]) ∧ But (fun k => k = P ∨ k = T) w w'
set_option maxHeartbeats 4000000 in
set_option maxRecDepth 100000 in
theorem tableRow_any (P T D b o n c cb N cc : Nat) (hd : Bool) (l : List UInt8) (w : World) (hP : Tip w P T) (hT : Nd w T 21 (some D) none) (hPT : P ≠ T) (h : Bs w (some ⟨b, o, none⟩) n l) (hc : Nums w cb N)
    (hbP : b ≠ P) (hbT : b ≠ T) (hcP : cb ≠ P) (hcT : cb ≠ T) (h0 : 0 < n) (hn : n ≤ 1000000) (hnc : n ≤ c) (hcm : c ≤ maxLen) (hN : N ≤ 1000) (hes : ∀ j, j < n → bat l j ≠ 92) :
    Calls Tryz.prog 31 #[.pointer (some ⟨P, 0, none⟩), .slice (some ⟨b, o, none⟩) n c, .slice (some ⟨cb, 0, none⟩) N cc, .bool hd] w (RowSaid P T w) := by
  have HR := Lib.hid (row_any P T D none 0 0 w hP hT hPT)
  have HPl := Lib.hid hP.lt
  have HBs := Lib.hid (fun wr (g : RowAt P T w wr) => h.of_but g.but (fun a e => by cases e; exact fun x => x.elim hbP hbT))
  have HNu := Lib.hid (fun wr (g : RowAt P T w wr) => hc.of_block g.but.size (g.but.block cb hc.lt (fun x => x.elim hcP hcT)))
  have HCl := Lib.hid hc.lt
  have HE := Lib.hid (fun wr (g : RowAt P T w wr) i (hi : i < n) => notEsc_any (some ⟨b, o, none⟩) n c i l wr (h.of_but g.but (fun a e => by cases e; exact fun x => x.elim hbP hbT)) hi hes hn)
  have HC := Lib.hid (fun wr p m k (g : RowAt P T w wr) => cell_any P T p m k w wr g hP.lt)
  clear hP hT h hc hbP hbT hcP hcT hes
  go_enter Tryz.func31, Tryz.ntmps31
  go_wp2_with fail
  refine HR.out.mono ?_
  rintro e w1 ⟨⟨R, rfl⟩, hrow⟩
  have HRow := Lib.hid hrow
  clear hrow HR
  have HB1 := Lib.hid (HBs.out w1 HRow.out)
  have HE1 := Lib.hid (HE.out w1 HRow.out)
  go_upto_region 2 with fail
  go_cut [26] (fun t wx => t = .bool (bat l 0 == 124) ∧ wx = w1)
  case first =>
    obtain ⟨b', o', e', hbl, hcl⟩ := HB1.out.cells h0
    cases e'
    have c0 := hcl 0 h0
    rw [Nat.add_zero] at c0
    clear hcl
    have HE0 := Lib.hid (HE1.out 0 h0)
    cases hq : (bat l 0 == 124) with
    | true =>
      go_wp2_with (go_at_call 28; refine HE0.out.mono ?_; rintro e w2 ⟨rfl, rfl⟩)
      go_meet
      exact ⟨by rw [hq], rfl⟩
    | false =>
      go_wp2_with fail
      go_meet
      exact ⟨by rw [hq], rfl⟩
  obtain ⟨rfl, rfl⟩ := hcut
  go_upto_if 26 with fail
  go_cut [8] (fun t wx => ∃ i : Nat, i ≤ n + 1 ∧ t = .int .i64 i ∧ wx = wc)
  case first =>
    cases hq : (bat l 0 == 124) with
    | true =>
      go_wp2_with fail
      go_meet
      exact ⟨1, by omega, rfl, rfl⟩
    | false =>
      go_wp2_with fail
      go_meet
      exact ⟨0, by omega, rfl, rfl⟩
  obtain ⟨i0, hi0, rfl, rfl⟩ := hcut
  go_upto_block 0 with fail
  go_cut [9] (fun t wx => ∃ k : Nat, k ≤ N ∧ t = .int .i64 k ∧ RowAt P T w wx)
  case first =>
    go_wp2_with fail
    go_loopw [8, 9] (fun t u wr => ∃ i k : Nat, i ≤ n + 1 ∧ k ≤ N ∧ t = .int .i64 i ∧ u = .int .i64 k ∧ RowAt P T w wr) (fun _ u _ => N - (intOf u).toNat)
    case atStart => exact ⟨i0, 0, hi0, Nat.zero_le _, rfl, rfl, HRow.out⟩
    case round =>
      obtain ⟨i, k, hi, hk, rfl, rfl, hrow⟩ := hrel
      have HRr := Lib.hid hrow
      have HBr := Lib.hid (HBs.out wr hrow)
      have HEr := Lib.hid (HE.out wr hrow)
      have HNr := Lib.hid (HNu.out wr hrow)
      clear hrow
      by_cases hkN : k < N
      · by_cases hin : i < n
        · go_upto_block 2 with fail
          go_cut [8] (fun t wx => ∃ j : Nat, j ≤ n ∧ t = .int .i64 j ∧ wx = wr)
          case first =>
            go_wp2_with fail
            go_loop [8] (fun t => ∃ j : Nat, j ≤ n ∧ t = .int .i64 j) (fun t => n - (intOf t).toNat)
            case atStart => exact ⟨i, by omega, rfl⟩
            case round =>
              obtain ⟨j, hj, rfl⟩ := hrel
              by_cases hjn : j < n
              · obtain ⟨b', o', e', hbl, hcl⟩ := HBr.out.cells h0
                cases e'
                have cj := hcl j hjn
                clear hcl
                cases hq : (bat l j == 32) with
                | true =>
                  go_wp2_with fail
                  go_round
                  case rel => exact ⟨j + 1, by omega, by go_num⟩
                  case measure => simp [intOf]; omega
                | false =>
                  go_wp2_with fail
                  go_meet
                  exact ⟨j, hj, rfl, rfl⟩
              · go_wp2_with fail
                go_meet
                exact ⟨j, hj, rfl, rfl⟩
          obtain ⟨j, hj, rfl, rfl⟩ := hcut
          go_upto_block 4 with fail
          go_cut [8] (fun t wx => ∃ f : Nat, j ≤ f ∧ f ≤ n ∧ t = .int .i64 f ∧ wx = wc)
          case first =>
            go_wp2_with fail
            go_loop [8] (fun t => ∃ f : Nat, j ≤ f ∧ f ≤ n ∧ t = .int .i64 f) (fun t => n - (intOf t).toNat)
            case atStart => exact ⟨j, Nat.le_refl _, hj, rfl⟩
            case round =>
              obtain ⟨f, hjf, hf, rfl⟩ := hrel
              by_cases hfn : f < n
              · obtain ⟨b', o', e', hbl, hcl⟩ := HBr.out.cells h0
                cases e'
                have cf := hcl f hfn
                have HEf := Lib.hid (HEr.out f hfn)
                clear hcl
                cases hq : (bat l f == 124) with
                | true =>
                  have hq' : (bat l f != 124) = false := by simpa using hq
                  go_wp2_with (go_at_call 28; refine HEf.out.mono ?_; rintro e w2 ⟨rfl, rfl⟩)
                  go_meet
                  exact ⟨f, hjf, hf, rfl, rfl⟩
                | false =>
                  have hq' : (bat l f != 124) = true := by simpa using hq
                  cases hr : (bat l f == 10) with
                  | true =>
                    have hr' : (bat l f != 10) = false := by simpa using hr
                    go_wp2_with fail
                    go_meet
                    exact ⟨f, hjf, hf, rfl, rfl⟩
                  | false =>
                    have hr' : (bat l f != 10) = true := by simpa using hr
                    go_wp2_with fail
                    go_round
                    case rel => exact ⟨f + 1, by omega, by omega, by go_num⟩
                    case measure => simp [intOf]; omega
              · go_wp2_with fail
                go_meet
                exact ⟨f, hjf, hf, rfl, rfl⟩
          obtain ⟨f, hjf, hf, rfl, rfl⟩ := hcut
          go_upto_block 6 with fail
          go_cut [11] (fun t wx => ∃ e : Nat, j ≤ e ∧ e ≤ f ∧ t = .int .i64 e ∧ wx = wc)
          case first =>
            go_wp2_with fail
            go_loop [11] (fun t => ∃ e : Nat, j ≤ e ∧ e ≤ f ∧ t = .int .i64 e) (fun t => (intOf t).toNat)
            case atStart => exact ⟨f, hjf, Nat.le_refl _, rfl⟩
            case round =>
              obtain ⟨e, hje, hef, rfl⟩ := hrel
              by_cases hlt : j < e
              · obtain ⟨m, rfl⟩ : ∃ m, e = m + 1 := ⟨e - 1, by omega⟩
                obtain ⟨b', o', e', hbl, hcl⟩ := HBr.out.cells h0
                cases e'
                have cm := hcl m (by omega)
                clear hcl
                have e1 : (((m + 1 : Nat) : Int) - 1) = (m : Int) := by omega
                cases hq : (bat l m == 32) with
                | true =>
                  go_wp2_with fail
                  go_round
                  case rel => exact ⟨m, by omega, by omega, by go_num⟩
                  case measure => simp [intOf]
                | false =>
                  go_wp2_with fail
                  go_meet
                  exact ⟨m + 1, hje, hef, rfl, rfl⟩
              · go_wp2_with fail
                go_meet
                exact ⟨e, hje, hef, rfl, rfl⟩
          obtain ⟨e, hje, hef, rfl, rfl⟩ := hcut
          clear HB1 HE1 HBr HEr HNr
          rcases (show j < c ∨ j = c by omega) with hjc | rfl
          all_goals
            go_wp2_with fail
            refine (HC.out wc _ _ _ HRr.out).mono ?_
            rintro e2 w2 ⟨C, rfl, hcell⟩
            obtain ⟨hCn, R2, hnd⟩ := hcell.nd
            obtain ⟨x25, c25⟩ := hnd.cells 25 (by decide)
            have f25 := hnd.froz 25
            obtain ⟨x26, c26⟩ := hnd.cells 26 (by decide)
            have f26 := hnd.froz 26
            have hnu := HNu.out w2 (Or.inr ⟨C, hcell⟩)
            obtain ⟨z, cz⟩ := hnu.cells k hkN
            have hne : (⟨C, 25, none⟩ : Addr) ≠ ⟨cb, k, none⟩ := by intro e; cases e; have := HCl.out; omega
            have HCe := Lib.hid hcell
            clear hcell hnd hnu
            go_wp2_with fail
            go_roundw
            case rel => exact ⟨f + 1, k + 1, by omega, by omega, by go_num, by go_num, Or.inr ⟨C, (HCe.out.set HPl.out 25 _ (by decide) (by decide) (by decide)).set HPl.out 26 _ (by decide) (by decide) (by decide)⟩⟩
            case measure => simp [intOf]; omega
        · go_wp2_with fail
          go_meet
          exact ⟨k, hk, rfl, HRr.out⟩
      · go_wp2_with fail
        go_meet
        exact ⟨k, hk, rfl, HRr.out⟩
  obtain ⟨k0, hk0, rfl, hrow⟩ := hcut
  have HRow2 := Lib.hid hrow
  clear hrow HB1 HE1 HRow
  go_wp2_with fail
  go_loopw [9] (fun u wr => ∃ k : Nat, k ≤ N ∧ u = .int .i64 k ∧ RowAt P T w wr) (fun u _ => N - (intOf u).toNat)
  case atStart => exact ⟨k0, hk0, rfl, HRow2.out⟩
  case round =>
    obtain ⟨k, hk, rfl, hrow⟩ := hrel
    have HRr := Lib.hid hrow
    clear hrow
    by_cases hkN : k < N
    · go_wp2_with fail
      refine (HC.out wr _ _ _ HRr.out).mono ?_
      rintro e2 w2 ⟨C, rfl, hcell⟩
      obtain ⟨hCn, R2, hnd⟩ := hcell.nd
      obtain ⟨x25, c25⟩ := hnd.cells 25 (by decide)
      have f25 := hnd.froz 25
      obtain ⟨x26, c26⟩ := hnd.cells 26 (by decide)
      have f26 := hnd.froz 26
      have hnu := HNu.out w2 (Or.inr ⟨C, hcell⟩)
      obtain ⟨z, cz⟩ := hnu.cells k hkN
      have hne : (⟨C, 25, none⟩ : Addr) ≠ ⟨cb, k, none⟩ := by intro e; cases e; have := HCl.out; omega
      have HCe := Lib.hid hcell
      clear hcell hnd hnu
      go_wp2_with fail
      go_roundw
      case rel => exact ⟨k + 1, by omega, by go_num, Or.inr ⟨C, (HCe.out.set HPl.out 25 _ (by decide) (by decide) (by decide)).set HPl.out 26 _ (by decide) (by decide) (by decide)⟩⟩
      case measure => simp [intOf]; omega
    · go_wp2_with fail
      go_end0
      exact ⟨rfl, HRr.out.but⟩

end Go.Proofs.YtlndmebmcjngfaaGreatDoor
