/- Tables: impl.parser with its tip, impl.TableHead walked, what TableHeader answers handed in. Condition: as for the functions behind them. -/
import Derived.Test.YtlndmebmcjngfaaGreatDoorTabL
import Derived.Test.YtlndmebmcjngfaaGreatDoorTabO
namespace Go.Proofs.YtlndmebmcjngfaaGreatDoor
open Go.ChangeShapes Go.WideShapes Go.ChangeAt Go.RowKit

/-- a call hands back a new parser whose tip is its document -/
def ParserTip (ext : Int) (w : World) (e : Ending) (w' : World) : Prop :=
  ∃ B nd wm, e = .returned (.pointer (some ⟨B, 0, none⟩)) ∧ w.heap.size ≤ B ∧ B = wm.heap.size ∧ Below w.heap.size w wm ∧ PT 2 B ext nd wm w'

set_option maxHeartbeats 1000000 in
theorem parserTip_any (ext : Int) (w : World) : Calls Tryz.prog 18 #[.int .i64 ext] w (ParserTip ext w) := by
  have HW := Lib.hid (fun w => withExt_any ext w)
  have HN := Lib.hid (newTip_any ext (w.heap.size + 1) 0 ⟨w.heap.size, 0, none⟩ ((w.alloc (.cells #[.int .i64 ext] 59)).alloc (.cells #[.func (.func 44) #[] #[.pointer (some ⟨w.heap.size, 0, none⟩)]] 57)) (by simp) (by simp) (by simp) (by show w.heap.size < (World.alloc (w.alloc _) _).heap.size; simp; omega))
  go_enter Tryz.func18, Tryz.ntmps18
  go_wp2_with fail
  refine (HW.out _).mono ?_
  rintro e w1 ⟨rfl, rfl⟩
  go_wp2_with fail
  refine HN.out.mono ?_
  rintro e w1 ⟨rfl, nd, hP⟩
  have HP := Lib.hid hP
  clear HN HW hP
  go_wp2_with fail
  go_ret
  refine ⟨_, nd, _, by simp, ?_, rfl, ?_, HP.out⟩
  · simp; omega
  · exact ((Below.refl _ _).alloc (Nat.le_refl _) _).alloc (by simp) _

/-- the columns that a head hands back -/
def ColsV (w : World) (v : Value) : Prop := v = .slice none 0 0 ∨ ∃ cb N, v = .slice (some ⟨cb, 0, none⟩) N N ∧ Nums w cb N ∧ N ≤ 20
def TableSaid (R : Int → Prop) (w : World) (e : Ending) (w' : World) : Prop :=
  ∃ (s : Int) (v : Value), e = .returned (.tuple #[.int .i64 s, v]) ∧ R s ∧ Below w.heap.size w w'
def HeaderSaid (R : Int → Prop) (B nd : Nat) (w : World) (e : Ending) (w' : World) : Prop :=
  ∃ (s : Int) (v : Value), e = .returned (.tuple #[.int .i64 s, v]) ∧ R s ∧ ColsV w' v ∧ But (fun k => k = B ∨ k = nd) w w'
theorem Tryz.infoI2 : (Tryz.prog.info? 2).map (fun i => (i.zero, i.size, i.bytes)) = some (some (.int .i64 0), 1, 8) := by kernel_rfl

theorem But.to_below {K : Nat → Prop} {B : Nat} {w0 w w' : World} (h0 : Below B w0 w) (h : But K w w') (hB : B ≤ w.heap.size) (hK : ∀ k, K k → B ≤ k) : Below B w0 w' :=
  ⟨h.os.trans h0.os, h.tape.trans h0.tape, h.output.trans h0.output, Nat.le_trans h0.size h.size, fun k hk => (h.block k (by omega) (fun e => by have := hK k e; omega)).trans (h0.block k hk)⟩

/-- one number is appended to a row of numbers of the call's own -/
theorem app_num {ops : Array Oper} {rest : List Oper} {o : Oper} {a : Act} {Q : Exit → Act → World → Prop} (hgd : o.guard = none) (s x : Operand)
    (ho : o.op = .call { callee := .builtin .append, args := #[s, x], argTypes := #[27, 27] }) (B : Nat) (v : Value) (m : Nat) (xs : List Value) (hs : a.eval s = v) {W : World}
    (hown : W.ownsRow B 2 1 v m xs) (u : Int) (hx : a.eval x = .slice (some ⟨W.heap.size, 0, none⟩) 1 1) (hn : m ≤ 1000000) (hB : B ≤ W.heap.size)
    (h : ∀ v' w' ys, w'.ownsRow B 2 1 v' (m + 1) ys → v' ≠ .slice none 0 0 → Below B W w' → wpList Tryz.prog ops Q rest (a.put o.dst v') w') :
    wpList Tryz.prog ops Q (o :: rest) a (W.alloc (.cells #[.int .i64 u] 2)) := by
  obtain ⟨i0, hi, hz0, hz1, hz2⟩ := info_parts Tryz.infoI2
  refine wpList_append_own _ hgd s x 27 ho B 2 i0 (.int .i64 0) 1 8 Tryz.underlying27 hi hz0 hz1 hz2 rfl (by decide) v m xs hs (World.ownsRow.alloc hown _) ⟨W.heap.size, 0, none⟩ 1 1 [.int .i64 u] hx rfl ?_ ?_ (by unfold maxLen; omega) (by omega) (by simp; omega) ?_
  · intro j y hj
    rw [Addr.add_lit, Nat.zero_add, World.cell?_alloc_mark]
    simpa using hj
  · intro y hy
    simp at hy
    subst hy
    rfl
  · intro v' w' hown' hg hnil
    refine h v' w' _ hown' ?_ (((Below.refl B W).alloc hB _).grown hg (by simp; omega) (fun k hk => ?_))
    · intro e
      have := (hnil.1 e).2
      omega
    · exact (World.ownsRow.lt hown k hk).1

set_option maxHeartbeats 2000000 in
set_option maxRecDepth 100000 in
theorem tableHead_any (p : Option Addr) (n c : Nat) (l : List UInt8) (w : World) (R : Int → Prop) (h : Bs w p n l) (h0 : 0 < n) (hn : n ≤ 1000000)
    (hread : ∀ (B nd b o cc : Nat) (wx : World), Tip wx B nd → Nd wx nd 0 none none → B ≠ nd → Bs wx (some ⟨b, o, none⟩) n l → b ≠ B → b ≠ nd → n ≤ cc → cc ≤ maxLen →
      Calls Tryz.prog 17 #[.pointer (some ⟨B, 0, none⟩), .slice (some ⟨b, o, none⟩) n cc] wx (HeaderSaid R B nd wx)) :
    Calls Tryz.prog 7 #[.slice p n c] w (TableSaid R w) := by
  have H := Lib.hid h
  have HP := Lib.hid (parserTip_any 0 w)
  have HRd := Lib.hid hread
  clear h hread
  go_enter Tryz.func7, Tryz.ntmps7
  go_wp2_with fail
  refine HP.out.mono ?_
  rintro e w1 ⟨B, nd, wm, rfl, hB1, hB2, hB3, hP⟩
  have hbel : Below w.heap.size w w1 := hB3.trans (hP.below.mono hB1)
  have HPT := Lib.hid hP
  have HBel := Lib.hid hbel
  have HO := Lib.hid (own_any p n c l w1 (H.out.below hbel (Nat.le_refl _)) (by omega))
  have HB1 := Lib.hid hB1
  clear hB1 hB2 hB3 hP hbel HP
  go_wp2_with fail
  refine HO.out.mono ?_
  rintro e w2 ⟨v2, rfl, hown, hbel2⟩
  have HPT2 := Lib.hid (HPT.out.grow hbel2)
  have hnew : w1.heap.size ≤ ((v2.ownBlock).getD w1.heap.size) := by
    rcases hown.2 with ⟨hv, _⟩ | ⟨g, cap, cur, hv, hB, _⟩
    · rw [hv]; exact Nat.le_refl _
    · rw [hv]; exact hB
  obtain ⟨p2, c2, hv2, hc1, hc2, hBs⟩ := hown.bs
  rw [H.out.len] at hv2 hc1 hBs
  obtain ⟨b2, o2, e2, hb2, hcell2⟩ := hBs.cells h0
  subst e2 hv2
  have hb2n : w1.heap.size ≤ b2 := hnew
  have hPz := HPT.out.size
  have hNz := HPT.out.node.lt
  have HR := Lib.hid (HRd.out B nd b2 o2 c2 w2 HPT2.out.toTip HPT2.out.node (Nat.ne_of_lt HPT.out.lt) hBs (by omega) (by omega) hc1 hc2)
  have HBel2 := Lib.hid (HBel.out.trans (hbel2.mono HBel.out.size))
  have HLt := Lib.hid HPT.out.lt
  clear hBs hbel2 hcell2 HO hown hnew hb2 hb2n hPz hNz
  go_wp2_with fail
  refine HR.out.mono ?_
  rintro e w3 ⟨s, v, rfl, hs, hcol, hbut⟩
  have hBel3 : Below w.heap.size w w3 := But.to_below HBel2.out hbut HBel2.out.size (fun k hk => by
    have := HB1.out
    have := HLt.out
    rcases hk with e | e <;> omega)
  have HBel3 := Lib.hid hBel3
  have HS := Lib.hid hs
  clear hs hbut hBel3 HR
  rcases hcol with rfl | ⟨cb, N, rfl, hnums, hN⟩
  · go_wp2_with fail
    go_loop [3, 20] (fun v t => v = .slice none 0 0 ∧ t = .int .i64 0) (fun _ _ => 0)
    case atStart => exact ⟨rfl, rfl⟩
    case round =>
      obtain ⟨rfl, rfl⟩ := hrel
      go_wp2_with fail
      exact bodyPost_ret (v := .tuple #[.int .i64 s, .slice none 0 0]) (by simp [results, Tryz.results7, go_sem]) rfl ⟨s, _, rfl, HS.out, HBel3.out⟩
  · have HNu := Lib.hid hnums
    clear hnums
    go_wp2_with fail
    go_loopw [3, 20] (fun v t wr => ∃ (k : Nat) (xs : List Value), k ≤ N ∧ t = .int .i64 k ∧ wr.ownsRow w3.heap.size 2 1 v k xs ∧ Below w3.heap.size w3 wr) (fun _ t _ => N - (intOf t).toNat)
    case atStart => exact ⟨0, [], Nat.zero_le _, rfl, World.ownsRow_nil _ _ _ _, Below.refl _ _⟩
    case round =>
      obtain ⟨k, xs, hk, rfl, hown, hbw⟩ := hrel
      have HOw := Lib.hid hown
      have HBw := Lib.hid hbw
      clear hown hbw
      by_cases hlt : k < N
      · obtain ⟨z, cz⟩ := HNu.out.cells k hlt
        have cz2 := (HBw.out.cell (p := ⟨cb, k, none⟩) HNu.out.lt).trans cz
        have HZ := Lib.hid HBw.out.size
        go_wp2_with (at_builtin; refine app_num rfl _ _ rfl w3.heap.size _ k xs rfl HOw.out z rfl (by omega) HZ.out ?_; intro v' w' ys hown' hnil' hb'; refine Hid.out ?_)
        refine Lib.hid ?_
        have HOw2 := Lib.hid hown'
        have HBw2 := Lib.hid hb'
        clear hown' hb' hnil'
        go_wp2_with fail
        go_roundw
        case rel => exact ⟨k + 1, ys, by omega, by go_num, HOw2.out, HBw.out.trans HBw2.out⟩
        case measure => simp [intOf]; omega
      · obtain rfl : k = N := by omega
        go_wp2_with fail
        exact bodyPost_ret (v := .tuple #[.int .i64 s, u3]) (by simp [results, Tryz.results7, go_sem]) rfl ⟨s, _, rfl, HS.out, HBel3.out.trans (HBw.out.mono HBel3.out.size)⟩

end Go.Proofs.YtlndmebmcjngfaaGreatDoor
