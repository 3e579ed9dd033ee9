/- bytes.Buffer: grow walked. Condition: lengths are bounded. -/
import Derived.Test.YtnkjnlmghnomiaaDoorBufA
import Derived.Deep.RegionWith
namespace Go.Proofs.YtnkjnlmghnomiaaDoor
open Go.ChangeShapes Go.WideShapes Go.ChangeAt Go.RowKit

theorem heap_far (w : World) (a : Addr) (v : Value) (r : Nat) (h : a.block ≠ r) : (w.setCell a v).heap[r]? = w.heap[r]? := by
  simp only [World.setCell, Array.getElem?_modify]
  rw [if_neg h]
/-- what growSlice does -/
structure GrowOk : Prop where
  row : ∀ (g l c n : Nat) (cur : Array Value) (w : World), w.heap[g]? = some (.cells cur 5 (0, 0)) → cur.size = c → l ≤ c → 1 ≤ n → l + n ≤ 1000000000 → c ≤ 1000000000 → (∀ v ∈ cur.toList.take l, v.oneCell' = true) →
    Calls Tryd.prog 70 #[.slice (some ⟨g, 0, none⟩) l c, .int .i64 n] w fun e w' => ∃ cap2 cells, e = .returned (.slice (some ⟨w.heap.size, 0, none⟩) l cap2) ∧ w'.heap[w.heap.size]? = some (.cells cells 5 (0, 0)) ∧
      cells.size = cap2 ∧ cells.toList.take l = cur.toList.take l ∧ l + n ≤ cap2 ∧ cap2 ≤ maxLen ∧ Below w.heap.size w w'
  nil : ∀ (n : Nat) (w : World), 1 ≤ n → n ≤ 1000000000 →
    Calls Tryd.prog 70 #[.slice none 0 0, .int .i64 n] w fun e w' => ∃ cap2 cells, e = .returned (.slice (some ⟨w.heap.size, 0, none⟩) 0 cap2) ∧ w'.heap[w.heap.size]? = some (.cells cells 5 (0, 0)) ∧
      cells.size = cap2 ∧ n ≤ cap2 ∧ cap2 ≤ maxLen ∧ Below w.heap.size w w'

/-- the buffer has grown: a new row, its first bytes as they were -/
def GrownSaid (b m n : Nat) (old : List Value) (w : World) (e : Ending) (w' : World) : Prop :=
  e = .returned (.int .i64 m) ∧ ∃ cap cells, Bf w' b (.slice (some ⟨w.heap.size, 0, none⟩) (m + n) cap) ∧ w'.heap[w.heap.size]? = some (.cells cells 5 (0, 0)) ∧ cells.size = cap ∧ cells.toList.take m = old ∧ m + n ≤ cap ∧ cap ≤ maxLen ∧ But (fun k => k = b) w w' ∧ w.heap.size < w'.heap.size

set_option maxHeartbeats 2000000 in
set_option maxRecDepth 100000 in
theorem growRow_any (hG : GrowOk) (b r m n cap : Nat) (cur : Array Value) (w : World) (h : Bf w b (.slice (some ⟨r, 0, none⟩) m cap)) (hr : w.heap[r]? = some (.cells cur 5 (0, 0))) (hcs : cur.size = cap) (hm1 : 1 ≤ m) (hm : m ≤ cap) (hn1 : 1 ≤ n) (hn : cap < m + n) (hl : m + n ≤ 1000000000) (h1 : ∀ v ∈ cur.toList.take m, v.oneCell' = true) :
    Calls Tryd.prog 63 #[.pointer (some ⟨b, 0, none⟩), .int .i64 n] w (GrownSaid b m n (cur.toList.take m) w) := by
  have q22 : ∀ (w : World) (a : Option Addr) (n c n' c' : Nat), (binOp .eql 27 (.slice a n c) (.slice none n' c')).run Tryd.prog w = .ok (.bool a.isNone) w := fun w a n c n' c' => Lib.run_eql_slice_nil w _ _ a n c n' c' Tryd.underlying27
  have HLen := Lib.hid (len_any b m cap _ w h (by omega))
  have H := Lib.hid h
  have HR := Lib.hid hr
  have HG := Lib.hid hG
  have H1 := Lib.hid h1
  have HCs := Lib.hid hcs
  clear h hr hG h1 hcs
  go_enter Tryd.func63, Tryd.ntmps63
  go_wp2_with fail
  refine HLen.out.mono ?_
  rintro e w1 ⟨rfl, z, rfl⟩
  have H2 := Lib.hid (H.out.of_block (w' := w.drewN z) rfl)
  have HT := Lib.hid (tryNone_any b r m n cap (w.drewN z) H2.out hn hm (by unfold maxLen; omega) (by omega))
  have hm0 : ¬ m = 0 := by omega
  clear HLen
  go_wp2_with fail
  refine HT.out.mono ?_
  rintro e w2 ⟨rfl, rfl⟩
  have c0 := H.out.c0
  have c1 := H.out.c1
  have f0 := H.out.froz 0
  have f1 := H.out.froz 1
  have HGr := Lib.hid (fun (W : World) (hW : W.heap[r]? = w.heap[r]?) => HG.out.row r m cap n cur W (by rw [hW]; exact HR.out) HCs.out hm hn1 hl (by omega) H1.out)
  have HBl := Lib.hid H.out.lt
  have hwn : IntKind.i64.wrap (n : Int) = n := by rw [IntKind.wrap_i64]; omega
  go_upto_region 15 with fail
  go_region_with (
    go_at_call 70
    refine (HGr.out _ ?_).mono ?_
    rfl
    rintro e w3 ⟨cap2, cells, rfl, h1', h2', h3', h4', h5', hb'⟩
    have hB3 : Bf w3 b (.slice (some ⟨r, 0, none⟩) m cap) := H.out.of_block (hb'.block b HBl.out)
    have k0 := hB3.c0
    have k1 := hB3.c1
    have g0 := hB3.froz 0
    have g1 := hB3.froz 1)
  all_goals
    have HB3 := Lib.hid hB3
    have H1' := Lib.hid h1'
    have H3' := Lib.hid h3'
    have H2' := Lib.hid h2'
    have Hb' := Lib.hid hb'
    have H4' := Lib.hid h4'
    have H5' := Lib.hid h5'
    have hm4 : m ≤ cap2 := by omega
    unfold maxLen at h5'
    clear hb' h1' h3' h2' hB3
    go_wp2_with fail
    go_ret
    have hNb : b ≠ w.heap.size := Nat.ne_of_lt HBl.out
    have hc3 : w3.heap[w.heap.size]? = some (.cells cells 5 (0, 0)) := H1'.out
    refine ⟨rfl, cap2, cells, ((HB3.out.set0 _).set1).set0 _, ?_, H2'.out, H3'.out, H4'.out, H5'.out, ?_, ?_⟩
    · rw [heap_far _ _ _ _ hNb, heap_far _ _ _ _ hNb, heap_far _ _ _ _ hNb]
      exact hc3
    · have hb0 : But (fun k => k = b) w w3 := ⟨Hb'.out.os, Hb'.out.tape, Hb'.out.output, Hb'.out.size, fun k hk _ => Hb'.out.block k hk⟩
      exact ((hb0.set ⟨b, 0, none⟩ _ rfl).set ⟨b, 1, none⟩ _ rfl).set ⟨b, 0, none⟩ _ rfl
    · have := (Array.getElem?_eq_some_iff.1 hc3).1
      simpa using this

theorem Tryd.infoU5 : (Tryd.prog.info? 5).map (fun i => (i.zero, i.size, i.bytes)) = some (some (.int .u8 0), 1, 1) := by kernel_rfl
theorem make64 (n : Nat) (hn : n ≤ 64) (w : World) : (Instr.makeSlice 27 (.int .i64 (n : Int)) (.int .i64 64)).run Tryd.prog w = .ok (.slice (some ⟨w.heap.size, 0, none⟩) n 64) (w.alloc (.cells (madeCells #[.int .u8 0] 64) 5)) := by
  obtain ⟨i0, hi, hz0, hz1, hz2⟩ := info_parts Tryd.infoU5
  have hr := run_make (P := Tryd.prog) w 27 5 i0 (.int .u8 0) Tryd.underlying27 hi hz0 .i64 .i64 n 64 (by omega) (by omega) (by rw [hz2]; omega) (by omega)
  rw [hz1, show (Value.int .u8 0).cells = #[.int .u8 0] from rfl] at hr
  simpa using hr
set_option maxHeartbeats 1000000 in
set_option maxRecDepth 100000 in
theorem growSmall_any (b n : Nat) (w : World) (h : Bf w b (.slice none 0 0)) (hn1 : 1 ≤ n) (hn : n ≤ 64) :
    Calls Tryd.prog 63 #[.pointer (some ⟨b, 0, none⟩), .int .i64 n] w (GrownSaid b 0 n [] w) := by
  have q22 : ∀ (w : World) (a : Option Addr) (n c n' c' : Nat), (binOp .eql 27 (.slice a n c) (.slice none n' c')).run Tryd.prog w = .ok (.bool a.isNone) w := fun w a n c n' c' => Lib.run_eql_slice_nil w _ _ a n c n' c' Tryd.underlying27
  have hmk := make64 n hn
  have HLen := Lib.hid (len_any b 0 0 _ w h (by omega))
  have H := Lib.hid h
  have c1 := h.c1
  clear h
  go_enter Tryd.func63, Tryd.ntmps63
  go_wp2_with fail
  refine HLen.out.mono ?_
  rintro e w1 ⟨rfl, z, rfl⟩
  have H2 := Lib.hid (H.out.of_block (w' := w.drewN z) rfl)
  have HT := Lib.hid (tryNil_any b n (w.drewN z) H2.out hn1 (by omega))
  clear HLen
  go_wp2_with fail
  refine HT.out.mono ?_
  rintro e w2 ⟨rfl, rfl⟩
  have c0 := H.out.c0
  have f0 := H.out.froz 0
  have H3 : Bf ((w.drewN z).alloc (.cells (madeCells #[.int .u8 0] 64) 5)) b (.slice none 0 0) := H2.out.of_block (Below.heap_alloc _ _ _ H2.out.lt)
  have k0 := H3.c0
  have g0 := H3.froz 0
  have HB3 := Lib.hid H3
  clear HT H3
  go_wp2_with fail
  go_ret
  have hNb : b ≠ w.heap.size := Nat.ne_of_lt H.out.lt
  refine ⟨rfl, 64, madeCells #[.int .u8 0] 64, by rw [Nat.zero_add]; exact HB3.out.set0 _, ?_, size_madeCells _ _, rfl, by omega, by unfold maxLen; omega, ?_, ?_⟩
  · rw [heap_far _ _ _ _ hNb]
    show (w.heap.push _)[w.heap.size]? = _
    simp
  · have hb0 : But (fun k => k = b) w ((w.drewN z).alloc (.cells (madeCells #[.int .u8 0] 64) 5)) := (But.refl (fun k => k = b) w).below ((Below.drewN (Below.refl w.heap.size w) z).alloc (Nat.le_refl _) _)
    exact hb0.set ⟨b, 0, none⟩ _ rfl
  · simp

set_option maxHeartbeats 2000000 in
set_option maxRecDepth 100000 in
theorem growBig_any (hG : GrowOk) (b n : Nat) (w : World) (h : Bf w b (.slice none 0 0)) (hn1 : 64 < n) (hn : n ≤ 1000000000) :
    Calls Tryd.prog 63 #[.pointer (some ⟨b, 0, none⟩), .int .i64 n] w (GrownSaid b 0 n [] w) := by
  have q22 : ∀ (w : World) (a : Option Addr) (n c n' c' : Nat), (binOp .eql 27 (.slice a n c) (.slice none n' c')).run Tryd.prog w = .ok (.bool a.isNone) w := fun w a n c n' c' => Lib.run_eql_slice_nil w _ _ a n c n' c' Tryd.underlying27
  have HLen := Lib.hid (len_any b 0 0 _ w h (by omega))
  have H := Lib.hid h
  have HG := Lib.hid hG
  have c1 := h.c1
  clear h hG
  go_enter Tryd.func63, Tryd.ntmps63
  go_wp2_with fail
  refine HLen.out.mono ?_
  rintro e w1 ⟨rfl, z, rfl⟩
  have H2 := Lib.hid (H.out.of_block (w' := w.drewN z) rfl)
  have HT := Lib.hid (tryNil_any b n (w.drewN z) H2.out (by omega) (by omega))
  clear HLen
  go_wp2_with fail
  refine HT.out.mono ?_
  rintro e w2 ⟨rfl, rfl⟩
  have c0 := H.out.c0
  have f0 := H.out.froz 0
  have f1 := H.out.froz 1
  have HGr := Lib.hid (fun (W : World) => HG.out.nil n W (by omega) hn)
  have HBl := Lib.hid H.out.lt
  have hwn : IntKind.i64.wrap (n : Int) = n := by rw [IntKind.wrap_i64]; omega
  go_upto_region 15 with fail
  go_region_with (
    go_at_call 70
    refine (HGr.out _).mono ?_
    rintro e w3 ⟨cap2, cells, rfl, h1', h2', h4', h5', hb'⟩
    have hB3 : Bf w3 b (.slice none 0 0) := H.out.of_block (hb'.block b HBl.out)
    have k0 := hB3.c0
    have k1 := hB3.c1
    have g0 := hB3.froz 0
    have g1 := hB3.froz 1)
  all_goals
    have HB3 := Lib.hid hB3
    have H1' := Lib.hid h1'
    have H2' := Lib.hid h2'
    have Hb' := Lib.hid hb'
    have H4' := Lib.hid h4'
    have H5' := Lib.hid h5'
    unfold maxLen at h5'
    clear hb' h1' h2' hB3
    go_wp2_with fail
    go_ret
    have hNb : b ≠ w.heap.size := Nat.ne_of_lt HBl.out
    have hc3 : w3.heap[w.heap.size]? = some (.cells cells 5 (0, 0)) := H1'.out
    have hz : ∀ m : Nat, Value.slice (some ⟨w.heap.size, 0, none⟩) (0 + n) m = .slice (some ⟨w.heap.size, 0, none⟩) n m := fun m => by rw [Nat.zero_add]
    refine ⟨rfl, cap2, cells, ?_, ?_, H2'.out, rfl, by have := H4'.out; omega, H5'.out, ?_, ?_⟩
    · rw [hz]
      exact ((HB3.out.set0 _).set1).set0 _
    · rw [heap_far _ _ _ _ hNb, heap_far _ _ _ _ hNb, heap_far _ _ _ _ hNb]
      exact hc3
    · have hb0 : But (fun k => k = b) w w3 := ⟨Hb'.out.os, Hb'.out.tape, Hb'.out.output, Hb'.out.size, fun k hk _ => Hb'.out.block k hk⟩
      exact ((hb0.set ⟨b, 0, none⟩ _ rfl).set ⟨b, 1, none⟩ _ rfl).set ⟨b, 0, none⟩ _ rfl
    · have := (Array.getElem?_eq_some_iff.1 hc3).1
      simpa using this

end Go.Proofs.YtnkjnlmghnomiaaDoor
