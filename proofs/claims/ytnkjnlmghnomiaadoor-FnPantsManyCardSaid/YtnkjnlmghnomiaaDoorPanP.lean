/- Smart punctuation: impl.Pants walked. Condition: lengths are bounded. -/
import Derived.Test.YtnkjnlmghnomiaaDoorPanO
import Derived.Test.YtnkjnlmghnomiaaDoorOwn
namespace Go.Proofs.YtnkjnlmghnomiaaDoor
open Go.ChangeShapes Go.WideShapes Go.ChangeAt Go.RowKit

/-- what the closure captured stands, whatever the buffer b and the renderer B have turned to -/
theorem Amp.but {F : Cfg} {B b : Nat} {va : Value} {w w' : World} (h : Amp F B va w) (hb : BufAt w b none []) (hw : But (fun k => k = b ∨ k = B) w w') : Amp F B va w' := by
  obtain ⟨x, y, z, h0, h1, h2, h3, h4, h5, h6, h7, h8, h9⟩ := h.val
  have hc : w.cell? ⟨b, 0, none⟩ = some (.slice none 0 0) := by
    rcases hb with ⟨_, _, e⟩ | ⟨_, _, _, e, _⟩
    · exact e.c0
    · cases e
  have ne : ∀ k v, w.cell? ⟨k, 0, none⟩ = some v → v ≠ .slice none 0 0 → k ≠ b := fun k v e hv e2 => hv (by rw [e2, hc] at e; exact (Option.some.inj e).symm)
  have kc : ∀ k, k < w.heap.size → k ≠ B → k ≠ b → w'.cell? ⟨k, 0, none⟩ = w.cell? ⟨k, 0, none⟩ := fun k a e e2 => by simp [World.cell?, hw.block k a (by omega)]
  have hs := hw.size
  exact ⟨x, y, z, h0, by omega, by omega, by omega, h4, h5, h6, (kc x h1 h4 (ne x _ h7 (by simp))).trans h7, (kc y h2 h5 (ne y _ h8 (by simp))).trans h8, (kc z h3 h6 (ne z _ h9 (by simp))).trans h9⟩

/-- an owned text that is not empty: its row -/
theorem Owns.at {w : World} {B : Nat} {v : Value} {l : List UInt8} (h : Owns w B v l) (h0 : 0 < l.length) : ∃ g c, v = .slice (some ⟨g, 0, none⟩) l.length c ∧ B ≤ g ∧ l.length ≤ c ∧ c ≤ maxLen ∧ Bs w (some ⟨g, 0, none⟩) l.length l := by
  obtain ⟨p, c, hv, hc, hcm, hbs⟩ := h.bs
  have h' : w.ownsRow B 5 1 v l.length (vals l) := h
  rcases h'.2 with ⟨_, e⟩ | ⟨g, cap, cur, hv2, hB, _⟩
  · omega
  · rw [hv] at hv2
    injection hv2 with e1 e2 e3
    subst e1
    exact ⟨g, c, hv, hB, hc, hcm, hbs⟩

theorem But.toBelow {K : Nat → Prop} {a b : World} {B : Nat} (h : But K a b) (hB : B ≤ a.heap.size) (hK : ∀ k, k < B → ¬ K k) : Below B a b :=
  ⟨h.os, h.tape, h.output, h.size, fun k hk => h.block k (by omega) (hK k hk)⟩
theorem Owns.down {w : World} {B B' : Nat} {v : Value} {l : List UInt8} (h : Owns w B v l) (hB : B' ≤ B) : Owns w B' v l := by
  have h' : w.ownsRow B 5 1 v l.length (vals l) := h
  refine ⟨h'.1, ?_⟩
  rcases h'.2 with e | ⟨g, cap, cur, hv, hb, hr⟩
  · exact Or.inl e
  · exact Or.inr ⟨g, cap, cur, hv, by omega, hr⟩

/-- a renderer and an empty buffer: Process writes what the text becomes -/
theorem process_from (F : Cfg) (B : Nat) (va : Value) (b tb n c : Nat) (l o : List UInt8) (w : World) (hb : BufAt w b none []) (hr : Rd F B va w) (ha : Amp F B va w) (hbB : b ≠ B) (ht : Bs w (some ⟨tb, 0, none⟩) n l) (h1 : tb ≠ b) (h2 : tb ≠ B) (hP : PantAt F l 0 o) (hn0 : 0 < n) (hn : n ≤ 100000) (hnc : n ≤ c) (hcm : c ≤ maxLen) :
    Calls Tryd.prog 20 #[.pointer (some ⟨B, 0, none⟩), .iface 52 (.pointer (some ⟨b, 0, none⟩)), .slice (some ⟨tb, 0, none⟩) n c] w fun e w' => e = .returned (.tuple #[]) ∧ Cb F B va b w w' o :=
  process_any F B va b tb 0 n c l o w (Cb.start hb hr hbB) ht h1 h2 (fun _ hw => ha.but hb hw) hP hn0 hn hnc hcm

set_option maxHeartbeats 2000000 in
set_option maxRecDepth 100000 in
theorem pants_any (flags : Int) (p : Option Addr) (n c : Nat) (l o : List UInt8) (w : World) (h : Bs w p n l) (hn0 : 0 < n) (hn : n ≤ 100000) (hP : PantAt (cfgOf flags) l 0 o) :
    Calls Tryd.prog 9 #[.int .i64 flags, .slice p n c] w fun e w' => ∃ v', e = .returned v' ∧ Owns w' w.heap.size v' o ∧ Below w.heap.size w w' := by
  have hln := h.len
  have hol := hP.len
  obtain ⟨W1, hW1⟩ : ∃ W1, W1 = w.alloc (.cells #[.slice none 0 0, .int .i64 0, .int .i8 0] 47) := ⟨_, rfl⟩
  have hb1 : Below w.heap.size w W1 := by rw [hW1]; exact (Below.refl _ _).alloc (Nat.le_refl _) _
  have hf1 : BufAt W1 w.heap.size none [] := by rw [hW1]; exact fresh_buf w
  have hs1 : W1.heap.size = w.heap.size + 1 := by rw [hW1]; simp
  have H1 := Lib.hid hf1
  have HB1 := Lib.hid hb1
  have HT := Lib.hid (h.below hb1 (Nat.le_refl _))
  have HP := Lib.hid hP
  have HS1 := Lib.hid hs1
  have HL := Lib.hid (And.intro hln hol)
  clear h hP hf1 hb1 hln hol
  go_enter Tryd.func9, Tryd.ntmps9
  go_wp2_with fail
  rw [← hW1]
  clear hW1 hs1
  refine (newSP_any flags W1).mono ?_
  rintro e w2 ⟨va, rfl, hrow, hamp, hb2⟩
  have HRow := Lib.hid (Rd.new hrow)
  have HAmp := Lib.hid hamp
  have HB2 := Lib.hid hb2
  clear hrow hamp hb2
  go_wp2_with fail
  refine (own_any p n c l w2 (HT.out.below HB2.out (Nat.le_refl _)) (by omega)).mono ?_
  rintro e w3 ⟨v', rfl, hown, hb3⟩
  obtain ⟨g, c', rfl, hg, hc1, hc2, hbs⟩ := hown.at (by have := HL.out.1; omega)
  have hrlt := HRow.out.lt
  have hsz := HS1.out
  have hs3 := hb3.size
  have hlen := HL.out.1
  rw [hlen] at hc1 hbs
  have hpr := process_from (cfgOf flags) W1.heap.size va w.heap.size g n c' l o w3
    ((H1.out.of_block (HB2.out.block _ (by omega)) (fun _ e => by cases e)).of_block (hb3.block _ (by omega)) (fun _ e => by cases e))
    (HRow.out.of_block (hb3.block _ hrlt)) (HAmp.out.on hb3.size (fun k hk _ => hb3.block k hk)) (by omega) hbs (by omega) (by omega) HP.out hn0 hn hc1 hc2
  have HPr := Lib.hid hpr
  have HB3 := Lib.hid hb3
  clear hpr hown hbs hc1 hc2 hb3 hrlt hsz hs3
  rw [hlen]
  go_wp2_with fail
  refine HPr.out.mono ?_
  rintro e w4 ⟨rfl, hc4⟩
  obtain ⟨gg, hbuf, hnew⟩ := hc4.buf
  have HC4 := Lib.hid hc4.but
  have HBy := Lib.hid (bytes_any w.heap.size gg o w4 hbuf (by have := HL.out.2; omega))
  clear hc4 hbuf hnew
  go_wp2_with fail
  refine HBy.out.mono ?_
  rintro e w5 ⟨p5, c5, rfl, hb5, _, z, rfl⟩
  have HO := Lib.hid (own_any p5 o.length c5 o (w4.drewN z) (hb5.drewN z) (by have := HL.out.2; omega))
  clear hb5
  go_wp2_with fail
  refine HO.out.mono ?_
  rintro e w6 ⟨v6, rfl, hown6, hb6⟩
  have HO6 := Lib.hid hown6
  have HB6 := Lib.hid hb6
  clear hown6 hb6 HO HBy HPr
  go_wp2_with fail
  go_ret
  have hs1 := HS1.out
  have hs2 := HB2.out.size
  have hs3 := HB3.out.size
  have hs4 := HC4.out.size
  have hbel : Below w.heap.size w (w4.drewN z) :=
    Below.drewN (((HB1.out.trans (HB2.out.mono (by omega))).trans (HB3.out.mono (by omega))).trans (HC4.out.toBelow (by omega) (fun k hk => by omega))) z
  exact ⟨_, rfl, HO6.out.down hbel.size, hbel.trans (HB6.out.mono hbel.size)⟩

end Go.Proofs.YtnkjnlmghnomiaaDoor
