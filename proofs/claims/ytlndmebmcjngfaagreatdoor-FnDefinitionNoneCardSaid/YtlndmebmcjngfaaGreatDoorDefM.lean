/- Definitions: impl.Definition walked at a definition that is one; a byte appended to a converted text. Condition: lengths are bounded. -/
import Derived.Test.YtlndmebmcjngfaaGreatDoorDefC
import Derived.Test.YtlndmebmcjngfaaGreatDoorDefD
import Derived.Test.YtlndmebmcjngfaaGreatDoorDefK
import Derived.Test.YtlndmebmcjngfaaGreatDoorDefL
namespace Go.Proofs.YtlndmebmcjngfaaGreatDoor
open Go.ChangeShapes Go.WideShapes Go.ChangeAt Go.RowKit

theorem scan_any (v : Value) (p : Option Addr) (n c s e f : Nat) (l : List UInt8) (w : World) (h : Bs w p n l) (hD : DefT l s e f) (hT : TailL l f) (hn : n ≤ 1000000) :
    Calls Tryz.prog 46 #[v, .slice p n c, .int .i64 ((e + 3 : Nat) : Int)] w (ScanSaid (e + 3) f n w) := by
  have hp : ∀ j, e + 3 ≤ j → j < f → inkI (bat l j) = true := by
    intro j h1 h2
    by_cases e1 : j = e + 3
    · rw [e1, hD.slash]; rfl
    · exact low_ink (hD.path j (by omega) h2)
  rcases hT with hA | ⟨g, h1, hB⟩ | ⟨g, h1, h2, h3, hB⟩
  · exact scanA_any v p n c (e + 3) f l w h hD.slash hD.ef hp hA hn
  · exact scanB_any v p n c (e + 3) f g l w h hD.slash hD.ef hp h1 hB hn
  · exact scanC_any v p n c (e + 3) f g l w h hD.slash hD.ef hp h1 h2 h3 hB hn

theorem def_yes (ext : Int) (p : Option Addr) (n c s e f : Nat) (l : List UInt8) (w : World) (h : Bs w p n l) (hD : DefT l s e f) (hT : TailL l f) (hn : n ≤ 1000000) :
    Calls Tryz.prog 14 #[.int .i64 ext, .slice p n c] w (DefSaid (fun le => 0 < le) w) := by
  have hl := h.len
  have hlen := hD.len
  refine def_any ext p n c l w _ h (by omega) hn fun B r b o cc w0 wx hP hm hr hBr hrs hbr hBs hcc => ?_
  refine (read_yes B r b o n cc l wx hP.size hm hrs (by omega) ?_).mono fun e' w' ⟨le, h1, h2⟩ => ⟨le, by omega, h2⟩
  exact isRef_yes ext B r b o n cc s e f l wx hBs hD hP.ext hm hr (by omega) hbr hcc hn (scan_any _ _ n cc s e f l wx hBs hD hT hn)

/-- one byte is appended to a converted text -/
theorem app_conv {ops : Array Oper} {rest : List Oper} {o : Oper} {a : Act} {Q : Exit → Act → World → Prop} (hgd : o.guard = none) (s x : Operand)
    (ho : o.op = .call { callee := .builtin .append, args := #[s, x], argTypes := #[23, 23] }) (B g n cap : Nat) (l : List UInt8) {W : World} (hB : B ≤ g) (hs : a.eval s = .slice (some ⟨g, 0, none⟩) n cap)
    (hC : Conv W g n cap l) (u : Value) (c : UInt8) (hu : u = .int .u8 (c.toNat : Int)) (hx : a.eval x = .slice (some ⟨W.heap.size, 0, none⟩) 1 1) (hn : n ≤ 1000000) (h0 : 0 < n) (hBW : B ≤ W.heap.size)
    (h : ∀ p' c' w', Bs w' p' (n + 1) (l ++ [c]) → Below B W w' → wpList Tryz.prog ops Q rest (a.put o.dst (.slice p' (n + 1) c')) w') :
    wpList Tryz.prog ops Q (o :: rest) a (W.alloc (.cells #[u] 5)) := by
  have hl := hC.bs.len
  obtain ⟨g', o', e1, hgl, hcell⟩ := hC.bs.cells h0
  cases e1
  obtain ⟨i0, hi, hz0, hz1, hz2⟩ := info_parts Tryz.info5
  have hcell' : ∀ i, i < n → W.cell? ⟨g, i, none⟩ = some (.int .u8 (bat l i)) := fun i hi => by have := hcell i hi; rwa [Nat.zero_add] at this
  refine wpList_append_arg _ hgd s x 23 ho 5 i0 (.int .u8 0) 1 1 Tryz.underlying23 hi hz0 hz1 hz2 rfl (by decide) g 0 n cap (vals l) hs (by rw [vals_length, hl, Nat.mul_one]) ?_ ⟨W.heap.size, 0, none⟩ 1 1 [u] hx rfl ?_ ?_ ?_ (by unfold maxLen; omega) (by omega) ?_ ?_
  · intro j v hj
    have hjl : j < l.length := by have := (List.getElem?_eq_some_iff.1 hj).1; rwa [vals_length] at this
    rw [vals_get l j hjl] at hj
    rw [← hj, Nat.zero_add]
    exact Lib.cell?_alloc_some _ (hcell' j (by omega))
  · intro j y hj
    match j with
    | 0 =>
      simp at hj
      subst hj
      simp [Addr.add, World.cell?_alloc_new]
    | j + 1 => simp at hj
  · intro y hy
    simp at hy
    subst hy
    rw [hu]
    rfl
  · intro hroom j hj
    have hj0 : j = 0 := by simpa using hj
    subst hj0
    obtain ⟨h1, h2⟩ := hC.spare n (Nat.le_refl _) (by omega)
    have hlt : g ≠ W.heap.size := by omega
    simp only [Nat.zero_add, Nat.mul_one, Nat.add_zero]
    refine ⟨?_, ?_⟩
    · obtain ⟨v, hv⟩ := Option.isSome_iff_exists.1 h1
      rw [Lib.cell?_alloc_some _ hv]
      rfl
    · rw [← h2]
      simp [World.frozen?, World.alloc, Array.getElem?_push, hlt, -World.alloc_eq]
  · intro hroom
    have hset : (W.alloc (.cells #[u] 5)).setCells g (0 + n * 1) [u] = (W.alloc (.cells #[u] 5)).setCell ⟨g, n, none⟩ u := by
      simp [World.setCells]
    rw [hset]
    obtain ⟨v, hv⟩ := Option.isSome_iff_exists.1 (hC.spare n (Nat.le_refl _) (by omega)).1
    refine h _ _ _ ⟨by rw [List.length_append, hl]; rfl, fun _ => ⟨g, 0, rfl, by simp; omega, fun i hi => ?_⟩⟩ (((Below.refl B W).alloc hBW _).setCell hB _)
    rw [Nat.zero_add]
    by_cases e : i = n
    · subst e
      rw [World.cell?_setCell_same _ _ _ (Lib.cell?_alloc_some _ hv), hu]
      have e2 : bat (l ++ [c]) i = (c.toNat : Int) := by unfold bat; simp [← hl]
      rw [e2]
    · have hne : (⟨g, n, none⟩ : Addr) ≠ ⟨g, i, none⟩ := by intro h; cases h; exact e rfl
      rw [World.cell?_setCell_other (w := W.alloc (.cells #[u] 5)) (v := u) _ _ hne, Lib.cell?_alloc_some _ (hcell' i (by omega))]
      have e2 : bat (l ++ [c]) i = bat l i := by unfold bat; simp only [List.getD, List.getElem?_append_left (show i < l.length by omega)]
      rw [e2]
  · intro _ v' w' hown hg
    have hO : Owns w' (W.alloc (.cells #[u] 5)).heap.size v' (l ++ [c]) := by
      unfold Owns
      rw [vals_append, List.length_append, hl, ← (show [u] = vals [c] by rw [hu]; rfl)]
      exact hown
    obtain ⟨p', c', hv, _, _, hbs⟩ := hO.bs
    have hlen : (l ++ [c]).length = n + 1 := by rw [List.length_append, hl]; rfl
    rw [hlen] at hv hbs
    rw [hv]
    exact h p' c' w' hbs (((Below.refl B W).alloc hBW _).grown hg (by simp; omega) (fun k hk => by cases hk))

end Go.Proofs.YtlndmebmcjngfaaGreatDoor
