/- Ids: a row of ids; impl.UniqueIDs walked. Condition: at most 40 ids of at most 40 bytes. -/
import Derived.Test.YtnkjnlmghnomiaaDoorUniC
namespace Go.Proofs.YtnkjnlmghnomiaaDoor
open Go.ChangeShapes Go.WideShapes Go.ChangeAt Go.RowKit Go.Maps Go.WideMaps

/-- the slice (p, n) reads as the strings S 0 .. S (n - 1) -/
structure Strs (w : World) (p : Option Addr) (n : Nat) (S : Nat → ByteArray) : Prop where
  cells : 0 < n → ∃ b o, p = some ⟨b, o, none⟩ ∧ b < w.heap.size ∧ ∀ i, i < n → w.cell? ⟨b, o + i, none⟩ = some (.string (S i))
def strs (S : Nat → ByteArray) (n : Nat) : List Value := (List.range n).map fun i => Value.string (S i)
theorem strs_len (S : Nat → ByteArray) (n : Nat) : (strs S n).length = n := by simp [strs]
theorem strs_get (S : Nat → ByteArray) (n i : Nat) (h : i < n) : (strs S n)[i]? = some (.string (S i)) := by simp [strs, h]
theorem strs_one (S : Nat → ByteArray) (n : Nat) : ∀ u ∈ strs S n, u.oneCell' = true := by
  intro u hu
  obtain ⟨x, _, rfl⟩ := List.mem_map.1 hu
  rfl
theorem strs_snoc (S T : Nat → ByteArray) (n : Nat) (h : ∀ i, i < n → T i = S i) : strs T (n + 1) = strs S n ++ [.string (T n)] := by
  unfold strs
  rw [List.range_succ, List.map_append]
  congr 1
  exact List.map_congr_left fun i hi => by rw [h i (List.mem_range.1 hi)]
theorem Strs.below {w w' : World} {B : Nat} {p : Option Addr} {n : Nat} {S : Nat → ByteArray} (h : Strs w p n S) (hb : Below B w w') (hB : w.heap.size ≤ B) : Strs w' p n S := by
  refine ⟨fun hn => ?_⟩
  obtain ⟨b, o, hp, hlt, hc⟩ := h.cells hn
  refine ⟨b, o, hp, Nat.lt_of_lt_of_le hlt hb.size, fun i hi => ?_⟩
  rw [hb.cell (p := ⟨b, o + i, none⟩) (by show b < B; omega)]
  exact hc i hi
theorem Strs.own {w : World} {B : Nat} {v : Value} {n : Nat} {S : Nat → ByteArray} (h : w.ownsRow B 9 1 v n (strs S n)) : ∃ p c, v = .slice p n c ∧ n ≤ c ∧ c ≤ maxLen ∧ Strs w p n S := by
  have h' := h
  rcases h.2 with ⟨hv, h0⟩ | ⟨g, cap, cur, hv, hB, hg, hn, hcm, _, _⟩
  · exact ⟨none, 0, by rw [hv, h0], by omega, Nat.zero_le _, ⟨fun hp => by omega⟩⟩
  · refine ⟨_, cap, hv, hn, hcm, ⟨fun hp => ⟨g, 0, rfl, (Array.getElem?_eq_some_iff.1 hg).1, fun i hi => ?_⟩⟩⟩
    have := h'.cells (g := g) (by rw [hv]; rfl) i _ (strs_get S n i hi)
    have hadd : (⟨g, 0, none⟩ : Addr).add i = ⟨g, i, none⟩ := by unfold Addr.add; split <;> simp_all
    rw [hadd] at this
    simpa using this

theorem Tryd.info9S : (Tryd.prog.info? 9).map (fun i => (i.zero, i.size, i.bytes)) = some (some (.string ⟨#[]⟩), 1, 16) := by kernel_rfl

theorem Runs.congr {ids got got' : Nat → ByteArray} {n : Nat} {f : Ids} (h : Runs ids got n f) (he : ∀ i, i < n → got' i = got i) : Runs ids got' n f := by
  refine ⟨fun x => ?_, fun i hi => ?_, fun i k hi hk e => ?_, fun i hi hall => ?_⟩
  · rw [h.keys]
    constructor
    · rintro ⟨k, hk, e⟩; exact ⟨k, hk, by rw [he k hk]; exact e⟩
    · rintro ⟨k, hk, e⟩; exact ⟨k, hk, by rw [← he k hk]; exact e⟩
  · rw [he i hi]; exact h.pre i hi
  · rw [he i hi, he k hk] at e; exact h.diff i k hi hk e
  · rw [he i hi]
    refine h.same i hi fun k hk => ?_
    rw [← he k (by omega)]
    exact hall k hk

theorem door_any (H m k M : Nat) (c : Int) (D : DataW Unit) (f : Ids) (s : ByteArray) (w : World) (hc : w.cell? ⟨H, 11, none⟩ = some (.map (some m))) (hHm : H ≠ m) (hown : ownsI w m k D) (hI : MapIs D f) (hg : Good f c M) (hs : s.size ≤ M) (hc0 : 0 ≤ c) (hc1 : c ≤ 90) (hM : M ≤ 100000) (hk : k ≤ 100000) :
    Calls Tryd.prog 24 #[.pointer (some ⟨H, 0, none⟩), .string s] w (UniqueSaid m k M c f s w) := by
  have HE := Lib.hid (ensure_any H m k M c D f s w hc hHm hown hI hg hs hc0 hc1 hM hk)
  clear hc hHm hown hI hg
  go_enter Tryd.func24, Tryd.ntmps24
  go_wp2_with fail
  refine HE.out.mono ?_
  rintro e w1 ⟨t, f', D', rfl, h⟩
  have HH := Lib.hid h
  clear h
  go_wp2_with fail
  go_ret
  exact ⟨t, f', D', rfl, HH.out⟩

/-- the ids were made unique -/
def MadeUnique (S : Nat → ByteArray) (n : Nat) (w : World) (e : Ending) (w' : World) : Prop :=
  ∃ (p : Option Addr) (c : Nat) (got : Nat → ByteArray) (f : Ids), e = .returned (.slice p n c) ∧ n ≤ c ∧ c ≤ maxLen ∧ Strs w' p n got ∧ Runs S got n f ∧ (∀ i, i < n → (got i).size ≤ 240) ∧ Below w.heap.size w w'

/-- where the loop stands -/
structure UR (S : Nat → ByteArray) (B H m : Nat) (w : World) (k : Nat) (v : Value) (wr : World) : Prop where
  row : ∃ (got : Nat → ByteArray) (f : Ids) (D : DataW Unit), wr.ownsRow B 9 1 v k (strs got k) ∧ Runs S got k f ∧ MapIs D f ∧ Good f (k : Int) (40 + 5 * k) ∧ ownsI wr m (2 * k) D
  below : Below w.heap.size w wr
  size : B ≤ wr.heap.size
  cell : wr.cell? ⟨H, 11, none⟩ = some (.map (some m))

set_option maxHeartbeats 4000000 in
set_option maxRecDepth 100000 in
theorem uniqueIDs_any (p : Option Addr) (n c : Nat) (S : Nat → ByteArray) (w : World) (h : Strs w p n S) (hn : n ≤ 40) (hs : ∀ i, i < n → (S i).size ≤ 40) :
    Calls Tryd.prog 13 #[.slice p n c] w (MadeUnique S n w) := by
  have HR := Lib.hid (newR_any w)
  have HS := Lib.hid h
  have HZ := Lib.hid hs
  clear h hs
  obtain ⟨i0, hi, hz0, hz1, hz2⟩ := info_parts Tryd.info9S
  go_enter Tryd.func13, Tryd.ntmps13
  go_wp2_with fail
  refine HR.out.mono ?_
  rintro e w1 ⟨H, m, rfl, hH, hm, hHm, hcell, hmap, hHs, hbel⟩
  have HH := Lib.hid hH
  have Hm := Lib.hid hm
  have HHm := Lib.hid hHm
  have HC := Lib.hid hcell
  have HM := Lib.hid hmap
  have HHs := Lib.hid hHs
  have HB := Lib.hid hbel
  have hms : m < w1.heap.size := (Array.getElem?_eq_some_iff.1 hmap).1
  have HMs := Lib.hid hms
  clear hH hm hHm hcell hmap hHs hbel hms HR
  go_wp2_with fail
  go_loopw [11, 4] (fun t v wr => ∃ k : Nat, k ≤ n ∧ t = .int .i64 k ∧ UR S w1.heap.size H m w k v wr) (fun t _ _ => n - (intOf t).toNat)
  case atStart =>
    refine ⟨0, Nat.zero_le _, rfl, ⟨fun _ => ⟨#[]⟩, fun _ => none, .map [], World.ownsRow_nil _ _ _ _, Runs.start _ _, MapIs.empty, Good.empty.mono (Int.le_refl _) (by omega), ?_⟩, HB.out, Nat.le_refl _, HC.out⟩
    exact ⟨#[], 0, HM.out, ⟨by simp, MapKept.stamped_empty 0, by simp⟩, Nat.le_refl _, rfl⟩
  case round =>
    obtain ⟨k, hk, rfl, hur⟩ := hrel
    obtain ⟨⟨got, f, D, hrow, hruns, hI, hG, hown⟩, hbel, hsz, hcell⟩ := hur
    have HRow := Lib.hid hrow
    have HRuns := Lib.hid hruns
    have HI := Lib.hid hI
    have HG := Lib.hid hG
    have HOwn := Lib.hid hown
    have HBel := Lib.hid hbel
    have HSz := Lib.hid hsz
    have HC := Lib.hid hcell
    clear hrow hruns hI hG hown hbel hsz hcell
    by_cases hlt : k < n
    · obtain ⟨b, o, hp, hbl, hcl⟩ := HS.out.cells (by omega)
      subst hp
      have hck : wr.cell? ⟨b, o + k, none⟩ = some (.string (S k)) := (HBel.out.cell (p := ⟨b, o + k, none⟩) hbl).trans (hcl k hlt)
      have HE := Lib.hid (door_any H m (2 * k) (40 + 5 * k) k D f (S k) wr HC.out HHm.out HOwn.out HI.out HG.out (by have := HZ.out k hlt; omega) (by omega) (by omega) (by omega) (by omega))
      clear hcl
      go_wp2_with fail
      refine HE.out.mono ?_
      rintro e w2 ⟨t, f', D', rfl, hmade, hI2, hG2, hown2, hgrow⟩
      have HMade := Lib.hid hmade
      have HI2 := Lib.hid hI2
      have HG2 := Lib.hid hG2
      have HOwn2 := Lib.hid hown2
      have HGrow := Lib.hid hgrow
      have hrow2 : w2.ownsRow w1.heap.size 9 1 _ k (strs got k) := World.ownsRow.kept HRow.out hgrow (by
        right
        intro e
        have := (HRow.out.lt m e).1
        have := HMs.out
        omega)
      have HRow2 := Lib.hid hrow2
      have HS2 := Lib.hid hgrow.size
      clear hmade hI2 hG2 hown2 hgrow hrow2 HE
      go_wp2_with (at_builtin; refine wpList_append_own _ rfl _ _ 33 rfl w1.heap.size 9 i0 (.string ⟨#[]⟩) 1 16 Tryd.underlying33 hi hz0 hz1 hz2 rfl (by decide) _ k (strs got k) rfl (World.ownsRow.alloc HRow2.out _) ⟨w2.heap.size, 0, none⟩ 1 1 [.string t] rfl rfl ?qc2 ?qc3 ?qc4 ?qc5 ?qc6 ?_)
      case qc2 =>
        intro j y hj
        match j with
        | 0 =>
          simp at hj
          subst hj
          simp [Addr.add, World.cell?_alloc_new]
        | j + 1 => simp at hj
      case qc3 =>
        intro y hy
        simp at hy
        subst hy
        rfl
      case qc4 => unfold maxLen; omega
      case qc5 => omega
      case qc6 => have := HSz.out; have := HS2.out; simp; omega
      intro v' w3 hown3 hgrow3 hnil
      have HO3 := Lib.hid hown3
      have HG3 := Lib.hid hgrow3
      clear hown3 hgrow3 hnil
      go_wp2_with fail
      go_roundw
      case rel =>
        have hne : ∀ x, x < w1.heap.size → some x ≠ Value.ownBlock _ := fun x hx e => by
          have := (HRow.out.lt x e.symm).1
          omega
        refine ⟨k + 1, by omega, by go_num, ⟨fun i => if i < k then got i else t, f', D', ?_, ?_, HI2.out, by simpa [Nat.mul_add, Nat.add_assoc] using HG2.out, ?_⟩, ?_, ?_, ?_⟩
        · rw [strs_snoc got _ k (fun i hi => by simp [hi])]
          simpa using HO3.out
        · refine (HRuns.out.congr (fun i hi => by simp [hi])).step ?_
          simpa using HMade.out
        · exact World.ownsMap.kept (World.ownsMap.alloc HOwn2.out _) HG3.out (hne m HMs.out)
        · refine ((HBel.out.grown HGrow.out HBel.out.size (fun x hx => by cases hx; exact Hm.out)).alloc ?_ _).grown HG3.out ?_ (fun x hx => ?_)
          · have := HBel.out.size; have := HS2.out; omega
          · have := HBel.out.size; have := HS2.out; simp; omega
          · have := (HRow.out.lt x hx).1
            have := HB.out.size
            omega
        · have := HSz.out; have := HS2.out; have := HG3.out.size; simp at this; omega
        · have h1 : w2.cell? ⟨H, 11, none⟩ = some (.map (some m)) := HGrow.out.cell HC.out (by simpa using HHm.out)
          exact HG3.out.cell (Lib.cell?_alloc_some _ h1) (hne H HHs.out)
      case measure => simp [intOf]; omega
    · obtain rfl : k = n := by omega
      go_wp2_with fail
      go_ret
      obtain ⟨p', c', hv, hc1, hc2, hst⟩ := Strs.own HRow.out
      refine ⟨p', c', got, f, by rw [hv]; rfl, hc1, hc2, hst, HRuns.out, fun i hi => ?_, HBel.out⟩
      have := HG.out.len (got i) ((HRuns.out.keys _).2 ⟨i, hi, rfl⟩)
      omega

end Go.Proofs.YtnkjnlmghnomiaaDoor
