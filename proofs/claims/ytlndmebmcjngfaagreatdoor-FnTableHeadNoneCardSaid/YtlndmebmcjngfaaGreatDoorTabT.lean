/- Tables: impl.TableHead at a head that is one, at one with fewer columns below, at a line without a bar. Condition: lengths are bounded. -/
import Derived.Test.YtlndmebmcjngfaaGreatDoorTabP
import Derived.Test.YtlndmebmcjngfaaGreatDoorTabR
import Derived.Test.YtlndmebmcjngfaaGreatDoorTabS
import Derived.Test.YtlndmebmcjngfaaGreatDoorTabC
namespace Go.Proofs.YtlndmebmcjngfaaGreatDoor
open Go.ChangeShapes Go.WideShapes Go.ChangeAt Go.RowKit

theorem colOk_of {al hl : List UInt8} {m : Nat} (h : ColsOk al hl m) : ∀ c ∈ colsOf al hl m, ColOk c := by
  intro c hc
  obtain ⟨i, hi, rfl⟩ := List.mem_map.1 hc
  have hi := List.mem_range.1 hi
  have h1 := h.h1 i hi
  have h2 := h.sum i hi
  have h3 := h.a3 i hi
  have h0 := bat_nonneg al i
  refine ⟨?_, ?_⟩
  · show 1 ≤ (bat hl i).toNat
    omega
  · unfold cw ca cz
    show 3 ≤ (if bat al i % 2 = 1 then 1 else 0) + (bat hl i).toNat + (if 2 ≤ bat al i then 1 else 0)
    split <;> split <;> omega

def PosI (pos : Bool) (s : Int) : Prop := if pos then 0 < s else s = 0
theorem headL_len {S : Nat → ByteArray} {n m : Nat} {al hl : List UInt8} {bg en : Bool} (hn : n ≤ 8) (hs : ∀ i, i < n → (S i).size ≤ 60) (hok : ColsOk al hl m) : (headL S n al hl m bg en).length ≤ 2000 := by
  have h1 := joinS_le S [32, 124, 32] 60 n hs
  have h1' : (joinS S [32, 124, 32] n).length ≤ 8 * 63 := Nat.le_trans h1 (Nat.mul_le_mul hn (by simp))
  have h2 := belowK_le (en := en) hok m (Nat.le_refl _)
  have h3 := hok.m8
  have h4 : belowK en al hl m m = belowF en (colsOf al hl m) := by unfold belowK; rw [if_pos rfl]
  rw [h4] at h2
  unfold headL overL lowerL
  simp only [List.length_append, List.length_cons, List.length_nil]
  split <;> split <;> simp <;> omega

theorem head_said (pos : Bool) (v : Value) (B0 : Nat) (S : Nat → ByteArray) (n m : Nat) (al hl : List UInt8) (bg en : Bool) (w : World) (hO : Owns w B0 v (headL S n al hl m bg en ++ [10])) (hn2 : 2 ≤ n) (hn : n ≤ 8) (hs : ∀ i, i < n → (S i).size ≤ 60)
    (hdoc : ∀ i, i < n → docL (S i).data.toList = true) (hok : ColsOk al hl m) (hm : m + (if pos then 0 else 1) = n) :
    Calls Tryz.prog 7 #[v] w (TableSaid (PosI pos) w) := by
  obtain ⟨p, c, rfl, _, _, hbs⟩ := hO.bs
  have hlen := headL_len (bg := bg) (en := en) hn hs hok
  have hm0 : 0 < m := by
    have : (if pos then 0 else 1) ≤ 1 := by split <;> omega
    omega
  have hH := head_of (l := headL S n al hl m bg en ++ [10]) (t := [10]) (S := S) (n := n) (m := m) (al := al) (hl := hl) (bg := bg) (en := en) (by simp [headL]) (by simp) hn2 hm0 (fun i hi => wordAll_of (hdoc i hi)) hok.h1
  have hl2 : (headL S n al hl m bg en ++ [10]).length ≤ 2001 := by rw [List.length_append]; simpa using hlen
  refine tableHead_any p _ c _ w _ hbs (by rw [List.length_append]; simp) (by omega) (fun B nd b o cc wx hT hD hBn hB hb1 hb2 hc1 hc2 => ?_)
  refine dHeader_any _ _ _ _ (fun e w' h => ?_) ((header_any pos B nd b o _ cc n _ bg en _ _ wx hT hD hBn hB hH hb1 hb2 (by omega) hc1 hc2 hn (colOk_of hok) (by rw [colsOf_len]; exact hm)).mono fun e w' ⟨s, cb, N, h1, h2, h3, h4, h5, h6⟩ => ⟨s, _, h1, h2, Or.inr ⟨cb, N, rfl, h3, h5⟩, h6⟩)
  obtain ⟨s, v, h1, _⟩ := h
  exact ⟨_, _, h1⟩

theorem plain_said (v : Value) (B0 L : Nat) (l : List UInt8) (w : World) (hO : Owns w B0 v l) (hN : NoBar l L) (hn : l.length ≤ 1000000) :
    Calls Tryz.prog 7 #[v] w (TableSaid (PosI false) w) := by
  obtain ⟨p, c, rfl, _, _, hbs⟩ := hO.bs
  have h0 : L < l.length := bat_is hN.nl (by decide)
  refine tableHead_any p _ c _ w _ hbs (by omega) hn (fun B nd b o cc wx hT hD hBn hB hb1 hb2 hc1 hc2 => ?_)
  refine dHeader_any _ _ _ _ (fun e w' h => ?_) ((headerNone_any _ b o _ cc L _ wx hB hN hn).mono fun e w' ⟨h1, h2⟩ => ⟨0, _, h1, rfl, Or.inl rfl, by rw [← h2]; exact But.refl _ _⟩)
  obtain ⟨s, v, h1, _⟩ := h
  exact ⟨_, _, h1⟩
/-- a name and a line of hyphens -/
theorem noBar_of {s r : List UInt8} (h : docL s = true) : NoBar (s ++ 10 :: r) s.length := by
  have hw := wordAll_of h
  obtain ⟨p, d⟩ := at_app wordI (l := s ++ 10 :: r) (i := 0) (a := s) rfl hw.2
  rw [Nat.zero_add] at p d
  refine ⟨fun j hj => ?_, (at_cons d).2.1⟩
  have := p j (Nat.zero_le _) hj
  exact ⟨word_ne this rfl, word_ne this rfl⟩

/-- one element left out -/
def cut1 (l : List UInt8) (k : Nat) : List UInt8 := l.take k ++ l.drop (k + 1)
theorem cut1_len {l : List UInt8} {k m : Nat} (h : l.length = m + 1) (hk : k ≤ m) : (cut1 l k).length = m := by
  unfold cut1
  rw [List.length_append, List.length_take, List.length_drop]
  omega
theorem cut1_bat {l : List UInt8} {k m i : Nat} (h : l.length = m + 1) (hk : k ≤ m) : bat (cut1 l k) i = bat l (if i < k then i else i + 1) := by
  unfold cut1 bat
  have hl : (l.take k).length = k := by rw [List.length_take]; omega
  simp only [List.getD, List.getElem?_append, hl]
  by_cases e : i < k
  · rw [if_pos e, if_pos e, List.getElem?_take, if_pos e]
  · rw [if_neg e, if_neg e, List.getElem?_drop, show k + 1 + (i - k) = i + 1 by omega]
theorem cut1_ok {al hl : List UInt8} {k m : Nat} (h : ColsOk al hl (m + 1)) (ha : al.length = m + 1) (hh : hl.length = m + 1) (hk : k ≤ m) : ColsOk (cut1 al k) (cut1 hl k) m := by
  have e1 := fun i => cut1_bat (i := i) ha hk
  have e2 := fun i => cut1_bat (i := i) hh hk
  have hi : ∀ i, i < m → (if i < k then i else i + 1) < m + 1 := fun i hi => by split <;> omega
  refine ⟨by have := h.m8; omega, fun i hm => ?_, fun i hm => ?_, fun i hm => ?_, fun i hm => ?_⟩
  · rw [e2]; exact h.h20 _ (hi i hm)
  · rw [e2]; exact h.h1 _ (hi i hm)
  · rw [e1]; exact h.a3 _ (hi i hm)
  · rw [e1, e2]; exact h.sum _ (hi i hm)

end Go.Proofs.YtlndmebmcjngfaaGreatDoor
