/- Tables: rows of strings; spec.joined, spec.DocText, isBackslashEscaped walked. Condition: lengths are bounded. -/
import Derived.Test.YtlndmebmcjngfaaGreatDoorDocA
import Derived.Lib.AppendStr
namespace Go.Proofs.YtlndmebmcjngfaaGreatDoor
open Go.ChangeShapes Go.WideShapes Go.ChangeAt Go.RowKit

/-- the slice (p, n) reads as the strings S 0 .. S (n - 1) -/
structure Strs (w : World) (p : Option Addr) (n : Nat) (S : Nat → ByteArray) : Prop where
  cells : 0 < n → ∃ b o, p = some ⟨b, o, none⟩ ∧ b < w.heap.size ∧ ∀ i, i < n → w.cell? ⟨b, o + i, none⟩ = some (.string (S i))
def strs (S : Nat → ByteArray) (n : Nat) : List Value := (List.range n).map fun i => Value.string (S i)
theorem strs_len (S : Nat → ByteArray) (n : Nat) : (strs S n).length = n := by simp [strs]
theorem strs_get (S : Nat → ByteArray) (n i : Nat) (h : i < n) : (strs S n)[i]? = some (.string (S i)) := by simp [strs, h]
theorem strs_one (S : Nat → ByteArray) (n : Nat) : ∀ u ∈ strs S n, u.oneCell' = true := by
  intro u hu
  obtain ⟨x, _, rfl⟩ := List.mem_map.1 hu
  rfl
theorem strs_snoc (S T : Nat → ByteArray) (n : Nat) (h : ∀ i, i < n → T i = S i) : strs T (n + 1) = strs S n ++ [.string (T n)] := by
  unfold strs
  rw [List.range_succ, List.map_append]
  congr 1
  exact List.map_congr_left fun i hi => by rw [h i (List.mem_range.1 hi)]
theorem Strs.below {w w' : World} {B : Nat} {p : Option Addr} {n : Nat} {S : Nat → ByteArray} (h : Strs w p n S) (hb : Below B w w') (hB : w.heap.size ≤ B) : Strs w' p n S := by
  refine ⟨fun hn => ?_⟩
  obtain ⟨b, o, hp, hlt, hc⟩ := h.cells hn
  refine ⟨b, o, hp, Nat.lt_of_lt_of_le hlt hb.size, fun i hi => ?_⟩
  rw [hb.cell (p := ⟨b, o + i, none⟩) (by show b < B; omega)]
  exact hc i hi
theorem Strs.own {w : World} {B : Nat} {v : Value} {n : Nat} {S : Nat → ByteArray} (h : w.ownsRow B 9 1 v n (strs S n)) : ∃ p c, v = .slice p n c ∧ n ≤ c ∧ c ≤ maxLen ∧ Strs w p n S := by
  have h' := h
  rcases h.2 with ⟨hv, h0⟩ | ⟨g, cap, cur, hv, hB, hg, hn, hcm, _, _⟩
  · exact ⟨none, 0, by rw [hv, h0], by omega, Nat.zero_le _, ⟨fun hp => by omega⟩⟩
  · refine ⟨_, cap, hv, hn, hcm, ⟨fun hp => ⟨g, 0, rfl, (Array.getElem?_eq_some_iff.1 hg).1, fun i hi => ?_⟩⟩⟩
    have := h'.cells (g := g) (by rw [hv]; rfl) i _ (strs_get S n i hi)
    have hadd : (⟨g, 0, none⟩ : Addr).add i = ⟨g, i, none⟩ := by unfold Addr.add; split <;> simp_all
    rw [hadd] at this
    simpa using this

theorem Tryz.info9S : (Tryz.prog.info? 9).map (fun i => (i.zero, i.size, i.bytes)) = some (some (.string ⟨#[]⟩), 1, 16) := by kernel_rfl


/-- the first n strings with another one between -/
def joinS (S : Nat → ByteArray) (sep : List UInt8) : Nat → List UInt8
  | 0 => []
  | k + 1 => joinS S sep k ++ ((if 0 < k then sep else []) ++ (S k).data.toList)
theorem joinS_le (S : Nat → ByteArray) (sep : List UInt8) (m : Nat) : ∀ n, (∀ i, i < n → (S i).size ≤ m) → (joinS S sep n).length ≤ n * (m + sep.length)
  | 0, _ => by simp [joinS]
  | k + 1, h => by
    have h1 := joinS_le S sep m k (fun i hi => h i (by omega))
    have h2 := h k (by omega)
    have h3 := Lib.size_eq (S k)
    rw [joinS, List.length_append, List.length_append, Nat.add_mul, Nat.one_mul]
    split
    · omega
    · rw [List.length_nil]; omega
set_option maxHeartbeats 1000000 in
theorem joined_any (p : Option Addr) (n c : Nat) (S : Nat → ByteArray) (sep : ByteArray) (w : World) (h : Strs w p n S) (hn : n ≤ 100) (hs : ∀ i, i < n → (S i).size ≤ 1000) (hsep : sep.size ≤ 100) :
    Calls Tryz.prog 20 #[.slice p n c, .string sep] w fun e w' => e = .returned (.string (str (joinS S sep.data.toList n))) ∧ w = w' := by
  have H := Lib.hid h
  have HS := Lib.hid hs
  have HSl := Lib.hid (Lib.size_eq sep)
  clear h hs
  go_enter Tryz.func20, Tryz.ntmps20
  go_wp2_with fail
  go_loop [10, 5] (fun t v => ∃ k : Nat, k ≤ n ∧ t = .int .i64 k ∧ v = .string (str (joinS S sep.data.toList k))) (fun t _ => n - (intOf t).toNat)
  case atStart => exact ⟨0, Nat.zero_le _, rfl, rfl⟩
  case round =>
    obtain ⟨k, hk, rfl, rfl⟩ := hrel
    have hlen := joinS_le S sep.data.toList 1000 k (fun i hi => HS.out i (by omega))
    have hsz : (str (joinS S sep.data.toList k)).size ≤ 1000000 := by
      rw [str_size]
      have : k * (1000 + sep.data.toList.length) ≤ 100 * (1000 + 100) := Nat.mul_le_mul (by omega) (by have := HSl.out; omega)
      omega
    clear hlen
    by_cases hlt : k < n
    · obtain ⟨b, o, rfl, hbl, hcl⟩ := H.out.cells (by omega)
      have hck := hcl k hlt
      have hsk := HS.out k hlt
      clear hcl
      by_cases h0 : 0 < k
      · have e1 : str (joinS S sep.data.toList k) ++ sep ++ S k = str (joinS S sep.data.toList (k + 1)) := by
          rw [joinS, if_pos h0, ← str_app, ← str_app, str_data, str_data, ByteArray.append_assoc]
        have hsz2 : (str (joinS S sep.data.toList k) ++ sep).size ≤ 1000100 := by rw [ByteArray.size_append]; omega
        have E1 := Lib.hid e1
        clear e1
        go_wp2_with fail
        go_round
        case rel => exact ⟨k + 1, by omega, by go_num, by rw [E1.out]⟩
        case measure => simp [intOf]; omega
      · obtain rfl : k = 0 := by omega
        rw [Nat.add_zero] at hck
        have E1 := Lib.hid (show str (joinS S sep.data.toList 0) ++ S 0 = str (joinS S sep.data.toList 1) by
          rw [joinS, joinS, if_neg (by omega), ← str_app, ← str_app, str_data]
          rfl)
        go_wp2_with fail
        go_round
        case rel => exact ⟨1, by omega, by go_num, by rw [E1.out]⟩
        case measure => simp [intOf]; omega
    · obtain rfl : k = n := by omega
      go_wp2_with fail
      go_ret
      exact ⟨rfl, rfl⟩

/-- the first n strings, each with a line feed behind it -/
def docS (S : Nat → ByteArray) : Nat → List UInt8
  | 0 => []
  | k + 1 => docS S k ++ (S k).data.toList ++ [10]
theorem docS_le (S : Nat → ByteArray) (m : Nat) : ∀ n, (∀ i, i < n → (S i).size ≤ m) → (docS S n).length ≤ n * (m + 1)
  | 0, _ => by simp [docS]
  | k + 1, h => by
    have h1 := docS_le S m k (fun i hi => h i (by omega))
    have h2 := h k (by omega)
    have h3 := Lib.size_eq (S k)
    rw [docS, List.length_append, List.length_append, Nat.add_mul, Nat.one_mul, List.length_singleton]
    omega
theorem strCells_vals (s : ByteArray) : Lib.strCells s = vals s.data.toList := by
  simp [Lib.strCells, vals]

set_option maxHeartbeats 1000000 in
theorem docText_any (p : Option Addr) (n c : Nat) (S : Nat → ByteArray) (w : World) (h : Strs w p n S) (hn : n ≤ 10) (hs : ∀ i, i < n → (S i).size ≤ 10000) :
    Calls Tryz.prog 9 #[.slice p n c] w fun e w' => ∃ v, e = .returned v ∧ Owns w' w.heap.size v (docS S n) ∧ Below w.heap.size w w' := by
  have H := Lib.hid h
  have HS := Lib.hid hs
  clear h hs
  obtain ⟨i0, hi, hz0, hz1, hz2⟩ := info_parts Tryz.info5
  go_enter Tryz.func9, Tryz.ntmps9
  go_wp2_with fail
  go_loopw [8, 3] (fun t v wr => ∃ k : Nat, k ≤ n ∧ t = .int .i64 k ∧ Owns wr w.heap.size v (docS S k) ∧ Below w.heap.size w wr) (fun t _ _ => n - (intOf t).toNat)
  case atStart => exact ⟨0, Nat.zero_le _, rfl, World.ownsRow_nil _ _ _ _, Below.refl _ _⟩
  case round =>
    obtain ⟨k, hk, rfl, hown, hbel⟩ := hrel
    have HO := Lib.hid hown
    have HB := Lib.hid hbel
    have hlen := docS_le S 10000 k (fun i hi => HS.out i (by omega))
    have hl2 : (docS S k).length ≤ 200000 := by
      have : k * (10000 + 1) ≤ 10 * (10000 + 1) := Nat.mul_le_mul (by omega) (Nat.le_refl _)
      omega
    have HL := Lib.hid hl2
    clear hown hbel hlen hl2
    by_cases hlt : k < n
    · obtain ⟨b, o, rfl, hbl, hcl⟩ := H.out.cells (by omega)
      have hck := (HB.out.cell (p := ⟨b, o + k, none⟩) hbl).trans (hcl k hlt)
      have hsk := HS.out k hlt
      have HSl := Lib.hid (Lib.size_eq (S k))
      have HZ := Lib.hid HB.out.size
      clear hcl
      go_wp2_with (at_builtin; refine Lib.wpList_append_own_string _ rfl _ _ 23 9 rfl w.heap.size 5 i0 Tryz.underlying23 Tryz.underlying9 hi hz0 hz1 hz2 _ _ _ rfl HO.out (S k) rfl (by have := HL.out; unfold maxLen; omega) (by have := HL.out; omega) HZ.out ?_; intro v1 w1 hown1 hgrow1 hnil1; refine Hid.out ?_)
      refine Lib.hid ?_
      have hO1 : Owns w1 w.heap.size v1 (docS S k ++ (S k).data.toList) := by
        unfold Owns
        rw [List.length_append, vals_append, ← strCells_vals, ← HSl.out]
        exact hown1
      have HO1 := Lib.hid hO1
      have HG1 := Lib.hid hgrow1
      have HZ1 := Lib.hid (Nat.le_trans HZ.out hgrow1.size)
      clear hO1 hown1 hgrow1 hnil1 hck
      go_wp2_with (at_builtin; refine app_byte rfl _ _ rfl w.heap.size _ (docS S k ++ (S k).data.toList) rfl HO1.out _ 10 rfl rfl (by have := HL.out; have := HSl.out; rw [List.length_append]; omega) HZ1.out ?_; intro v2 w2 hown2 hnil2 hbel2 hk2)
      have HO2 := Lib.hid hown2
      have HB2 := Lib.hid hbel2
      clear hown2 hnil2 hbel2 hk2
      go_wp2_with fail
      go_roundw
      case rel => exact ⟨k + 1, by omega, by go_num, HO2.out, (HB.out.grown HG1.out HZ.out (fun x hx => (World.ownsRow.lt HO.out x hx).1)).trans HB2.out⟩
      case measure => simp [intOf]; omega
    · obtain rfl : k = n := by omega
      go_wp2_with fail
      go_ret
      exact ⟨_, rfl, HO.out, HB.out⟩

/-- nothing is escaped where no backslash stands -/
theorem notEsc_any (p : Option Addr) (n c i : Nat) (l : List UInt8) (w : World) (h : Bs w p n l) (hi : i < n) (hb : ∀ j, j < n → bat l j ≠ 92) (hn : n ≤ 1000000) :
    Calls Tryz.prog 28 #[.slice p n c, .int .i64 i] w fun e w' => e = .returned (.bool false) ∧ w = w' := by
  obtain ⟨b, o, rfl, hlt, hcell⟩ := h.cells (by omega)
  by_cases h0 : i = 0
  · subst h0
    go_enter Tryz.func28, Tryz.ntmps28
    go_wp2_with fail
    go_loop [5] (fun t => t = .int .i64 0) (fun _ => 0)
    case atStart => rfl
    case round =>
      subst hrel
      go_wp2_with fail
      go_ret
      exact ⟨rfl, rfl⟩
  · obtain ⟨m, rfl⟩ : ∃ m, i = m + 1 := ⟨i - 1, by omega⟩
    have cm := hcell m (by omega)
    have hne := hb m (by omega)
    have hq : (bat l m == 92) = false := by simpa using hne
    clear hcell hb h
    go_enter Tryz.func28, Tryz.ntmps28
    go_wp2_with fail
    go_loop [5] (fun t => t = .int .i64 0) (fun _ => 0)
    case atStart => rfl
    case round =>
      subst hrel
      go_wp2_with fail
      go_ret
      exact ⟨rfl, rfl⟩

end Go.Proofs.YtlndmebmcjngfaaGreatDoor
