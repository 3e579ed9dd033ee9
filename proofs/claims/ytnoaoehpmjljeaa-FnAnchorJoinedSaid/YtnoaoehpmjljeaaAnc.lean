/- The anchor of an ASCII text: blackfriday.SanitizedAnchorName walked. Condition: the text's bytes are ASCII, its length is bounded. -/
import Derived.Test.YtnoaoehpmjljeaaBytes
import Derived.Laws.Cover4
import Derived.Shelf.Strings.FieldsFuncAny
namespace Go.Proofs.Ytnoaoehpmjljeaa
open Go.ChangeShapes Go.WideShapes Go.ChangeAt Go.RowKit

/-- a letter or a digit of ASCII -/
def alnumI (n : Int) : Bool := decide (97 ≤ n ∧ n ≤ 122) || decide (65 ≤ n ∧ n ≤ 90) || decide (48 ≤ n ∧ n ≤ 57)
/-- in small letters -/
def lowI (n : Int) : Int := if 65 ≤ n ∧ n ≤ 90 then n + 32 else n

theorem alnum_any (n : Int) (w : World) :
    Calls Try.prog 28 #[.int .i32 n] w fun e w' => e = .returned (.bool (alnumI n)) ∧ w = w' := by
  go_enter Try.func28, Try.ntmps28
  go_wp2
  all_goals go_ret
  all_goals refine ⟨ret_bool ?_, rfl⟩
  all_goals unfold alnumI
  all_goals rw [Bool.eq_iff_iff]
  all_goals simp only [Bool.or_eq_true, decide_eq_true_eq, Bool.false_eq_true, true_iff, false_iff]
  all_goals omega

theorem low_any (n : Int) (w : World) (h0 : 0 ≤ n) (h1 : n ≤ 127) :
    Calls Try.prog 29 #[.int .i32 n] w fun e w' => e = .returned (.int .i32 (lowI n)) ∧ w = w' := by
  go_enter Try.func29, Try.ntmps29
  go_wp2
  all_goals go_ret
  all_goals refine ⟨ret_int ?_, rfl⟩
  all_goals unfold lowI
  · rw [if_pos ⟨by omega, by omega⟩]
    omega
  all_goals rw [if_neg (by omega)]

/-- a byte in small letters -/
def lowB (c : UInt8) : UInt8 := if 65 ≤ c ∧ c ≤ 90 then c + 32 else c
theorem lowB_toNat (c : UInt8) (_h : c.toNat < 128) : ((lowB c).toNat : Int) = lowI (c.toNat : Int) := by
  unfold lowB lowI
  simp only [UInt8.le_iff_toNat_le]
  by_cases h1 : 65 ≤ c.toNat ∧ c.toNat ≤ 90
  · rw [if_pos (by simpa using h1), if_pos (by omega), UInt8.toNat_add]
    simp
    omega
  · rw [if_neg (by simpa using h1), if_neg (by omega)]

/-- one character more: what is written so far, and whether a dash is owed -/
def aStep (st : List UInt8 × Bool) (c : UInt8) : List UInt8 × Bool :=
  if alnumI (c.toNat : Int) then (st.1 ++ (if st.2 && !st.1.isEmpty then [45] else []) ++ [lowB c], false) else (st.1, true)
def aRun (l : List UInt8) : List UInt8 × Bool := l.foldl aStep ([], false)
/-- the anchor -/
def anchor (l : List UInt8) : List UInt8 := (aRun l).1

theorem aRun_snoc (l : List UInt8) (c : UInt8) : aRun (l ++ [c]) = aStep (aRun l) c := by simp [aRun]
theorem aRun_len (l : List UInt8) : (aRun l).1.length ≤ 2 * l.length := by
  refine snoc_ind (P := fun l => (aRun l).1.length ≤ 2 * l.length) (by simp [aRun]) ?_ l
  · intro l c ih
    rw [aRun_snoc]
    unfold aStep
    split
    · simp only [List.length_append, List.length_singleton]
      have : (if (aRun l).2 && !(aRun l).1.isEmpty then [(45 : UInt8)] else []).length ≤ 1 := by split <;> simp
      omega
    · simp only [List.length_append, List.length_singleton]
      omega

/-- the cells of a list of runes -/
def valsR (l : List UInt8) : List Value := l.map fun c => Value.int .i32 (c.toNat : Int)
theorem valsR_length (l : List UInt8) : (valsR l).length = l.length := by simp [valsR]
theorem valsR_snoc (l : List UInt8) (c : UInt8) : valsR (l ++ [c]) = valsR l ++ [.int .i32 (c.toNat : Int)] := by simp [valsR]

theorem Try.infoR : (Try.prog.info? 21).map (fun i => (i.zero, i.size, i.bytes)) = some (some (.int .i32 0), 1, 4) := by kernel_rfl

/-- one rune is appended to a row of runes of the call's own -/
theorem app_rune {ops : Array Oper} {rest : List Oper} {o : Oper} {a : Act} {Q : Exit → Act → World → Prop} (hgd : o.guard = none) (s x : Operand)
    (ho : o.op = .call { callee := .builtin .append, args := #[s, x], argTypes := #[34, 34] }) (B : Nat) (v : Value) (n : Nat) (xs : List Value) (hs : a.eval s = v) {W : World}
    (hown : W.ownsRow B 21 1 v n xs) (u : Value) (hx : a.eval x = .slice (some ⟨W.heap.size, 0, none⟩) 1 1) (h1 : u.oneCell' = true) (hn : n ≤ 1000000000) (hB : B ≤ W.heap.size)
    (h : ∀ v' w', w'.ownsRow B 21 1 v' (n + 1) (xs ++ [u]) → Below B W w' → (∀ k, k < W.heap.size → some k ≠ v.ownBlock → w'.heap[k]? = W.heap[k]?) → wpList Try.prog ops Q rest (a.put o.dst v') w') :
    wpList Try.prog ops Q (o :: rest) a (W.alloc (.cells #[u] 21)) := by
  obtain ⟨i0, hi, hz0, hz1, hz2⟩ := info_parts Try.infoR
  refine wpList_append_own _ hgd s x 34 ho B 21 i0 (.int .i32 0) 1 4 Try.underlying34 hi hz0 hz1 hz2 rfl (by decide) v n xs hs (hown.alloc _) ⟨W.heap.size, 0, none⟩ 1 1 [u] hx rfl ?_ ?_ (by unfold maxLen; omega) (by omega) (by simp; omega) ?_
  · intro j y hj
    match j with
    | 0 =>
      simp at hj
      subst hj
      simp [Addr.add, World.cell?_alloc_new]
    | j + 1 => simp at hj
  · intro y hy
    simp at hy
    subst hy
    exact h1
  · intro v' w' hown' hg _
    refine h v' w' hown' (((Below.refl B W).alloc hB _).grown hg (by simp; omega) (fun k hk => ?_)) (fun k hk hne => ?_)
    · exact (hown.lt k hk).1
    · rw [hg.block k (by simp; omega) hne]
      exact Below.heap_alloc _ _ _ hk

theorem aRun_ascii (l : List UInt8) (h : ∀ c ∈ l, c.toNat < 128) : ∀ c ∈ (aRun l).1, c.toNat < 128 := by
  revert h
  refine snoc_ind (P := fun l => (∀ c ∈ l, c.toNat < 128) → ∀ c ∈ (aRun l).1, c.toNat < 128) (by simp [aRun]) ?_ l
  intro l c ih h x hx
  have ih' := ih fun y hy => h y (List.mem_append_left _ hy)
  have hc := h c (by simp)
  rw [aRun_snoc] at hx
  unfold aStep at hx
  split at hx
  · simp only [List.mem_append, List.mem_singleton] at hx
    rcases hx with (h1 | h1) | h1
    · exact ih' x h1
    · split at h1
      · simp at h1
        subst h1
        decide
      · simp at h1
    · subst h1
      have hl := lowB_toNat c hc
      unfold lowI at hl
      split at hl <;> omega
  · exact ih' x hx

theorem runes_ascii (l : List UInt8) (h : ∀ c ∈ l, c.toNat < 128) : runesBytes (l.map fun c => (c.toNat : Int)) = str l := by
  revert h
  refine snoc_ind (P := fun l => (∀ c ∈ l, c.toNat < 128) → runesBytes (l.map fun c => (c.toNat : Int)) = str l) (fun _ => rfl) ?_ l
  intro l c ih h
  have ih' := ih fun y hy => h y (List.mem_append_left _ hy)
  have hc := h c (by simp)
  have hv : Utf8.valid ((c.toNat : Nat) : Int) = true := by simp [Utf8.valid]; omega
  have he : Utf8.encode ((c.toNat : Nat) : Int) = ⟨#[c]⟩ := by
    have h80 : c.toNat < 128 := hc
    simp [Utf8.encode, hv, h80]
  rw [List.map_append, runesBytes, List.foldl_append]
  rw [runesBytes] at ih'
  rw [ih']
  simp only [List.map_cons, List.map_nil, List.foldl_cons, List.foldl_nil, he]
  apply ByteArray.ext
  simp [str]

theorem ownR_convert {w : World} {B : Nat} {v : Value} {l : List UInt8} (h : w.ownsRow B 21 1 v l.length (valsR l)) (ha : ∀ c ∈ l, c.toNat < 128) : (Go.convert 34 9 v).run Try.prog w = .ok (.string (str l)) w := by
  rcases h.2 with ⟨hv, h0⟩ | ⟨g, cap, cur, hv, hB, hg, hn, hcm, _, _⟩
  · have : l = [] := List.eq_nil_of_length_eq_zero h0
    subst this
    rw [hv]
    exact run_convert_runes_nil w _ _ _ 0 0 Try.underlying34 Try.underlying21 Try.underlying9
  · rw [hv, run_convert_runes w 34 9 21 ⟨g, 0, none⟩ l.length cap (l.map fun c => (c.toNat : Int)) (by simp) Try.underlying34 Try.underlying21 Try.underlying9 ?_]
    · rw [List.take_of_length_le (by simp), runes_ascii l ha]
    · intro j hj
      have hj' : j < l.length := by simpa using hj
      have := h.cells (g := g) (by rw [hv]; rfl) j (.int .i32 ((l[j]'hj').toNat : Int)) (by simp [valsR, hj'])
      rw [this]
      simp [hj']

set_option maxHeartbeats 1000000 in
theorem anchor_any (s : ByteArray) (w : World) (hs : s.size ≤ 1000000) (ha : ∀ i (h : i < s.size), (s[i]'h).toNat < 128) :
    Calls Try.prog 22 #[.string s] w fun e w' => e = .returned (.string (str (anchor s.data.toList))) ∧ Below w.heap.size w w' := by
  obtain ⟨i0, hi, hz0, hz1, hz2⟩ := info_parts Try.infoR
  go_enter Try.func22, Try.ntmps22
  go_wp2
  go_loopw [3, 4] (fun v d wr => ∃ k : Nat, k ≤ s.size ∧ wr.ownsRow w.heap.size 21 1 v (aRun (s.data.toList.take k)).1.length (valsR (aRun (s.data.toList.take k)).1) ∧ d = .bool (aRun (s.data.toList.take k)).2 ∧ wr.heap[w.heap.size]? = some (.stringIter s k) ∧ Below w.heap.size w wr) (fun _ _ wr => s.size - wr.iterPos w.heap.size)
  case atStart =>
    exact ⟨0, Nat.zero_le _, World.ownsRow_nil _ _ _ _, rfl, World.iter_heap w s 0, (Below.refl _ w).alloc (Nat.le_refl _) _⟩
  case round =>
    obtain ⟨k, hk, hown, rfl, hit, hbw⟩ := hrel
    by_cases hlt : k < s.size
    · have hnx : ∀ ty, (Instr.next (.pointer (some ⟨w.heap.size, 0, none⟩)) true ty).run Try.prog wr = _ := fun ty => Lib.run_next_ascii_at wr w.heap.size s k ty hit hlt (ha k hlt)
      have hit2 := Lib.iterAt_heap wr w.heap.size s k (k + 1) hit
      have hbw2 := Lib.below_iterAt hbw (k := w.heap.size) (Nat.le_refl _) s (k + 1)
      have hown2 := own_iterAt hown hit (k + 1)
      have hlen := aRun_len (s.data.toList.take k)
      have hlk : (s.data.toList.take k).length ≤ k := List.length_take_le _ _
      have hst : aRun (s.data.toList.take (k + 1)) = aStep (aRun (s.data.toList.take k)) s[k] := by rw [take_snoc s k hlt, aRun_snoc]
      obtain ⟨A, D, hAD⟩ : ∃ A D, aRun (s.data.toList.take k) = (A, D) := ⟨_, _, rfl⟩
      rw [hAD] at hst hown2 hlen
      rw [hAD]
      have hmm : wr.iterPos w.heap.size = k := by simp only [World.iterPos, hit]
      clear hown hbw
      have hac := ha k hlt
      have hlow := fun w' => low_any ((s[k].toNat : Nat) : Int) w' (by omega) (by omega)
      obtain ⟨c, hc⟩ : ∃ c, c = s[k] := ⟨_, rfl⟩
      rw [← hc] at hst hac
      have HIT := Lib.hid hit
      have HIT2 := Lib.hid hit2
      have HST := Lib.hid hst
      have HC := Lib.hid hc
      have HMM := Lib.hid hmm
      have HLK := Lib.hid hlk
      clear hit hit2 hst hc hmm hlk hAD ha
      simp only at hown2 hlen
      obtain ⟨W, hW⟩ : ∃ W, wr.iterAt w.heap.size s (k + 1) = W := ⟨_, rfl⟩
      rw [hW] at hnx hbw2 hown2 HIT2
      have HW := Lib.hid hW
      clear hW
      obtain ⟨pv, cv, rfl, _, _⟩ := own_slice hown2
      by_cases hal : alnumI (c.toNat : Int) = true
      · have HST2 : aRun (s.data.toList.take (k + 1)) = (A ++ (if D && !A.isEmpty then [45] else []) ++ [lowB c], false) := by rw [HST.out, aStep, if_pos hal]
        have HAL := Lib.hid hal
        have HST3 := Lib.hid HST2
        rw [HC.out] at hal
        clear HST2
        by_cases hd : D = true ∧ 0 < A.length
        · obtain ⟨rfl, hA⟩ := hd
          have hA' : decide (0 < (A.length : Int)) = true := by simp; omega
          have hne : A.isEmpty = false := by cases A with | nil => simp at hA | cons => rfl
          go_wp2_with (first
            | (go_at_call 28; refine (alnum_any _ _).mono ?_; rintro e w' ⟨rfl, rfl⟩)
            | (at_builtin; refine app_rune rfl (.tmp 21) (.tmp 22) rfl _ _ _ _ rfl hown2 _ rfl rfl ?c1 ?c2 ?_))
          case c1 => have := HLK.out; omega
          case c2 => exact hbw2.size
          intro v1 w1 hown3 hb3 hk3
          have hB1 : w.heap.size ≤ w1.heap.size := Nat.le_trans hbw2.size hb3.size
          go_wp2_with (first
            | (go_at_call 29; refine (hlow _).mono ?_; rintro e w' ⟨rfl, rfl⟩)
            | (at_builtin; refine app_rune rfl (.tmp 24) (.tmp 27) rfl _ _ _ _ rfl hown3 _ rfl rfl ?d1 ?d2 ?_))
          case d1 => have := HLK.out; omega
          case d2 => exact hB1
          intro v2 w2 hown4 hb4 hk4
          go_wp2_with fail
          have hb5 := hbw2.trans (hb3.trans hb4)
          have hit5 : w2.heap[w.heap.size]? = some (.stringIter s (k + 1)) := by
            have hl1 : w.heap.size < W.heap.size := (Array.getElem?_eq_some_iff.1 HIT2.out).1
            rw [hk4 _ (by have := hb3.size; omega) (own_ne_iter hown3 (by rw [hk3 _ hl1 (own_ne_iter hown2 HIT2.out)]; exact HIT2.out)), hk3 _ hl1 (own_ne_iter hown2 HIT2.out)]
            exact HIT2.out
          go_roundw
          case rel =>
            refine ⟨k + 1, by omega, ?_, by rw [HST3.out], hit5, hb5⟩
            rw [HST3.out]
            simp only [hne, Bool.and_true, Bool.not_false, if_true]
            rw [valsR_snoc, valsR_snoc, lowB_toNat c hac, HC.out, List.length_append, List.length_append, List.append_assoc]
            exact hown4
          case measure =>
            simp only [World.iterPos, hit5, HIT.out]
            omega
        · have hd' : (D && decide (0 < (A.length : Int))) = false := by
            cases D
            · rfl
            · simp at hd ⊢
              exact hd
          have hne : (D && !A.isEmpty) = false := by
            cases D
            · rfl
            · cases A
              · rfl
              · simp at hd
          cases D
          · go_wp2_with (first
              | (go_at_call 28; refine (alnum_any _ _).mono ?_; rintro e w' ⟨rfl, rfl⟩)
              | (go_at_call 29; refine (hlow _).mono ?_; rintro e w' ⟨rfl, rfl⟩)
              | (at_builtin; refine app_rune rfl (.tmp 24) (.tmp 27) rfl _ _ _ _ rfl hown2 _ rfl rfl ?d1 ?d2 ?_))
            case d1 => have := HLK.out; omega
            case d2 => exact hbw2.size
            intro v2 w2 hown4 hb4 hk4
            have hb5 := hbw2.trans hb4
            have hit5 : w2.heap[w.heap.size]? = some (.stringIter s (k + 1)) := by
              have hl1 : w.heap.size < W.heap.size := (Array.getElem?_eq_some_iff.1 HIT2.out).1
              rw [hk4 _ hl1 (own_ne_iter hown2 HIT2.out)]
              exact HIT2.out
            go_wp2_with fail
            go_roundw
            case rel =>
              refine ⟨k + 1, by omega, ?_, by rw [HST3.out], hit5, hb5⟩
              rw [HST3.out]
              simp only [hne, Bool.false_eq_true, if_false, List.append_nil]
              rw [valsR_snoc, lowB_toNat c hac, HC.out, List.length_append]
              exact hown4
            case measure =>
              simp only [World.iterPos, hit5, HIT.out]
              omega
          · have hA0 : ¬ (0 : Int) < (A.length : Int) := by simp at hd; rw [hd]; simp
            go_wp2_with (first
              | (go_at_call 28; refine (alnum_any _ _).mono ?_; rintro e w' ⟨rfl, rfl⟩)
              | (go_at_call 29; refine (hlow _).mono ?_; rintro e w' ⟨rfl, rfl⟩)
              | (at_builtin; refine app_rune rfl (.tmp 24) (.tmp 27) rfl _ _ _ _ rfl hown2 _ rfl rfl ?d1 ?d2 ?_))
            case d1 => have := HLK.out; omega
            case d2 => exact hbw2.size
            intro v2 w2 hown4 hb4 hk4
            have hb5 := hbw2.trans hb4
            have hit5 : w2.heap[w.heap.size]? = some (.stringIter s (k + 1)) := by
              have hl1 : w.heap.size < W.heap.size := (Array.getElem?_eq_some_iff.1 HIT2.out).1
              rw [hk4 _ hl1 (own_ne_iter hown2 HIT2.out)]
              exact HIT2.out
            go_wp2_with fail
            go_roundw
            case rel =>
              refine ⟨k + 1, by omega, ?_, by rw [HST3.out], hit5, hb5⟩
              rw [HST3.out]
              simp only [hne, Bool.false_eq_true, if_false, List.append_nil]
              rw [valsR_snoc, lowB_toNat c hac, HC.out, List.length_append]
              exact hown4
            case measure =>
              simp only [World.iterPos, hit5, HIT.out]
              omega
      · have hal' : alnumI (c.toNat : Int) = false := by simpa using hal
        have HST2 : aRun (s.data.toList.take (k + 1)) = (A, true) := by rw [HST.out, aStep, if_neg hal]
        have HST3 := Lib.hid HST2
        rw [HC.out] at hal'
        clear HST2
        go_wp2_with (go_at_call 28; refine (alnum_any _ _).mono ?_; rintro e w' ⟨rfl, rfl⟩)
        go_roundw
        case rel => exact ⟨k + 1, by omega, by rw [HST3.out]; exact hown2, by rw [HST3.out], HIT2.out, hbw2⟩
        case measure =>
          simp only [World.iterPos, HIT2.out, HIT.out]
          omega
    · have hnx : ∀ ty, (Instr.next (.pointer (some ⟨w.heap.size, 0, none⟩)) true ty).run Try.prog wr = _ := fun ty => Lib.run_next_end_at wr w.heap.size s k ty hit hlt
      obtain ⟨n, hn⟩ : ∃ n, n = (aRun (s.data.toList.take k)).1 := ⟨_, rfl⟩
      have hsz : s.data.toList.length = s.size := rfl
      have hT : s.data.toList.take k = s.data.toList := List.take_of_length_le (by omega)
      rw [hT] at hown
      have hcv := ownR_convert hown (aRun_ascii _ (fun c hc => by
        obtain ⟨i, hi, rfl⟩ := List.getElem_of_mem hc
        exact ha i hi))
      clear hown hT hsz ha
      go_wp2
      go_ret
      exact ⟨rfl, hbw⟩

end Go.Proofs.Ytnoaoehpmjljeaa
