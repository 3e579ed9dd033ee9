/- The slug of bytes: blackfriday.slugify walked. Condition: the length is bounded. -/
import Derived.Test.YtnoaoehpmjljeaaBytes
import Derived.Test.YtnoaoehpmjljeaaSlugLaw
import Derived.Deep.CutBlock
namespace Go.Proofs.Ytnoaoehpmjljeaa
open Go.ChangeShapes Go.WideShapes Go.ChangeAt Go.RowKit

theorem drop_at (l : List UInt8) (k : Nat) (h : k < l.length) : l.drop k = l.getD k 0 :: l.drop (k + 1) := by
  rw [List.drop_eq_getElem_cons h]
  simp [h]

theorem fromIx_at (l : List UInt8) (k : Nat) (hk : k < l.length) (h : ∀ i, i < k → l.getD i 0 = 45) (h2 : l.getD k 0 ≠ 45) : fromIx l = k := by
  have hn : l ≠ [] := by intro e; rw [e] at hk; simp at hk
  obtain ⟨f1, f2, f3⟩ := fromIx_spec l hn
  rcases Nat.lt_trichotomy (fromIx l) k with h3 | h3 | h3
  · rcases f2 with f2 | f2
    · exact absurd (h _ h3) f2
    · omega
  · exact h3
  · exact absurd (f3 _ h3) h2

theorem fromIx_end (l : List UInt8) (hn : l ≠ []) (h : ∀ i, i < l.length → l.getD i 0 = 45) : fromIx l = l.length - 1 := by
  obtain ⟨f1, f2, f3⟩ := fromIx_spec l hn
  rcases f2 with f2 | f2
  · exact absurd (h _ f1) f2
  · omega

theorem bat_ne {l : List UInt8} {k : Nat} (h : (bat l k == 45) = false) : l.getD k 0 ≠ 45 := by
  intro e
  rw [bat, e] at h
  revert h
  decide
theorem bat_eq {l : List UInt8} {k : Nat} (h : (bat l k == 45) = true) : l.getD k 0 = 45 := by
  have h2 : bat l k = 45 := by simpa using h
  unfold bat at h2
  apply UInt8.toNat_inj.1
  show (l.getD k 0).toNat = 45
  omega

/-- the first loop's step -/
theorem comp_at (l : List UInt8) (k : Nat) (s : Bool) (h : k < l.length) : comp s (l.drop k) = if alnI (bat l k) then l.getD k 0 :: comp false (l.drop (k + 1)) else if s then comp true (l.drop (k + 1)) else 45 :: comp true (l.drop (k + 1)) := by
  rw [drop_at l k h, comp]
  rfl

theorem from_le (l : List UInt8) (h : good false l) (hn : l ≠ []) : fromIx l ≤ toIx l (l.length - 1) := by
  obtain ⟨f1, f2, f3⟩ := fromIx_spec l hn
  obtain ⟨t1, t2⟩ := toIx_spec l (l.length - 1)
  by_cases hd : ∀ i, i < l.length → l.getD i 0 = 45
  · rw [good_dashes l h hn hd]
    decide
  · have hf : l.getD (fromIx l) 0 ≠ 45 := by
      rcases f2 with f2 | f2
      · exact f2
      · intro e
        exact hd fun i hi => by
          by_cases hi2 : i = fromIx l
          · rw [hi2]; exact e
          · exact f3 i (by omega)
    rcases Nat.lt_or_ge (toIx l (l.length - 1)) (fromIx l) with h1 | h1
    · exact absurd (t2 _ h1 (by omega)) hf
    · exact h1

theorem toIx_stop (l : List UInt8) (j : Nat) (h : (bat l j == 45) = false) : toIx l j = j := by
  cases j with
  | zero => rfl
  | succ j => rw [toIx, if_neg (bat_ne h)]
theorem toIx_step (l : List UInt8) (j : Nat) (hj : 0 < j) (h : (bat l j == 45) = true) : toIx l j = toIx l (j - 1) := by
  cases j with
  | zero => omega
  | succ j => rw [toIx, if_pos (bat_eq h)]; rfl

/-- a window of a slice of bytes -/
theorem Bs.window {w : World} {b o n : Nat} {l : List UInt8} (h : Bs w (some ⟨b, o, none⟩) n l) (f t : Nat) (hft : f ≤ t) (ht : t ≤ n) : Bs w (some ⟨b, o + f, none⟩) (t - f) ((l.take t).drop f) := by
  refine ⟨by rw [List.length_drop, List.length_take, h.len]; omega, fun h0 => ?_⟩
  obtain ⟨b', o', hp, hlt, hc⟩ := h.cells (by omega)
  simp only [Option.some.injEq, Addr.mk.injEq] at hp
  obtain ⟨rfl, rfl, _⟩ := hp
  refine ⟨b, o + f, rfl, hlt, fun i hi => ?_⟩
  rw [Nat.add_assoc, hc (f + i) (by omega)]
  have e : bat ((l.take t).drop f) i = bat l (f + i) := by
    unfold bat
    simp only [List.getD, List.getElem?_drop, List.getElem?_take]
    rw [if_pos (by omega)]
  rw [e]

set_option maxHeartbeats 1000000 in
theorem slug_any (p : Option Addr) (n c : Nat) (l : List UInt8) (w : World) (h : Bs w p n l) (hnc : n ≤ c) (hcm : c ≤ maxLen) (hn : n ≤ 1000000) :
    Calls Try.prog 31 #[.slice p n c] w fun e w' => ∃ p' c', e = .returned (.slice p' (slug l).length c') ∧ (slug l).length ≤ c' ∧ c' ≤ maxLen ∧ Bs w' p' (slug l).length (slug l) ∧ Below w.heap.size w w' := by
  have hl := h.len
  by_cases h0 : n = 0
  · subst h0
    have hl0 : l = [] := List.eq_nil_of_length_eq_zero hl
    subst hl0
    clear hl
    go_enter Try.func31, Try.ntmps31
    go_wp2_with fail
    go_ret
    exact ⟨p, c, rfl, Nat.zero_le _, hcm, h, Below.refl _ _⟩
  · obtain ⟨b, o, rfl, hlt, hcell⟩ := h.cells (by omega)
    have hn0 : ((n : Int) == 0) = false := by simp; omega
    have hne : l ≠ [] := by intro e; rw [e] at hl; simp at hl; omega
    have HL := Lib.hid hl
    clear hl
    obtain ⟨i0, hi, hz0, hz1, hz2⟩ := info_parts Try.info5
    go_enter Try.func31, Try.ntmps31
    go_wp2_with (at_make; refine wpList_make_own _ rfl _ _ 22 rfl w.heap.size 5 i0 (.int .u8 0) 1 Try.underlying22 hi hz0 hz1 .i64 .i64 _ n rfl rfl rfl ?c1 ?c2 ?c3 ?_)
    case c1 => rw [hz2]; omega
    case c2 => unfold maxLen; omega
    case c3 => exact Nat.le_refl _
    intro w1 hown1 hg1
    have hb1 : Below w.heap.size w w1 := (Below.refl _ _).grown hg1 (Nat.le_refl _) (by intro k hk; cases hk)
    go_wp2
    go_loopw [3, 4, 19] (fun v d t wr => ∃ (k : Nat) (A : List UInt8) (S : Bool), k ≤ n ∧ t = .int .i64 k ∧ d = .bool S ∧ comp false l = A ++ comp S (l.drop k) ∧ A.length ≤ k ∧ Owns wr w.heap.size v A ∧ v ≠ .slice none 0 0 ∧ Below w.heap.size w wr) (fun _ _ t _ => n - (intOf t).toNat)
    case atStart => exact ⟨0, [], false, Nat.zero_le _, rfl, rfl, by simp, Nat.le_refl _, hown1, (by intro e; cases e), hb1⟩
    case round =>
      obtain ⟨k, A, S, hk, rfl, rfl, hcomp, hlen, hown, hnn, hbw⟩ := hrel
      have hB := hbw.size
      by_cases hlt : k < n
      · have hcell2 : wr.cell? ⟨b, o + k, none⟩ = some (.int .u8 (bat l k)) := by
          rw [hbw.cell (p := ⟨b, o + k, none⟩) (by assumption)]
          exact hcell k hlt
        rw [comp_at l k S (by rw [HL.out]; exact hlt)] at hcomp
        have HC := Lib.hid hcomp
        clear hcomp hcell
        by_cases hal : alnI (bat l k) = true
        · have HC2 : Hid (comp false l = (A ++ [l.getD k 0]) ++ comp false (l.drop (k + 1))) := by
            rw [if_pos hal] at HC
            have := HC.out
            exact Lib.hid (by rw [this]; simp)
          clear HC
          go_wp2_with (first
            | (go_at_call 33; refine (isalnum_any _ _).mono ?_; rintro e w' ⟨rfl, rfl⟩)
            | (at_builtin; refine app_byte rfl (.tmp 25) (.tmp 27) rfl _ _ _ rfl hown _ (l.getD k 0) rfl rfl ?c1 ?c2 ?_))
          case c1 => omega
          case c2 => exact hB
          intro v2 w2 hown2 hnn2 hb2 _
          go_wp2_with fail
          go_roundw
          case rel => exact ⟨k + 1, A ++ [l.getD k 0], false, by omega, by go_num, rfl, HC2.out, by simp; omega, hown2, hnn2, hbw.trans hb2⟩
          case measure => simp [intOf]; omega
        · have hal' : alnI (bat l k) = false := by simpa using hal
          cases S with
          | true =>
            have HC2 : Hid (comp false l = A ++ comp true (l.drop (k + 1))) := by
              rw [if_neg hal, if_pos rfl] at HC
              exact HC
            clear HC hal
            go_wp2_with (go_at_call 33; refine (isalnum_any _ _).mono ?_; rintro e w' ⟨rfl, rfl⟩)
            go_roundw
            case rel => exact ⟨k + 1, A, true, by omega, by go_num, rfl, HC2.out, by omega, hown, hnn, hbw⟩
            case measure => simp [intOf]; omega
          | false =>
            have HC2 : Hid (comp false l = (A ++ [45]) ++ comp true (l.drop (k + 1))) := by
              rw [if_neg hal] at HC
              have := HC.out
              exact Lib.hid (by rw [this]; simp)
            clear HC hal
            go_wp2_with (first
              | (go_at_call 33; refine (isalnum_any _ _).mono ?_; rintro e w' ⟨rfl, rfl⟩)
              | (at_builtin; refine app_byte rfl (.tmp 30) (.tmp 31) rfl _ _ _ rfl hown _ 45 rfl rfl ?c1 ?c2 ?_))
            case c1 => omega
            case c2 => exact hB
            intro v2 w2 hown2 hnn2 hb2 _
            go_wp2_with fail
            go_roundw
            case rel => exact ⟨k + 1, A ++ [45], true, by omega, by go_num, rfl, HC2.out, by simp; omega, hown2, hnn2, hbw.trans hb2⟩
            case measure => simp [intOf]; omega
      · have hout : comp false l = A := by
          rw [hcomp, List.drop_of_length_le (by rw [HL.out]; omega)]
          simp [comp]
        have hAne : A ≠ [] := by rw [← hout]; exact comp_ne l hne
        obtain ⟨p2, c2, rfl, hc2, hcm2, hbs⟩ := hown.bs
        have HO := Lib.hid hout
        clear hout hcomp hcell
        obtain ⟨wo, rfl⟩ : ∃ wo : World, wo = wr := ⟨_, rfl⟩
        obtain ⟨b2, o2, rfl, hlt2, hcell2⟩ := hbs.cells (List.length_pos_iff.2 hAne)
        have hAp : 0 < A.length := List.length_pos_iff.2 hAne
        go_upto_block 2 with fail
        go_cut [7] (fun a wx => a = .int .i64 (fromIx A) ∧ wx = wo)
        case first =>
          go_wp2_with fail
          go_loop [7, 36] (fun a t => ∃ k : Nat, k ≤ A.length ∧ t = .int .i64 k ∧ a = .int .i64 (k - 1 : Nat) ∧ ∀ i, i < k → A.getD i 0 = 45) (fun _ t => A.length - (intOf t).toNat)
          case atStart => exact ⟨0, Nat.zero_le _, rfl, rfl, fun i hi => absurd hi (Nat.not_lt_zero i)⟩
          case round =>
            obtain ⟨j, hj, rfl, rfl, hd⟩ := hrel
            have HD := Lib.hid hd
            clear hd
            by_cases hjl : j < A.length
            · have hcj := hcell2 j hjl
              by_cases h45 : bat A j = 45
              · have h45' : (bat A j != 45) = false := by simp [h45]
                have h45'' : (bat A j == 45) = true := by simp [h45]
                clear h45
                go_wp2_with fail
                go_round
                case rel => exact ⟨j + 1, by omega, by go_num, by simp, fun i hi => by
                  by_cases e : i = j
                  · rw [e]; exact bat_eq h45''
                  · exact HD.out i (by omega)⟩
                case measure => simp [intOf]; omega
              · have h45' : (bat A j != 45) = true := by simp [h45]
                have h45'' : (bat A j == 45) = false := by simp [h45]
                clear h45
                go_wp2_with fail
                go_meet
                exact ⟨by rw [fromIx_at A j hjl HD.out (bat_ne h45'')], rfl⟩
            · go_wp2_with fail
              go_meet
              obtain rfl : j = A.length := by omega
              exact ⟨by rw [fromIx_end A hAne HD.out], rfl⟩
        case rest =>
          obtain ⟨rfl, rfl⟩ := hcut
          rename_i w0
          have hgood : good false A := by rw [← HO.out]; exact good_comp l false
          obtain ⟨f1, _, _⟩ := fromIx_spec A hAne
          have f2 := from_le A hgood hAne
          have t3 := toIx_le A (A.length - 1)
          have F2 := Lib.hid f2
          have T3 := Lib.hid t3
          clear f2 t3
          go_upto_block 4 with fail
          go_cut [8] (fun a wx => a = .int .i64 (toIx A (A.length - 1)) ∧ wx = wc)
          case first =>
            go_wp2_with fail
            go_loop [8] (fun a => ∃ j : Nat, j < A.length ∧ a = .int .i64 j ∧ toIx A (A.length - 1) = toIx A j) (fun a => (intOf a).toNat)
            case atStart => exact ⟨A.length - 1, by omega, by rw [show ((A.length : Int) - 1) = ((A.length - 1 : Nat) : Int) by omega], rfl⟩
            case round =>
              obtain ⟨j, hj, rfl, hd⟩ := hrel
              have HD := Lib.hid hd
              clear hd
              have hcj := hcell2 j hj
              by_cases hj0 : 0 < j
              · by_cases h45 : bat A j = 45
                · have h45' : (bat A j != 45) = false := by simp [h45]
                  have h45'' : (bat A j == 45) = true := by simp [h45]
                  clear h45
                  go_wp2_with fail
                  go_round
                  case rel => exact ⟨j - 1, by omega, by rw [show ((j : Int) - 1) = ((j - 1 : Nat) : Int) by omega], by rw [HD.out, toIx_step A j hj0 h45'']⟩
                  case measure => simp [intOf]; omega
                · have h45' : (bat A j != 45) = true := by simp [h45]
                  have h45'' : (bat A j == 45) = false := by simp [h45]
                  clear h45
                  go_wp2_with fail
                  go_meet
                  exact ⟨by rw [HD.out, toIx_stop A j h45''], rfl⟩
              · go_wp2_with fail
                go_meet
                obtain rfl : j = 0 := by omega
                exact ⟨by rw [HD.out]; rfl, rfl⟩
          case rest =>
            obtain ⟨rfl, rfl⟩ := hcut
            obtain ⟨f, hf⟩ : ∃ f, f = fromIx A := ⟨_, rfl⟩
            obtain ⟨t, ht⟩ : ∃ t, t = toIx A (A.length - 1) := ⟨_, rfl⟩
            have f2 := F2.out
            have t3 := T3.out
            rw [← hf] at f1 f2
            rw [← ht] at f2 t3
            rw [← hf, ← ht]
            have HF := Lib.hid hf
            have HT := Lib.hid ht
            clear hf ht
            have hbs' := hbs.window f (t + 1) (by omega) (by omega)
            go_wp2_with fail
            go_ret
            have hs : slug l = (A.take (t + 1)).drop f := by rw [slug, if_neg hne, HO.out, trim, HF.out, HT.out]
            have hlen : (slug l).length = t + 1 - f := by rw [hs, List.length_drop, List.length_take]; omega
            rw [hlen, hs]
            unfold maxLen at *
            refine ⟨some ⟨b2, o2 + f, none⟩, c2 - f, ?_, by omega, by omega, hbs', hbw⟩
            rfl

theorem slugDoor_any (p : Option Addr) (n c : Nat) (l : List UInt8) (w : World) (h : Bs w p n l) (hnc : n ≤ c) (hcm : c ≤ maxLen) (hn : n ≤ 1000000) :
    Calls Try.prog 26 #[.slice p n c] w fun e w' => ∃ p' c', e = .returned (.slice p' (slug l).length c') ∧ (slug l).length ≤ c' ∧ c' ≤ maxLen ∧ Bs w' p' (slug l).length (slug l) ∧ Below w.heap.size w w' := by
  go_enter Try.func26, Try.ntmps26
  go_wp2_with fail
  refine (slug_any p n c l _ h hnc hcm hn).mono ?_
  rintro e w1 ⟨p1, c1, rfl, a1, a2, a3, a4⟩
  go_wp2_with fail
  go_ret
  exact ⟨p1, c1, rfl, a1, a2, a3, a4⟩

theorem comp_len (l : List UInt8) : ∀ s, (comp s l).length ≤ l.length := by
  induction l with
  | nil => intro s; simp [comp]
  | cons c r ih =>
    intro s
    have h1 := ih false
    have h2 := ih true
    rw [comp]
    split
    · simp; omega
    · split
      · simp; omega
      · simp; omega
theorem slug_len (l : List UInt8) : (slug l).length ≤ l.length := by
  unfold slug
  split
  · simp
  · rw [trim, List.length_drop, List.length_take]
    have := comp_len l false
    omega

theorem implSlug_any (p : Option Addr) (n c : Nat) (l : List UInt8) (w : World) (h : Bs w p n l) (hn : n ≤ 1000000) :
    Calls Try.prog 18 #[.slice p n c] w fun e w' => ∃ p' c', e = .returned (.slice p' (slug l).length c') ∧ (slug l).length ≤ c' ∧ c' ≤ maxLen ∧ Bs w' p' (slug l).length (slug l) ∧ Below w.heap.size w w' := by
  have hlen := slug_len l
  have hl := h.len
  rw [hl] at hlen
  clear hl
  go_enter Try.func18, Try.ntmps18
  go_wp2_with fail
  refine (own_bs p n c l _ h (by omega)).mono ?_
  rintro e w1 ⟨p1, c1, rfl, a1, a2, a3, a4⟩
  go_wp2_with fail
  refine (slugDoor_any p1 n c1 l _ a3 a1 a2 hn).mono ?_
  rintro e w2 ⟨p2, c2, rfl, b1, b2, b3, b4⟩
  go_wp2_with fail
  refine (own_bs p2 _ c2 (slug l) _ b3 (by omega)).mono ?_
  rintro e w3 ⟨p3, c3, rfl, d1, d2, d3, d4⟩
  go_wp2_with fail
  go_ret
  exact ⟨p3, c3, rfl, d1, d2, d3, a4.trans ((b4.trans (d4.mono b4.size)).mono a4.size)⟩

/-- FnSlugAgain returns true and nothing that was there turns -/
theorem fnSlugAgain_law (p : Option Addr) (n c : Nat) (l : List UInt8) (w : World) (h : Bs w p n l) (_hnc : n ≤ c) (hcm : c ≤ maxLen) :
    Calls Try.prog 8 #[.slice p n c] w fun e w' => e = .returned (.bool true) ∧ Below w.heap.size w w' := by
  have hcm' : c ≤ 2 ^ 63 - 1 := hcm
  by_cases hbig : 2000 < n
  · by_cases hbig2 : 2147483647 < n
    · go_enter Try.func8, Try.ntmps8
      go_wp2_with fail
      go_ret
      exact ⟨rfl, Below.refl _ _⟩
    · go_enter Try.func8, Try.ntmps8
      go_wp2_with fail
      go_ret
      exact ⟨rfl, Below.refl _ _⟩
  have kc := conv_first
  have hlen := slug_len l
  have hl := h.len
  rw [hl] at hlen
  clear hl
  have hag := Lib.hid (slug_again l)
  have hx : slug [97, 32, 98] = [97, 45, 98] := by decide
  have HX := Lib.hid hx
  clear hx
  obtain ⟨S, hS⟩ : ∃ S, S = slug l := ⟨_, rfl⟩
  rw [← hS] at hlen hag
  have HS := Lib.hid hS
  clear hS
  go_enter Try.func8, Try.ntmps8
  go_wp2_with fail
  refine (clone_bs p n c l _ h (by omega)).mono ?_
  rintro e w1 ⟨p1, c1, rfl, a1, a2, a3, a4⟩
  go_wp2_with fail
  refine (implSlug_any p1 n c1 l _ a3 (by omega)).mono ?_
  rw [← HS.out]
  rintro e w2 ⟨p2, c2, rfl, b1, b2, b3, b4⟩
  go_wp2_with fail
  refine (clone_bs p2 _ c2 S _ b3 (by omega)).mono ?_
  rintro e w3 ⟨p3, c3, rfl, d1, d2, d3, d4⟩
  go_wp2_with fail
  refine (implSlug_any p3 _ c3 S _ d3 (by omega)).mono ?_
  rw [hag.out]
  rintro e w4 ⟨p4, c4, rfl, e1, e2, e3, e4⟩
  have b3' : Bs w4 p2 S.length S := b3.below (d4.trans (e4.mono d4.size)) (Nat.le_refl _)
  go_wp2_with fail
  refine (equal_any _ _ _ c4 _ c2 S S _ e3 b3').mono ?_
  rintro e w5 ⟨rfl, rfl⟩
  have hss : (S == S) = true := by simp
  rw [hss]
  clear hss
  go_wp2_with fail
  refine (implSlug_any _ 3 3 [97, 32, 98] _ (Bs.new w4 [97, 32, 98] _ _ _ 3 rfl rfl) (by omega)).mono ?_
  rw [HX.out]
  rintro e w5 ⟨p5, c5, rfl, f1, f2, f3, f4⟩
  have f3' : Bs w5 p5 3 [97, 45, 98] := f3
  have hcv := f3'.convert c5
  go_wp2_with fail
  go_ret
  have hb := a4.trans ((b4.trans ((d4.trans (e4.mono d4.size)).mono b4.size)).mono a4.size)
  refine ⟨ret_bool ?_, hb.trans (((Below.refl _ _).alloc (Nat.le_refl _) _).trans (f4.mono (by simp)) |>.mono hb.size)⟩
  decide +kernel

end Go.Proofs.Ytnoaoehpmjljeaa
