/- Smart punctuation: fractions; a line of right pieces becomes what they mean. Plain law, no program in sight. -/
import Derived.Test.YtnkjnlmghnomiaaDoorPanC
namespace Go.Proofs.YtnkjnlmghnomiaaDoor
open Go.ChangeShapes Go.WideShapes Go.ChangeAt Go.RowKit

section
variable {F : Cfg} {l rest o : List UInt8} {i : Nat}

theorem dig_range {n : Int} (h : digI n = true) : 48 ≤ n ∧ n ≤ 57 := by
  unfold digI at h
  simpa using h
theorem cb_dig (hf : F.frac = false) {n : Int} (h : digI n = true) : cbI F n = true ↔ (n = 49 ∨ n = 51) := by
  have := dig_range h
  unfold cbI
  rw [hf]
  simp
  omega
theorem cb_47 : cbI F 47 = false := by
  unfold cbI
  cases F.frac <;> simp

/-- digits behind a digit or a slash stay -/
theorem digs (hf : F.frac = false) : ∀ {a : List UInt8} {i : Nat} {m : List UInt8}, l.drop i = a ++ m → (∀ c ∈ a, digI (c.toNat : Int) = true) → (prevI l i = 47 ∨ digI (prevI l i) = true) → PantAt F l (i + a.length) o → PantAt F l i (a ++ o)
  | [], _, _, _, _, _, h => h
  | c :: a, i, m, h, hp, hq, hr => by
    obtain ⟨h1, h2, h3⟩ := at_cons h
    have hc := hp c (List.mem_cons_self ..)
    have hnext : PantAt F l (i + 1) (a ++ o) := digs hf (a := a) h3 (fun x hx => hp x (List.mem_cons_of_mem _ hx)) (Or.inr (by rw [prev_c h]; exact hc)) (by rw [show i + 1 + a.length = i + (c :: a).length by simp; omega]; exact hr)
    by_cases hb : cbI F (c.toNat : Int) = true
    · exact PantAt.step (o := [c]) (k := 0) h (by simp) hb rfl (.num1 hf ((cb_dig hf hc).1 hb) (by simp) hq) hnext
    · exact PantAt.run (a := [c]) h (fun x hx => by rw [List.mem_singleton.1 hx]; simpa using hb) hnext

theorem piece12f (hf : F.frac = true) (n m : Nat) (hn : 0 < n) (hp : edgeI (prevI l i) = true) (hd : l.drop i = decL n ++ 47 :: (decL m ++ 32 :: rest)) (r : PantAt F l (i + (decL n).length + 1 + (decL m).length + 1) o) :
    PantAt F l i (supL ++ (decL n ++ (fraslL ++ (decL m ++ (subL ++ 32 :: o))))) := by
  have d1 := (at_app (fun _ => true) hd (fun _ _ => rfl)).2
  obtain ⟨_, _, d2⟩ := at_cons d1
  have d3 := (at_app (fun _ => true) d2 (fun _ _ => rfl)).2
  have ha := decL_pos n
  have hm := decL_pos m
  obtain ⟨A, hA⟩ : ∃ A, A = decL n := ⟨_, rfl⟩
  obtain ⟨M, hM⟩ : ∃ M, M = decL m := ⟨_, rfl⟩
  have f1 := decL_first hn
  have dA := decL_dig n
  have dM := decL_dig m
  rw [← hA] at hd d1 d2 d3 ha f1 dA r ⊢
  rw [← hM] at hd d1 d2 d3 hm dM r ⊢
  have hbat : ∀ j, bat (A ++ 47 :: (M ++ 32 :: rest)) (A.length + j) = bat (47 :: (M ++ 32 :: rest)) j := fun j => bat_app_r j
  have h := PantAt.step (F := F) (k := A.length + 1 + M.length - 1) hd (by simp; omega) ?_ rfl (.gen A.length (A.length + 1 + M.length) hf (by rw [bat_app_l ha]; exact f1) hp ha ?_ ?_ (by omega) ?_ ?_ (by simp; omega)) (o' := 32 :: o) ?_
  · have e1 : (A ++ 47 :: (M ++ 32 :: rest)).take A.length = A := by rw [List.take_append_of_le_length (Nat.le_refl _), List.take_length]
    have e2 : ((A ++ 47 :: (M ++ 32 :: rest)).take (A.length + 1 + M.length)).drop (A.length + 1) = M := by
      rw [show A ++ 47 :: (M ++ 32 :: rest) = (A ++ [47]) ++ (M ++ 32 :: rest) by simp, show A.length + 1 + M.length = (A ++ [47]).length + M.length by simp, List.take_length_add_append, show A.length + 1 = (A ++ [47]).length by simp, List.drop_left, List.take_left]
    rw [e1, e2] at h
    simpa only [List.append_assoc, List.cons_append, List.nil_append] using h
  · rw [bat_app_l ha]
    unfold cbI
    rw [hf]
    simp
    omega
  · intro j hj
    rw [bat_app_l hj]
    exact dA _ (by simp [hj])
  · have := hbat 0
    rw [Nat.add_zero] at this
    rw [this]
    rfl
  · intro j h1 h2
    obtain ⟨k, rfl⟩ : ∃ k, j = A.length + (k + 1) := ⟨j - A.length - 1, by omega⟩
    rw [hbat, bat_cs, bat_app_l (by omega)]
    exact dM _ (by simp [show k < M.length by omega])
  · rw [show A.length + 1 + M.length = A.length + (M.length + 1) by omega, hbat, bat_cs]
    have := bat_app_r (a := M) (m := 32 :: rest) 0
    rw [Nat.add_zero] at this
    rw [this]
    rfl
  · rw [show i + (A.length + 1 + M.length - 1) + 1 = i + A.length + 1 + M.length by omega]
    exact PantAt.blank d3 r

theorem decL_two {n : Nat} (h0 : 0 < n) (k : Nat) (hk : k < 10) (h : bat (decL n) 0 = 48 + (k : Int)) (h1 : (decL n).length = 1) : n = k := by
  have : n < 10 := by
    rcases Nat.lt_or_ge n 10 with h2 | h2
    · exact h2
    · have := decL_big h2; omega
  rw [decL_one this] at h
  omega

theorem piece12n (hf : F.frac = false) (n m : Nat) (hn : 0 < n) (hm : 0 < m) (hp : edgeI (prevI l i) = true) (hr : 2 ≤ rest.length) (hd : l.drop i = decL n ++ 47 :: (decL m ++ 32 :: rest)) (r : PantAt F l (i + (decL n).length + 1 + (decL m).length + 1) o)
    (hx : ¬ (n = 1 ∧ m = 2) ∧ ¬ (n = 1 ∧ m = 4) ∧ ¬ (n = 3 ∧ m = 4)) :
    PantAt F l i (decL n ++ 47 :: (decL m ++ 32 :: o)) := by
  have d1 := (at_app (fun _ => true) hd (fun _ _ => rfl)).2
  obtain ⟨_, _, d2⟩ := at_cons d1
  have d3 := (at_app (fun _ => true) d2 (fun _ _ => rfl)).2
  have p2 : PantAt F l (i + (decL n).length + 1) (decL m ++ 32 :: o) := digs hf d2 (decL_dig m) (Or.inl (prev_c d1)) (PantAt.blank d3 r)
  have p1 : PantAt F l (i + (decL n).length) (47 :: (decL m ++ 32 :: o)) := PantAt.run (a := [47]) d1 (fun c hc => by rw [List.mem_singleton.1 hc]; exact cb_47) p2
  have hm0 := decL_pos m
  have hmd := decL_dig m
  -- the first digit, and the others
  cases hA : decL n with
  | nil => have := decL_pos n; rw [hA] at this; simp at this
  | cons c a =>
    have hdig := decL_dig n
    have key : ∀ k : Nat, k < 10 → bat (decL n ++ 47 :: (decL m ++ 32 :: rest)) 0 = 48 + (k : Int) → bat (decL n ++ 47 :: (decL m ++ 32 :: rest)) 1 = 47 → n = k := by
      intro k hk h0 h1
      rw [bat_app_l (decL_pos n)] at h0
      refine decL_two hn k hk h0 ?_
      rcases Nat.lt_or_ge 1 (decL n).length with h2 | h2
      · rw [bat_app_l h2] at h1
        have := hdig _ (List.getElem_mem h2)
        have e : bat (decL n) 1 = (((decL n)[1]).toNat : Int) := by unfold bat; simp [h2]
        rw [e] at h1
        rw [h1] at this
        cases this
      · have := decL_pos n
        omega
    have key2 : ∀ k : Nat, k < 10 → (decL n).length = 1 → bat (decL n ++ 47 :: (decL m ++ 32 :: rest)) 2 = 48 + (k : Int) → m ≠ k → digI (bat (decL n ++ 47 :: (decL m ++ 32 :: rest)) 3) = true := by
      intro k hk hn1 h2 hmk
      have e2 := bat_app_r (a := decL n) (m := 47 :: (decL m ++ 32 :: rest)) 1
      have e3 := bat_app_r (a := decL n) (m := 47 :: (decL m ++ 32 :: rest)) 2
      rw [hn1] at e2 e3
      rw [show (1 + 1 : Nat) = 2 from rfl] at e2
      rw [show (1 + 2 : Nat) = 3 from rfl] at e3
      rw [e2, bat_cs, bat_app_l hm0] at h2
      rw [e3, bat_cs]
      rcases Nat.lt_or_ge 1 (decL m).length with h4 | h4
      · rw [bat_app_l h4]
        exact hmd _ (by simp [h4])
      · exact absurd (decL_two hm k hk h2 (by omega)) hmk
    have hone : ∀ k : Nat, k < 10 → n = k → (decL n).length = 1 := by
      intro k hk e
      rw [decL_small (by omega)]
      rfl
    have hlen : 3 < (decL n ++ 47 :: (decL m ++ 32 :: rest)).length := by
      have := decL_pos n
      simp
      omega
    have hnext : PantAt F l (i + 1) (a ++ 47 :: (decL m ++ 32 :: o)) := by
      rw [hA] at hd p1 hdig
      obtain ⟨_, _, e1⟩ := at_cons hd
      refine digs hf e1 (fun x hx => hdig x (List.mem_cons_of_mem _ hx)) (Or.inr (by rw [prev_c hd]; exact hdig c (List.mem_cons_self ..))) ?_
      rw [show i + 1 + a.length = i + (c :: a).length by simp; omega]
      exact p1
    have hc := hdig c (by rw [hA]; exact List.mem_cons_self ..)
    have hc0 : bat (decL n ++ 47 :: (decL m ++ 32 :: rest)) 0 = (c.toNat : Int) := by rw [hA]; rfl
    have hget : (decL n ++ 47 :: (decL m ++ 32 :: rest)).getD 0 0 = c := by rw [hA]; rfl
    by_cases hb : cbI F (c.toNat : Int) = true
    · have hm0 := (cb_dig hf hc).1 hb
      refine PantAt.step (o := [c]) (k := 0) hd (by omega) (by rw [hc0]; exact hb) rfl ?_ hnext
      rw [← hget]
      refine .num2 hf (by rw [hc0]; exact hm0) hlen hp (fun a0 a1 a2 => ?_) (fun a0 a1 a2 => ?_)
      · have hn1 : n = 1 := key 1 (by decide) a0 a1
        rcases a2 with a2 | a2
        · exact key2 2 (by decide) (hone 1 (by decide) hn1) a2 (fun e => hx.1 ⟨hn1, e⟩)
        · exact key2 4 (by decide) (hone 1 (by decide) hn1) a2 (fun e => hx.2.1 ⟨hn1, e⟩)
      · have hn3 : n = 3 := key 3 (by decide) a0 a1
        exact key2 4 (by decide) (hone 3 (by decide) hn3) a2 (fun e => hx.2.2 ⟨hn3, e⟩)
    · rw [hA] at hd
      exact PantAt.run (a := [c]) hd (fun x hx => by rw [List.mem_singleton.1 hx]; simpa using hb) hnext

theorem piece12 (n m : Nat) (hn : 0 < n) (hm : 0 < m) (hp : edgeI (prevI l i) = true) (hr : 2 ≤ rest.length) (hd : l.drop i = decL n ++ 47 :: (decL m ++ 32 :: rest)) (r : PantAt F l (i + (decL n).length + 1 + (decL m).length + 1) o) :
    PantAt F l i (fractL F n m ++ 32 :: o) := by
  unfold fractL
  cases hf : F.frac with
  | true =>
    rw [if_pos rfl]
    simp only [List.append_assoc]
    exact piece12f hf n m hn hp hd r
  | false =>
    rw [if_neg (by decide)]
    have d1 := (at_app (fun _ => true) hd (fun _ _ => rfl)).2
    obtain ⟨_, _, d2⟩ := at_cons d1
    have d3 := (at_app (fun _ => true) d2 (fun _ _ => rfl)).2
    have hbl := PantAt.blank d3 r
    by_cases h1 : n = 1 ∧ m = 2
    · rw [if_pos h1]
      obtain ⟨rfl, rfl⟩ := h1
      have e1 : decL 1 = [49] := by rw [decL_small (by decide)]; rfl
      have e2 : decL 2 = [50] := by rw [decL_small (by decide)]; rfl
      rw [e1, e2] at hd hbl
      exact PantAt.step (k := 2) hd (by simp <;> omega) ((cb_dig hf (n := 49) rfl).2 (Or.inl rfl)) rfl (.half hf rfl rfl rfl rfl (by simp <;> omega) hp) hbl
    · rw [if_neg h1]
      by_cases h2 : n = 1 ∧ m = 4
      · rw [if_pos h2]
        obtain ⟨rfl, rfl⟩ := h2
        have e1 : decL 1 = [49] := by rw [decL_small (by decide)]; rfl
        have e2 : decL 4 = [52] := by rw [decL_small (by decide)]; rfl
        rw [e1, e2] at hd hbl
        exact PantAt.step (k := 2) hd (by simp <;> omega) ((cb_dig hf (n := 49) rfl).2 (Or.inl rfl)) rfl (.quarter hf rfl rfl rfl rfl (by simp <;> omega) hp) hbl
      · rw [if_neg h2]
        by_cases h3 : n = 3 ∧ m = 4
        · rw [if_pos h3]
          obtain ⟨rfl, rfl⟩ := h3
          have e1 : decL 3 = [51] := by rw [decL_small (by decide)]; rfl
          have e2 : decL 4 = [52] := by rw [decL_small (by decide)]; rfl
          rw [e1, e2] at hd hbl
          exact PantAt.step (k := 2) hd (by simp <;> omega) ((cb_dig hf (n := 51) rfl).2 (Or.inr rfl)) rfl (.three hf rfl rfl rfl rfl (by simp <;> omega) hp) hbl
        · rw [if_neg h3]
          have := piece12n hf n m hn hm hp hr hd r ⟨h1, h2, h3⟩
          simpa using this

/-- a right piece, with a blank behind it, becomes what it means -/
theorem piece {p : Pc} (hk : OkP p) (hd : l.drop i = wrL p ++ 32 :: rest) (hp : edgeI (prevI l i) = true) (hr : 2 ≤ rest.length) (hn : p.kind = 10 → bat rest 0 ≠ 46 ∨ bat rest 1 ≠ 32) (r : PantAt F l (i + (wrL p).length + 1) o) :
    PantAt F l i (mnL F p ++ 32 :: o) := by
  have hkind := hk.kind
  obtain ⟨kind, v, a, b, n, m⟩ := p
  have hv := hk.var
  have ha := hk.a
  have hs := hk.single
  have h1 := hk.one
  have hb := hk.b
  have hn1 := hk.n1
  have hm1 := hk.m1
  simp only at hkind hv ha hs h1 hb hn1 hm1 hn
  clear hk
  have h15 : kind = 0 ∨ kind = 1 ∨ kind = 2 ∨ kind = 3 ∨ kind = 4 ∨ kind = 5 ∨ kind = 6 ∨ kind = 7 ∨ kind = 8 ∨ kind = 9 ∨ kind = 10 ∨ kind = 11 ∨ kind = 12 ∨ kind = 13 ∨ kind = 14 := by omega
  rcases h15 with rfl | rfl | rfl | rfl | rfl | rfl | rfl | rfl | rfl | rfl | rfl | rfl | rfl | rfl | rfl
  all_goals
    simp (decide := true) only [wrL, mnL, if_true, if_false, List.append_assoc, List.cons_append, List.nil_append] at hd r ⊢
  · exact piece0 a ha hd r
  · exact piece1 a ha hp hd (by simpa [Nat.add_assoc, Nat.add_comm, Nat.add_left_comm] using r)
  · obtain ⟨s1, s2, s3⟩ := hs rfl
    exact piece2 a ha s1 s2 s3 hp hr hd (by simpa [Nat.add_assoc, Nat.add_comm, Nat.add_left_comm] using r)
  · exact piece3 a ha hp hd (by simpa [quotL, Nat.add_assoc, Nat.add_comm, Nat.add_left_comm] using r)
  · exact piece4 a v hv ha hr hd (by simpa [Nat.add_assoc, Nat.add_comm, Nat.add_left_comm] using r)
  · exact piece5 a ha hp hd (by simpa [Nat.add_assoc, Nat.add_comm, Nat.add_left_comm] using r)
  · exact piece6 v hp hr hd r
  · exact piece7 v a b ha (oneL_words (hb rfl)) hd (by simpa [Nat.add_assoc, Nat.add_comm, Nat.add_left_comm] using r)
  · exact piece8 a ha hd (by simpa [Nat.add_assoc, Nat.add_comm, Nat.add_left_comm] using r)
  · exact piece9 hd r
  · exact piece10 hr (hn rfl) hd r
  · exact piece11 v hv hd r
  · exact piece12 n m hn1 hm1 hp hr hd (by simpa [Nat.add_assoc, Nat.add_comm, Nat.add_left_comm] using r)
  · exact piece13 v hd r
  · exact piece14 a ha hd (by simpa [tagL, Nat.add_assoc, Nat.add_comm, Nat.add_left_comm] using r)

end

/-- pieces with blanks behind them, and a word at the end -/
def lineL : List Pc → List UInt8
  | [] => [122, 122]
  | p :: r => wrL p ++ 32 :: lineL r
def meanL (F : Cfg) : List Pc → List UInt8
  | [] => [122, 122]
  | p :: r => mnL F p ++ 32 :: meanL F r
/-- right pieces, without three dots with blanks behind two dots; d: two dots stand ahead -/
inductive OkL : Bool → List Pc → Prop
  | nil {d : Bool} : OkL d []
  | cons {d : Bool} {p : Pc} {r : List Pc} (hp : OkP p) (hd : d = true → p.kind ≠ 9) (hr : OkL (p.kind == 10) r) : OkL d (p :: r)

theorem wrL_dots {p : Pc} (hk : OkP p) (h9 : p.kind ≠ 9) (m : List UInt8) : bat (wrL p ++ m) 0 ≠ 46 ∨ bat (wrL p ++ m) 1 ≠ 32 := by
  have hkind := hk.kind
  have ha := (wordsL_first hk.a)
  have hdec := decL_first hk.n1
  have hdp := decL_pos p.n
  obtain ⟨kind, v, a, b, n, q⟩ := p
  simp only at hkind ha h9 hdec hdp
  have nl : ∀ k : List UInt8, bat (a ++ k) 0 ≠ 46 := by
    intro k e
    rw [bat_app_l ha.1] at e
    rw [e] at ha
    cases ha.2
  have h15 : kind = 0 ∨ kind = 1 ∨ kind = 2 ∨ kind = 3 ∨ kind = 4 ∨ kind = 5 ∨ kind = 6 ∨ kind = 7 ∨ kind = 8 ∨ kind = 10 ∨ kind = 11 ∨ kind = 12 ∨ kind = 13 ∨ kind = 14 := by omega
  rcases h15 with rfl | rfl | rfl | rfl | rfl | rfl | rfl | rfl | rfl | rfl | rfl | rfl | rfl | rfl
  all_goals simp (decide := true) only [wrL, if_true, if_false, List.append_assoc, List.cons_append, List.nil_append]
  · exact Or.inl (nl _)
  · exact Or.inl (by rw [bat_c0]; decide)
  · exact Or.inl (by rw [bat_c0]; decide)
  · exact Or.inl (by show bat (38 :: _) 0 ≠ 46; rw [bat_c0]; decide)
  · exact Or.inl (nl _)
  · exact Or.inl (by rw [bat_c0]; decide)
  · refine Or.inl ?_
    rcases hy_cases v with ⟨_, hy⟩ | ⟨_, hy⟩ | ⟨_, hy⟩ <;> rw [hy] <;> simp [bat]
  · exact Or.inl (nl _)
  · exact Or.inl (nl _)
  · exact Or.inr (by rw [bat_cs, bat_c0]; decide)
  · refine Or.inl ?_
    unfold signL
    split
    · simp [bat]
    · split
      · simp [bat]
      · split
        · simp [bat]
        · split
          · simp [bat]
          · split <;> simp [bat]
  · refine Or.inl ?_
    rw [bat_app_l hdp]
    omega
  · refine Or.inl ?_
    unfold entL
    split
    · simp [bat]
    · split
      · simp [bat]
      · split
        · simp [bat]
        · split <;> simp [bat, hellipL, copyL]
  · exact Or.inl (by rw [bat_c0]; decide)
theorem lineL_len (r : List Pc) : 2 ≤ (lineL r).length := by
  cases r with
  | nil => simp [lineL]
  | cons p r =>
    have : 2 ≤ (lineL r).length := lineL_len r
    simp [lineL]
    omega
theorem line_at {F : Cfg} {l : List UInt8} : ∀ {ps : List Pc} {d : Bool} {i : Nat}, OkL d ps → l.drop i = lineL ps → edgeI (prevI l i) = true → PantAt F l i (meanL F ps)
  | [], _, i, _, h, _ => by
    have hlen := at_len h (by simp [lineL])
    refine PantAt.run (a := [122, 122]) (m := []) h (fun c hc => ?_) ?_
    · have : c = 122 := by simpa using hc
      rw [this]
      exact cb_lett rfl
    · have hs := PantAt.stop (F := F) (l := l)
      rw [hlen] at hs
      exact hs
  | p :: r, d, i, hk, h, hp => by
    cases hk with
    | cons h1 h2 h3 =>
      have d1 := (at_app (fun _ => true) h (fun _ _ => rfl)).2
      obtain ⟨_, _, d2⟩ := at_cons d1
      refine piece h1 h hp (lineL_len r) (fun e => ?_) ?_
      · rw [e] at h3
        cases h3 with
        | nil => exact Or.inl (by simp [lineL, bat])
        | cons g1 g2 g3 => exact wrL_dots g1 (g2 rfl) _
      · refine line_at h3 d2 ?_
        rw [prev_c d1]
        rfl
theorem line_pant {F : Cfg} {ps : List Pc} (h : OkL false ps) : PantAt F (lineL ps) 0 (meanL F ps) := line_at h rfl rfl

theorem wrL_len {p : Pc} (hk : OkP p) : (wrL p).length ≤ 100 := by
  have hkind := hk.kind
  have ha := wordsL_len hk.a
  have hb : p.kind = 7 → p.b.length ≤ 43 := fun e => wordsL_len (oneL_words (hk.b e))
  have hn := decL_len hk.n2
  have hm := decL_len hk.m2
  obtain ⟨kind, v, a, b, n, q⟩ := p
  simp only at hkind ha hb hn hm
  have h15 : kind = 0 ∨ kind = 1 ∨ kind = 2 ∨ kind = 3 ∨ kind = 4 ∨ kind = 5 ∨ kind = 6 ∨ kind = 7 ∨ kind = 8 ∨ kind = 9 ∨ kind = 10 ∨ kind = 11 ∨ kind = 12 ∨ kind = 13 ∨ kind = 14 := by omega
  have hy : (hyL v).length ≤ 3 := by rcases hy_cases v with ⟨_, hy⟩ | ⟨_, hy⟩ | ⟨_, hy⟩ <;> rw [hy] <;> simp
  have hs : (signL v).length ≤ 4 := by
    unfold signL
    split
    · simp
    · split
      · simp
      · split
        · simp
        · split
          · simp
          · split <;> simp
  have he : (entL v).length ≤ 8 := by
    unfold entL
    split
    · simp
    · split
      · simp
      · split
        · simp
        · split <;> simp [hellipL, copyL]
  have hen : (endL v).length ≤ 2 := by
    unfold endL
    split
    · simp
    · split
      · simp
      · split
        · simp
        · split
          · simp
          · split
            · simp
            · split <;> simp
  rcases h15 with rfl | rfl | rfl | rfl | rfl | rfl | rfl | rfl | rfl | rfl | rfl | rfl | rfl | rfl | rfl
  all_goals simp (decide := true) only [wrL, if_true, if_false, List.length_append, List.length_cons, List.length_nil, quotL, tagL]
  all_goals first | omega | (have := hb rfl; omega)
theorem lineL_le : ∀ {ps : List Pc} {d : Bool}, OkL d ps → (lineL ps).length ≤ 101 * ps.length + 2
  | [], _, _ => by simp [lineL]
  | p :: r, _, h => by
    cases h with
    | cons h1 h2 h3 =>
      have := wrL_len h1
      have := lineL_le h3
      simp only [lineL, List.length_append, List.length_cons]
      omega

end Go.Proofs.YtnkjnlmghnomiaaDoor
