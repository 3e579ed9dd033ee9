/- Smart punctuation: each right piece becomes what it means. Plain law, no program in sight. -/
import Derived.Test.YtnkjnlmghnomiaaDoorPanB
namespace Go.Proofs.YtnkjnlmghnomiaaDoor
open Go.ChangeShapes Go.WideShapes Go.ChangeAt Go.RowKit

theorem lett_cases {n : Int} (h : lettI n = true) : (97 ≤ n ∧ n ≤ 122) ∨ (65 ≤ n ∧ n ≤ 90) := by
  unfold lettI at h
  simpa using h
theorem cb_lett {F : Cfg} {n : Int} (h : lettI n = true) : cbI F n = false := by
  have := lett_cases h
  cases F with
  | mk a b c d e =>
    unfold cbI
    cases e <;> simp <;> omega
theorem cb_32 (F : Cfg) : cbI F 32 = false := by
  cases F with
  | mk a b c d e => cases e <;> simp [cbI]
theorem cb_lw {F : Cfg} {n : Int} (h : lwI n = true) : cbI F n = false := by
  unfold lwI at h
  rw [Bool.or_eq_true] at h
  rcases h with h | h
  · exact cb_lett h
  · rw [show n = 32 by simpa using h]; exact cb_32 F
theorem lwI_lett {n : Int} (h : lettI n = true) : lwI n = true := by unfold lwI; rw [h]; rfl
theorem edge_cases {n : Int} (h : edgeI n = true) : n = 0 ∨ n = 32 := by
  unfold edgeI at h
  simpa using h

theorem prev_app {l a m : List UInt8} {i : Nat} (h : l.drop i = a ++ m) (h0 : 0 < a.length) : prevI l (i + a.length) = bat a (a.length - 1) := by
  unfold prevI
  rw [if_neg (by omega), show i + a.length - 1 = i + (a.length - 1) by omega, at_bat h (by omega)]
theorem prev_c {l m : List UInt8} {i : Nat} {c : UInt8} (h : l.drop i = c :: m) : prevI l (i + 1) = (c.toNat : Int) := by
  rw [prevI_succ]
  exact (at_cons h).2.1

theorem PantAt.blank {F : Cfg} {l rest o : List UInt8} {i : Nat} (h : l.drop i = 32 :: rest) (r : PantAt F l (i + 1) o) : PantAt F l i (32 :: o) :=
  PantAt.run (a := [32]) (m := rest) h (fun c hc => by rw [List.mem_singleton.1 hc]; exact cb_32 F) r
theorem PantAt.words {F : Cfg} {l m o a : List UInt8} {i : Nat} (h : l.drop i = a ++ m) (ha : wordsL a = true) (r : PantAt F l (i + a.length) o) : PantAt F l i (a ++ o) :=
  PantAt.run h (fun c hc => cb_lw (wordsGo_mem ha c hc)) r
theorem hq_open {F : Cfg} {l : List UInt8} {i : Nat} {a m : List UInt8} (hp : edgeI (prevI l i) = true) (ha : wordsL a = true) : hqB true (prevI l i) (bat (a ++ m) 0) = true := by
  unfold hqB
  rw [if_pos rfl, hp, bat_app_l (wordsL_first ha).1, (wordsL_first ha).2]
  rfl
theorem hq_close {l : List UInt8} {i : Nat} {a m : List UInt8} (h : l.drop i = a ++ m) (ha : wordsL a = true) : hqB false (prevI l (i + a.length)) 32 = true := by
  unfold hqB
  rw [if_neg (by decide), prev_app h (wordsL_first ha).1, wordsL_last ha]
  rfl

section
variable {F : Cfg} {l rest o : List UInt8} {i : Nat} {p : Pc}

theorem piece0 (a : List UInt8) (ha : wordsL a = true) (hd : l.drop i = a ++ 32 :: rest) (r : PantAt F l (i + a.length + 1) o) : PantAt F l i (a ++ 32 :: o) :=
  PantAt.words hd ha (PantAt.blank ((at_app (fun _ => true) hd (fun _ _ => rfl)).2) r)

theorem piece1 (a : List UInt8) (ha : wordsL a = true) (hp : edgeI (prevI l i) = true) (hd : l.drop i = 34 :: (a ++ 34 :: 32 :: rest)) (r : PantAt F l (i + 1 + a.length + 1 + 1) o) :
    PantAt F l i (quoL true (quoK F) false ++ (a ++ (quoL false (quoK F) false ++ 32 :: o))) := by
  obtain ⟨_, _, d1⟩ := at_cons hd
  have d2 := (at_app (fun _ => true) d1 (fun _ _ => rfl)).2
  obtain ⟨_, _, d3⟩ := at_cons d2
  refine PantAt.step (k := 0) hd (by simp <;> omega) (by unfold cbI; rfl) rfl (.dq true rfl (by simp <;> omega) (by rw [bat_cs]; exact hq_open (F := F) hp ha)) ?_
  refine PantAt.words d1 ha ?_
  refine PantAt.step (k := 0) d2 (by simp <;> omega) (by unfold cbI; rfl) rfl (.dq false rfl (by simp <;> omega) (by rw [bat_cs, bat_c0]; exact hq_close d1 ha)) ?_
  exact PantAt.blank d3 r

theorem piece2 (a : List UInt8) (ha : wordsL a = true) (h2 : 2 < a.length) (l1 : lettI (bat a 1) = true) (l2 : lettI (bat a 2) = true) (hp : edgeI (prevI l i) = true) (hr : 2 ≤ rest.length) (hd : l.drop i = 39 :: (a ++ 39 :: 32 :: rest)) (r : PantAt F l (i + 1 + a.length + 1 + 1) o) :
    PantAt F l i (quoL true 115 false ++ (a ++ (quoL false 115 false ++ 32 :: o))) := by
  obtain ⟨_, _, d1⟩ := at_cons hd
  have d2 := (at_app (fun _ => true) d1 (fun _ _ => rfl)).2
  obtain ⟨_, _, d3⟩ := at_cons d2
  refine PantAt.step (k := 0) hd (by simp <;> omega) (by unfold cbI; simp [bat_c0]) rfl (.sopen rfl ?_ ?_ ?_ (by simp; omega) hp) ?_
  · rw [bat_cs, bat_app_l (by omega)]; exact (wordsL_first ha).2
  · rw [bat_cs, bat_app_l (by omega)]; exact l1
  · rw [bat_cs, bat_app_l (by omega)]; exact l2
  refine PantAt.words d1 ha ?_
  have hq := hq_close d1 ha
  unfold hqB at hq
  rw [if_neg (by decide), Bool.and_eq_true] at hq
  refine PantAt.step (k := 0) d2 (by simp <;> omega) (by unfold cbI; simp [bat_c0]) rfl (.sclose rfl rfl (by simp; omega) hq.1) ?_
  exact PantAt.blank d3 r

theorem piece3 (a : List UInt8) (ha : wordsL a = true) (hp : edgeI (prevI l i) = true) (hd : l.drop i = quotL ++ (a ++ (quotL ++ 32 :: rest))) (r : PantAt F l (i + 6 + a.length + 6 + 1) o) :
    PantAt F l i (quoL true (quoK F) F.nbsp ++ (a ++ (quoL false (quoK F) F.nbsp ++ 32 :: o))) := by
  have d1 : l.drop (i + 6) = a ++ (quotL ++ 32 :: rest) := (at_app (fun _ => true) hd (fun _ _ => rfl)).2
  have d2 := (at_app (fun _ => true) d1 (fun _ _ => rfl)).2
  have d3 : l.drop (i + 6 + a.length + 6) = 32 :: rest := (at_app (fun _ => true) d2 (fun _ _ => rfl)).2
  refine PantAt.step (k := 5) hd (by simp [quotL]) (by unfold cbI; simp [bat_c0, quotL]) rfl (.quot true rfl (by have := (wordsL_first ha).1; simp [quotL]; omega) ?_) ?_
  · have e : bat (quotL ++ (a ++ (quotL ++ 32 :: rest))) 6 = bat (a ++ (quotL ++ 32 :: rest)) 0 := rfl
    rw [e]
    exact hq_open (F := F) hp ha
  refine PantAt.words d1 ha ?_
  refine PantAt.step (k := 5) d2 (by simp [quotL]) (by unfold cbI; simp [bat_c0, quotL]) rfl (.quot false rfl (by simp [quotL]) ?_) ?_
  · have e : bat (quotL ++ 32 :: rest) 6 = 32 := rfl
    rw [e]
    exact hq_close d1 ha
  exact PantAt.blank d3 r

theorem piece4 (a : List UInt8) (v : Nat) (hv : v ≤ 6) (ha : wordsL a = true) (hr : 2 ≤ rest.length) (hd : l.drop i = a ++ 39 :: (endL v ++ 32 :: rest)) (r : PantAt F l (i + a.length + 1 + (endL v).length + 1) o) :
    PantAt F l i (a ++ (rsquoL ++ (endL v ++ 32 :: o))) := by
  have d1 := (at_app (fun _ => true) hd (fun _ _ => rfl)).2
  obtain ⟨_, _, d2⟩ := at_cons d1
  have d3 := (at_app (fun _ => true) d2 (fun _ _ => rfl)).2
  refine PantAt.words hd ha ?_
  have hrun : PantAt F l (i + a.length + 1) (endL v ++ 32 :: o) := by
    refine PantAt.run d2 (fun c hc => cb_lett ?_) (PantAt.blank d3 r)
    have h7 : v = 0 ∨ v = 1 ∨ v = 2 ∨ v = 3 ∨ v = 4 ∨ v = 5 ∨ v = 6 := by omega
    have hall : ∀ x ∈ endL v, lettI (x.toNat : Int) = true := by rcases h7 with rfl | rfl | rfl | rfl | rfl | rfl | rfl <;> decide
    exact hall c hc
  have h2 : v ≤ 3 ∨ v = 4 ∨ v = 5 ∨ v = 6 := by omega
  rcases h2 with h2 | h2 | h2 | h2
  · refine PantAt.step (k := 0) d1 (by simp <;> omega) (by unfold cbI; simp [bat_c0]) rfl (.short1 rfl ?_ ?_ ?_) hrun
    · have h4 : v = 0 ∨ v = 1 ∨ v = 2 ∨ v = 3 := by omega
      rcases h4 with rfl | rfl | rfl | rfl <;> rfl
    · have h4 : v = 0 ∨ v = 1 ∨ v = 2 ∨ v = 3 := by omega
      rcases h4 with rfl | rfl | rfl | rfl <;> rfl
    · have h4 : v = 0 ∨ v = 1 ∨ v = 2 ∨ v = 3 := by omega
      rcases h4 with rfl | rfl | rfl | rfl <;> simp [endL]
  all_goals
    subst h2
    exact PantAt.step (k := 0) d1 (by simp <;> omega) (by unfold cbI; simp [bat_c0]) rfl (.short2 rfl rfl rfl (by simp [endL])) hrun

theorem piece5 (a : List UInt8) (ha : wordsL a = true) (hp : edgeI (prevI l i) = true) (hd : l.drop i = 96 :: 96 :: (a ++ 39 :: 39 :: 32 :: rest)) (r : PantAt F l (i + 1 + 1 + a.length + 1 + 1 + 1) o) :
    PantAt F l i (quoL true 100 false ++ (a ++ (quoL false 100 false ++ 32 :: o))) := by
  obtain ⟨_, _, d0⟩ := at_cons hd
  obtain ⟨_, _, d1⟩ := at_cons d0
  have d2 := (at_app (fun _ => true) d1 (fun _ _ => rfl)).2
  obtain ⟨_, _, d3⟩ := at_cons d2
  obtain ⟨_, _, d4⟩ := at_cons d3
  refine PantAt.step (k := 1) hd (by simp <;> omega) (by unfold cbI; simp [bat_c0]) rfl (.tick true rfl rfl (by have := (wordsL_first ha).1; simp; omega) (by rw [bat_cs, bat_cs]; exact hq_open (F := F) hp ha)) ?_
  refine PantAt.words d1 ha ?_
  refine PantAt.step (k := 1) d2 (by simp <;> omega) (by unfold cbI; simp [bat_c0]) rfl (.apos2 false rfl rfl (by simp <;> omega) (by rw [bat_cs, bat_cs, bat_c0]; exact hq_close d1 ha)) ?_
  exact PantAt.blank d4 r

theorem hy_cases (v : Nat) : (v % 3 = 0 ∧ hyL v = [45]) ∨ (v % 3 = 1 ∧ hyL v = [45, 45]) ∨ (v % 3 = 2 ∧ hyL v = [45, 45, 45]) := by
  unfold hyL
  have : v % 3 = 0 ∨ v % 3 = 1 ∨ v % 3 = 2 := by omega
  rcases this with h | h | h <;> rw [h] <;> simp

theorem cb_45 (hd : F.dash = true) : cbI F 45 = true := by unfold cbI; rw [hd]; simp
theorem cb_45n (hd : F.dash = false) : cbI F 45 = false := by
  unfold cbI
  rw [hd]
  cases F.frac <;> simp

theorem piece6 (v : Nat) (hp : edgeI (prevI l i) = true) (hr : 2 ≤ rest.length) (hd : l.drop i = hyL v ++ 32 :: rest) (r : PantAt F l (i + (hyL v).length + 1) o) :
    PantAt F l i (dashL F v true ++ 32 :: o) := by
  have d9 := (at_app (fun _ => true) hd (fun _ _ => rfl)).2
  have hb := PantAt.blank d9 r
  unfold dashL
  cases hD : F.dash with
  | false =>
    rw [if_pos rfl]
    refine PantAt.run hd (fun c hc => ?_) hb
    have : c = 45 := by
      unfold hyL at hc
      have := List.mem_of_mem_take hc
      simpa using this
    rw [this]
    exact cb_45n hD
  | true =>
    rw [if_neg (by decide)]
    rcases hy_cases v with ⟨hv, hy⟩ | ⟨hv, hy⟩ | ⟨hv, hy⟩
    all_goals
      rw [hy] at hd hb d9
      simp only [List.cons_append, List.nil_append] at hd
      cases hL : F.latex
    · rw [if_neg (by decide), if_neg (by omega), if_neg (by omega), if_pos rfl]
      exact PantAt.step (k := 0) hd (by simp <;> omega) (by rw [bat_c0]; exact cb_45 hD) rfl (.dn hD hL rfl rfl (by simp <;> omega) (Or.inl hp)) hb
    · rw [if_pos rfl, if_neg (by omega), if_neg (by omega)]
      exact PantAt.step (k := 0) hd (by simp <;> omega) (by rw [bat_c0]; exact cb_45 hD) rfl (.l1 hD hL rfl (by rw [bat_cs, bat_c0]; decide) (by simp; omega)) hb
    · rw [if_neg (by decide), if_pos hv]
      exact PantAt.step (k := 1) hd (by simp <;> omega) (by rw [bat_c0]; exact cb_45 hD) rfl (.d2 hD hL rfl rfl (by simp <;> omega)) hb
    · rw [if_pos rfl, if_pos hv]
      exact PantAt.step (k := 1) hd (by simp <;> omega) (by rw [bat_c0]; exact cb_45 hD) rfl (.l2 hD hL rfl rfl (by rw [bat_cs, bat_cs, bat_c0]; decide) (by simp <;> omega)) hb
    · rw [if_neg (by decide), if_neg (by omega), if_pos hv, if_pos rfl, List.append_assoc]
      obtain ⟨_, _, d1⟩ := at_cons hd
      obtain ⟨_, _, d2⟩ := at_cons d1
      refine PantAt.step (k := 1) hd (by simp <;> omega) (by rw [bat_c0]; exact cb_45 hD) rfl (.d2 hD hL rfl rfl (by simp <;> omega)) ?_
      exact PantAt.step (k := 0) d2 (by simp <;> omega) (by rw [bat_c0]; exact cb_45 hD) rfl (.dn hD hL rfl rfl (by simp <;> omega) (Or.inr (prev_c d1))) hb
    · rw [if_pos rfl, if_neg (by omega), if_pos hv]
      exact PantAt.step (k := 2) hd (by simp <;> omega) (by rw [bat_c0]; exact cb_45 hD) rfl (.l3 hD hL rfl rfl rfl (by simp <;> omega)) hb

theorem oneL_words {s : List UInt8} (h : oneL s = true) : wordsL s = true := by
  unfold oneL at h
  rw [Bool.and_eq_true] at h
  exact h.2

theorem piece7 (v : Nat) (a b : List UInt8) (ha : wordsL a = true) (hbw : wordsL b = true) (hd : l.drop i = a ++ (hyL v ++ (b ++ 32 :: rest))) (r : PantAt F l (i + a.length + (hyL v).length + b.length + 1) o) :
    PantAt F l i (a ++ (dashL F v false ++ (b ++ 32 :: o))) := by
  have d1 := (at_app (fun _ => true) hd (fun _ _ => rfl)).2
  have d2 := (at_app (fun _ => true) d1 (fun _ _ => rfl)).2
  refine PantAt.words hd ha ?_
  have hb : PantAt F l (i + a.length + (hyL v).length) (b ++ 32 :: o) := piece0 b hbw d2 r
  have hpv := prev_app hd (wordsL_first ha).1
  have hpl := wordsL_last ha
  rw [← hpv] at hpl
  obtain ⟨h0, hf⟩ := wordsL_first hbw
  have hf' : lettI (bat (b ++ 32 :: rest) 0) = true := by rw [bat_app_l h0]; exact hf
  have hn45 : bat (b ++ 32 :: rest) 0 ≠ 45 := by
    intro e
    rw [e] at hf'
    cases hf'
  unfold dashL
  cases hD : F.dash with
  | false =>
    rw [if_pos rfl]
    refine PantAt.run d1 (fun c hc => ?_) hb
    have : c = 45 := by
      unfold hyL at hc
      have := List.mem_of_mem_take hc
      simpa using this
    rw [this]
    exact cb_45n hD
  | true =>
    rw [if_neg (by decide)]
    rcases hy_cases v with ⟨hv, hy⟩ | ⟨hv, hy⟩ | ⟨hv, hy⟩
    all_goals
      rw [hy] at d1 hb d2
      simp only [List.cons_append, List.nil_append] at d1
      cases hL : F.latex
    · rw [if_neg (by decide), if_neg (by omega), if_neg (by omega), if_neg (by decide)]
      exact PantAt.step (k := 0) d1 (by simp <;> omega) (by rw [bat_c0]; exact cb_45 hD) rfl (.dp hD hL rfl (by rw [bat_cs]; exact hf') (by simp <;> omega) (Or.inl hpl)) hb
    · rw [if_pos rfl, if_neg (by omega), if_neg (by omega)]
      exact PantAt.step (k := 0) d1 (by simp <;> omega) (by rw [bat_c0]; exact cb_45 hD) rfl (.l1 hD hL rfl (by rw [bat_cs]; exact hn45) (by simp; omega)) hb
    · rw [if_neg (by decide), if_pos hv]
      exact PantAt.step (k := 1) d1 (by simp <;> omega) (by rw [bat_c0]; exact cb_45 hD) rfl (.d2 hD hL rfl rfl (by simp <;> omega)) hb
    · rw [if_pos rfl, if_pos hv]
      exact PantAt.step (k := 1) d1 (by simp <;> omega) (by rw [bat_c0]; exact cb_45 hD) rfl (.l2 hD hL rfl rfl (by rw [bat_cs, bat_cs]; exact hn45) (by simp <;> omega)) hb
    · rw [if_neg (by decide), if_neg (by omega), if_pos hv, if_neg (by decide), List.append_assoc]
      obtain ⟨_, _, d3⟩ := at_cons d1
      obtain ⟨_, _, d4⟩ := at_cons d3
      refine PantAt.step (k := 1) d1 (by simp <;> omega) (by rw [bat_c0]; exact cb_45 hD) rfl (.d2 hD hL rfl rfl (by simp <;> omega)) ?_
      exact PantAt.step (k := 0) d4 (by simp <;> omega) (by rw [bat_c0]; exact cb_45 hD) rfl (.dp hD hL rfl (by rw [bat_cs]; exact hf') (by simp <;> omega) (Or.inr (prev_c d3))) hb
    · rw [if_pos rfl, if_neg (by omega), if_pos hv]
      exact PantAt.step (k := 2) d1 (by simp <;> omega) (by rw [bat_c0]; exact cb_45 hD) rfl (.l3 hD hL rfl rfl rfl (by simp <;> omega)) hb

theorem cb_46 : cbI F 46 = true := by unfold cbI; simp
theorem piece8 (a : List UInt8) (ha : wordsL a = true) (hd : l.drop i = a ++ 46 :: 46 :: 46 :: 32 :: rest) (r : PantAt F l (i + a.length + 3 + 1) o) : PantAt F l i (a ++ (hellipL ++ 32 :: o)) := by
  have d1 := (at_app (fun _ => true) hd (fun _ _ => rfl)).2
  have d2 : l.drop (i + a.length + 3) = 32 :: rest := (at_app (a := [46, 46, 46]) (fun _ => true) d1 (fun _ _ => rfl)).2
  exact PantAt.words hd ha (PantAt.step (k := 2) d1 (by simp <;> omega) cb_46 rfl (.e3 rfl rfl rfl (by simp <;> omega)) (PantAt.blank d2 r))
theorem piece9 (hd : l.drop i = 46 :: 32 :: 46 :: 32 :: 46 :: 32 :: rest) (r : PantAt F l (i + 5 + 1) o) : PantAt F l i (hellipL ++ 32 :: o) := by
  have d2 : l.drop (i + 5) = 32 :: rest := (at_app (a := [46, 32, 46, 32, 46]) (fun _ => true) hd (fun _ _ => rfl)).2
  exact PantAt.step (k := 4) hd (by simp <;> omega) cb_46 rfl (.e5 rfl rfl rfl rfl rfl (by simp <;> omega)) (PantAt.blank d2 r)
theorem piece10 (hr : 2 ≤ rest.length) (hn : bat rest 0 ≠ 46 ∨ bat rest 1 ≠ 32) (hd : l.drop i = 46 :: 46 :: 32 :: rest) (r : PantAt F l (i + 2 + 1) o) : PantAt F l i (46 :: 46 :: 32 :: o) := by
  obtain ⟨_, _, d1⟩ := at_cons hd
  obtain ⟨_, _, d2⟩ := at_cons d1
  refine PantAt.step (o := [46]) (k := 0) hd (by simp <;> omega) cb_46 rfl (.p1 rfl rfl (by rw [bat_cs, bat_cs, bat_c0]; decide) (by simp <;> omega)) ?_
  exact PantAt.step (o := [46]) (k := 0) d1 (by simp <;> omega) cb_46 rfl (.p2 rfl rfl hn (by simp; omega)) (PantAt.blank d2 r)

theorem cb_40 : cbI F 40 = true := by unfold cbI; simp
theorem piece11 (v : Nat) (hv : v ≤ 6) (hd : l.drop i = signL v ++ 32 :: rest) (r : PantAt F l (i + (signL v).length + 1) o) : PantAt F l i (signM v ++ 32 :: o) := by
  have d9 := (at_app (fun _ => true) hd (fun _ _ => rfl)).2
  have hb := PantAt.blank d9 r
  have h7 : v = 0 ∨ v = 1 ∨ v = 2 ∨ v = 3 ∨ v = 4 ∨ v = 5 ∨ v = 6 := by omega
  rcases h7 with rfl | rfl | rfl | rfl | rfl | rfl | rfl
  · exact PantAt.step (k := 2) hd (by simp [signL]) cb_40 rfl (.copy rfl (Or.inl rfl) rfl (by simp [signL])) hb
  · exact PantAt.step (k := 2) hd (by simp [signL]) cb_40 rfl (.copy rfl (Or.inr rfl) rfl (by simp [signL])) hb
  · exact PantAt.step (k := 2) hd (by simp [signL]) cb_40 rfl (.reg rfl (Or.inl rfl) rfl (by simp [signL])) hb
  · exact PantAt.step (k := 2) hd (by simp [signL]) cb_40 rfl (.reg rfl (Or.inr rfl) rfl (by simp [signL])) hb
  · exact PantAt.step (k := 3) hd (by simp [signL]) cb_40 rfl (.trade rfl (Or.inl rfl) (Or.inl rfl) rfl (by simp [signL])) hb
  · exact PantAt.step (k := 3) hd (by simp [signL]) cb_40 rfl (.trade rfl (Or.inr rfl) (Or.inr rfl) rfl (by simp [signL])) hb
  · exact PantAt.step (k := 3) hd (by simp [signL]) cb_40 rfl (.trade rfl (Or.inr rfl) (Or.inr rfl) rfl (by simp [signL])) hb

theorem piece13 (v : Nat) (hd : l.drop i = entL v ++ 32 :: rest) (r : PantAt F l (i + (entL v).length + 1) o) : PantAt F l i (entL v ++ 32 :: o) := by
  have d9 := (at_app (fun _ => true) hd (fun _ _ => rfl)).2
  have hb := PantAt.blank d9 r
  have key : ∃ c m, entL v = 38 :: c :: m ∧ c ≠ 113 ∧ c ≠ 35 ∧ (∀ x ∈ c :: m, cbI F (x.toNat : Int) = false) := by
    have c59 : cbI F 59 = false := by unfold cbI; cases F.frac <;> simp
    unfold entL
    split
    · exact ⟨97, [109, 112, 59], rfl, by decide, by decide, fun x hx => by simp at hx; rcases hx with rfl | rfl | rfl | rfl <;> first | exact c59 | exact cb_lett rfl⟩
    · split
      · exact ⟨108, [116, 59], rfl, by decide, by decide, fun x hx => by simp at hx; rcases hx with rfl | rfl | rfl <;> first | exact c59 | exact cb_lett rfl⟩
      · split
        · exact ⟨103, [116, 59], rfl, by decide, by decide, fun x hx => by simp at hx; rcases hx with rfl | rfl | rfl <;> first | exact c59 | exact cb_lett rfl⟩
        · split
          · exact ⟨104, [101, 108, 108, 105, 112, 59], rfl, by decide, by decide, fun x hx => by simp at hx; rcases hx with rfl | rfl | rfl | rfl | rfl | rfl | rfl <;> first | exact c59 | exact cb_lett rfl⟩
          · exact ⟨99, [111, 112, 121, 59], rfl, by decide, by decide, fun x hx => by simp at hx; rcases hx with rfl | rfl | rfl | rfl | rfl <;> first | exact c59 | exact cb_lett rfl⟩
  obtain ⟨c, m, e, h1, h2, hc⟩ := key
  rw [e] at hd hb ⊢
  simp only [List.cons_append] at hd ⊢
  obtain ⟨_, _, d1⟩ := at_cons hd
  have n1 : (c.toNat : Int) ≠ 113 := fun h => h1 (UInt8.toNat_inj.1 (by show c.toNat = 113; omega))
  have n2 : (c.toNat : Int) ≠ 35 := fun h => h2 (UInt8.toNat_inj.1 (by show c.toNat = 35; omega))
  refine PantAt.step (o := [38]) (k := 0) hd (by simp <;> omega) (by unfold cbI; simp [bat_c0]) rfl (.amp rfl (by simp <;> omega) (by rw [bat_cs, bat_c0]; exact n1) (by rw [bat_cs, bat_c0]; exact n2)) ?_
  refine PantAt.run (a := c :: m) d1 hc ?_
  rw [show i + 0 + 1 + (c :: m).length = i + (38 :: c :: m).length by simp; omega]
  exact hb

theorem piece14 (a : List UInt8) (ha : wordsL a = true) (hd : l.drop i = 60 :: (a ++ (tagL ++ 32 :: rest))) (r : PantAt F l (i + (1 + a.length + 16) + 1) o) : PantAt F l i (60 :: (a ++ (tagL ++ 32 :: o))) := by
  have d1 : l.drop (i + (60 :: (a ++ tagL)).length) = 32 :: rest := (at_app (a := 60 :: (a ++ tagL)) (fun _ => true) (by rw [hd]; simp) (fun _ _ => rfl)).2
  have e1 : (60 :: (a ++ tagL)).length = 1 + a.length + 16 := by simp [tagL]; omega
  rw [e1] at d1
  have hm : (60 :: (a ++ (tagL ++ 32 :: rest))).length = 1 + a.length + 16 + 1 + rest.length := by simp [tagL]; omega
  have h := PantAt.step (F := F) (k := a.length + 16) hd (by omega) (by unfold cbI; simp [bat_c0]) rfl (.angle (a.length + 16) rfl ?_ (by omega) ?_) (o' := 32 :: o) ?_
  · have e : (60 :: (a ++ (tagL ++ 32 :: rest))).take (a.length + 16 + 1) = 60 :: (a ++ tagL) := by
      rw [show 60 :: (a ++ (tagL ++ 32 :: rest)) = (60 :: (a ++ tagL)) ++ 32 :: rest by simp]
      rw [List.take_append_of_le_length (by omega), List.take_of_length_le (by omega)]
    rw [e] at h
    simpa using h
  · rw [show a.length + 16 = (a.length + 15) + 1 by omega, bat_cs, bat_app_r]
    rfl
  · intro j hj
    cases j with
    | zero => rw [bat_c0]; decide
    | succ j =>
      rw [bat_cs]
      by_cases hja : j < a.length
      · rw [bat_app_l hja]
        intro e
        have := wordsGo_mem ha (a.getD j 0) (by simp [List.getD, hja])
        have e2 : ((a.getD j 0).toNat : Int) = 62 := e
        rw [e2] at this
        cases this
      · obtain ⟨k, rfl⟩ : ∃ k, j = a.length + k := ⟨j - a.length, by omega⟩
        rw [bat_app_r]
        have hk : k < 15 := by omega
        have h15 : k = 0 ∨ k = 1 ∨ k = 2 ∨ k = 3 ∨ k = 4 ∨ k = 5 ∨ k = 6 ∨ k = 7 ∨ k = 8 ∨ k = 9 ∨ k = 10 ∨ k = 11 ∨ k = 12 ∨ k = 13 ∨ k = 14 := by omega
        rcases h15 with rfl | rfl | rfl | rfl | rfl | rfl | rfl | rfl | rfl | rfl | rfl | rfl | rfl | rfl | rfl <;> (intro e; cases e)
  · rw [show i + (a.length + 16) + 1 = i + (1 + a.length + 16) by omega]
    exact PantAt.blank d1 r

end

end Go.Proofs.YtnkjnlmghnomiaaDoor
