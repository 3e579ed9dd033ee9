/- Forests: (*spec.TreeForest).Step walked for appending. Condition: the forest is one. -/
import Derived.Test.YtccofockeemmkaaRRTreeS
import Derived.Test.YtccofockeemmkaaRRHeldK
namespace Go.Proofs.YtccofockeemmkaaRR
open Go.ChangeShapes Go.WideShapes Go.ChangeAt Go.RowKit

theorem Forest.appended {w w3 : World} {B fb n : Nat} {up : Nat → Option Nat} {dn : Nat → List Nat} {upv dnv : Value} {rv : Nat → Value} {a b g cap H : Nat} (h : Forest w B fb n n up dn upv dnv rv) (ha : a < n) (ob : Obj)
    (hown : w3.ownsRow B 3 1 (.slice (some ⟨g, 0, none⟩) ((dn a).length + 1) cap) ((dn a).length + 1) (nats (dn a) ++ [.int .i64 (b : Int)])) (hg : (w.alloc ob).grownBy w3 (rv a).ownBlock) (hat : (rv a).ownBlock = some g ∨ g = H) (hH : H = w.heap.size + 1) :
    Forest w3 B fb n a up dn upv dnv rv ∧ Below B w w3 ∧ w3.ownsRow B 3 1 (.slice (some ⟨g, 0, none⟩) ((dn a).length + 1) cap) (dn a ++ [b]).length ((dn a ++ [b]).map fun k : Nat => .int .i64 (k : Int)) ∧
      (∀ k, (Value.slice (some ⟨g, 0, none⟩) ((dn a).length + 1) cap).ownBlock = some k → upv.ownBlock ≠ some k) ∧ (∀ j k, j < n → j ≠ a → (rv j).ownBlock = some k → (Value.slice (some ⟨g, 0, none⟩) ((dn a).length + 1) cap).ownBlock ≠ some k) := by
  have hra := h.rows a ha (by omega)
  have hsz : (w.alloc ob).heap.size = w.heap.size + 1 := by simp
  have hB := h.base
  have hb : Below B w w3 := ((Below.refl B w).alloc hB ob).grown hg (by omega) (fun k hk => (World.ownsRow.lt hra k hk).1)
  refine ⟨h.turned ha hb.size fun k hk hne => ?_, hb, ?_, fun k hk e => ?_, fun j k hj hja hk e => ?_⟩
  · rw [hg.block k (by omega) hne]
    exact Below.heap_alloc _ _ _ hk
  · rw [List.length_append, List.length_singleton]
    have e : (dn a ++ [b]).map (fun k : Nat => Value.int .i64 (k : Int)) = nats (dn a) ++ [.int .i64 (b : Int)] := nats_snoc _ _
    rw [e]
    exact hown
  · have e1 : g = k := by simpa [Value.ownBlock] using hk
    subst e1
    rcases hat with h1 | h1
    · exact h.ap1 a g ha (by omega) h1 e
    · have := own_lt h.upr e
      omega
  · have e1 : g = k := by simpa [Value.ownBlock] using e
    subst e1
    rcases hat with h1 | h1
    · exact hja (h.ap2 j a g hj ha (by omega) (by omega) hk h1)
    · have := own_lt (h.rows j hj (by omega)) hk
      omega

theorem setD_upd (up : Nat → Option Nat) : up = up := rfl

set_option maxHeartbeats 8000000 in
set_option maxRecDepth 100000 in
theorem fstep1 {w : World} {B fb n : Nat} {up : Nat → Option Nat} {dn : Nat → List Nat} {upv dnv : Value} {rv : Nat → Value} (a b : Nat) (h : Forest w B fb n n up dn upv dnv rv) (hp : Fp n up dn) (ha : a < n) (hb : b < n) (hn : n ≤ 100000) :
    Calls Try.prog 5 #[.pointer (some ⟨fb, 0, none⟩), .agg #[.int .i64 1, .int .i64 (a : Int), .int .i64 (b : Int)]] w fun e w' => ∃ r, e = .returned (.bool r) ∧ (r = true → Stepped w w' B fb n up 1 a b) ∧ Below B w w' := by
  have c0 := fun ob => (h.alloc ob).cu
  obtain ⟨ug, uc, rfl, hu1, hu2, _, hug, huf, hucell⟩ := h.us (by omega)
  have HU := Lib.hid (fun ob : Obj => under_any a b (h.alloc ob).drew hp ha (by omega) (by omega))
  have HC := Lib.hid (fun ob : Obj => cut_any b (h.alloc ob).drew hp hb (by omega))
  have HB := Lib.hid h.base
  have HP := Lib.hid hp
  clear h hp hucell huf
  go_enter Try.func5, Try.ntmps5
  go_wp2_with fail
  go_region
  all_goals (go_wp2_with fail)
  refine (HU.out _).mono ?_
  rintro e w1 ⟨r, rfl, hr, rfl⟩
  have HR := Lib.hid hr
  clear hr HU
  cases r with
  | true =>
    go_wp2_with fail
    go_ret
    exact ⟨false, rfl, (fun h => by cases h), ((Below.refl B w).alloc HB.out _).drew⟩
  | false =>
    go_wp2_with fail
    refine (HC.out _).mono ?_
    rintro e w2 ⟨rv', rfl, F0, L⟩
    have F := F0.drew
    have hnanc : ¬ Anc up b a := fun k => absurd (HR.out.2 k) (by decide)
    have hpi := HP.out.append a b ha hb hnanc
    have hlen := (HP.out.cut b).len a
    have k0 := F.cu
    have k1 := F.cd
    have hba := F.base
    obtain ⟨dg, dc, rfl, hd1, hd2, _, hdg, hdf, hdcell⟩ := F.ds (by omega)
    have kp := hdcell a ha
    have R1 := F.rows a ha (by omega)
    have HF := Lib.hid F
    have HL := Lib.hid L
    have HRr := Lib.hid R1
    have HPI := Lib.hid hpi
    obtain ⟨i0, hi, hz0, hz1, hz2⟩ := info_parts int_info
    have HI := Lib.hid (And.intro hi (And.intro hz0 (And.intro hz1 hz2)))
    have HSa := Lib.hid (fun ob : Obj => And.intro (HF.out.alloc ob).cu (HF.out.alloc ob).cd)
    have HSd := Lib.hid (And.intro HF.out.cu HF.out.cd)
    clear HC F0 F L R1 hdf hdcell hpi hnanc hi hz0 hz1 hz2
    go_upto_region 15 with fail
    refine wp_region_k (T := fun w' => w'.cell? ⟨fb, 0, none⟩ = some (.slice (some ⟨ug, 0, none⟩) n uc) ∧ w'.cell? ⟨fb, 1, none⟩ = some (.slice (some ⟨dg, 0, none⟩) n dc) ∧ w'.cell? ⟨dg, a, none⟩ = some (rv' a)) (k := 24) (by kernel_rfl) ?_
    have hT := And.intro k0 (And.intro k1 kp)
    refine wpAnyK_take (i := 0) (v := ?_) rfl (by kernel_rfl) (by kernel_rfl) (by kernel_rfl) (fun _ _ _ h => h) rfl (by kernel_rfl) (by kernel_rfl) hT (Or.inl ⟨by rfl, ?_⟩) ?_
    rotate_left
    · intro wq hSw
      try dsimp only at hSw
      go_simp
      try with_reducible rfl
    try simp only [Act.put, List.setIfInBounds_toArray, List.set_cons_zero, List.set_cons_succ]
    refine wpAnyK_take (i := 1) (v := ?_) rfl (by kernel_rfl) (by kernel_rfl) (by kernel_rfl) (fun _ _ _ h => h) rfl (by kernel_rfl) (by kernel_rfl) hT (Or.inl ⟨by rfl, ?_⟩) ?_
    rotate_left
    · intro wq hSw
      try dsimp only at hSw
      go_simp
      try with_reducible rfl
    try simp only [Act.put, List.setIfInBounds_toArray, List.set_cons_zero, List.set_cons_succ]
    refine wpAnyK_take (i := 2) (v := ?_) rfl (by kernel_rfl) (by kernel_rfl) (by kernel_rfl) (fun _ _ _ h => h) rfl (by kernel_rfl) (by kernel_rfl) hT (Or.inl ⟨by rfl, ?_⟩) ?_
    rotate_left
    · intro wq hSw
      try dsimp only at hSw
      go_simp
      try with_reducible rfl
    try simp only [Act.put, List.setIfInBounds_toArray, List.set_cons_zero, List.set_cons_succ]
    refine wpAnyK_take (i := 3) (v := ?_) rfl (by kernel_rfl) (by kernel_rfl) (by kernel_rfl) (fun _ _ _ h => h) rfl (by kernel_rfl) (by kernel_rfl) hT (Or.inl ⟨by rfl, ?_⟩) ?_
    rotate_left
    · intro wq hSw
      try dsimp only at hSw
      go_simp
      try with_reducible rfl
    try simp only [Act.put, List.setIfInBounds_toArray, List.set_cons_zero, List.set_cons_succ]
    refine wpAnyK_take (i := 4) (v := ?_) rfl (by kernel_rfl) (by kernel_rfl) (by kernel_rfl) (fun _ _ _ h => h) rfl (by kernel_rfl) (by kernel_rfl) hT (Or.inl ⟨by rfl, ?_⟩) ?_
    rotate_left
    · intro wq hSw
      try dsimp only at hSw
      go_simp
      try with_reducible rfl
    try simp only [Act.put, List.setIfInBounds_toArray, List.set_cons_zero, List.set_cons_succ]
    refine wpAnyK_take (i := 5) (v := ?_) rfl (by kernel_rfl) (by kernel_rfl) (by kernel_rfl) (fun _ _ _ h => h) rfl (by kernel_rfl) (by kernel_rfl) hT (Or.inl ⟨by rfl, ?_⟩) ?_
    rotate_left
    · intro wq hSw
      try dsimp only at hSw
      go_simp
      try with_reducible rfl
    try simp only [Act.put, List.setIfInBounds_toArray, List.set_cons_zero, List.set_cons_succ]
    refine wpAnyK_take (i := 6) (v := ?_) rfl (by kernel_rfl) (by kernel_rfl) (by kernel_rfl) (fun _ _ _ h => h) rfl (by kernel_rfl) (by kernel_rfl) hT (Or.inl ⟨by rfl, ?_⟩) ?_
    rotate_left
    · intro wq hSw
      try dsimp only at hSw
      go_simp
      try with_reducible rfl
    try simp only [Act.put, List.setIfInBounds_toArray, List.set_cons_zero, List.set_cons_succ]
    refine wpAnyK_take (i := 7) (v := ?_) rfl (by kernel_rfl) (by kernel_rfl) (by kernel_rfl) (fun _ _ _ h => h) rfl (by kernel_rfl) (by kernel_rfl) hT (Or.inl ⟨by rfl, ?_⟩) ?_
    rotate_left
    · intro wq hSw
      try dsimp only at hSw
      go_simp
      try with_reducible rfl
    try simp only [Act.put, List.setIfInBounds_toArray, List.set_cons_zero, List.set_cons_succ]
    refine wpAnyK_take (i := 8) (v := ?_) rfl (by kernel_rfl) (by kernel_rfl) (by kernel_rfl) (fun _ _ _ h => h) rfl (by kernel_rfl) (by kernel_rfl) hT (Or.inl ⟨by rfl, ?_⟩) ?_
    rotate_left
    · intro wq hSw
      try dsimp only at hSw
      go_simp
      try with_reducible rfl
    try simp only [Act.put, List.setIfInBounds_toArray, List.set_cons_zero, List.set_cons_succ]
    refine wpAnyK_take (i := 9) (v := ?_) rfl (by kernel_rfl) (by kernel_rfl) (by kernel_rfl) (fun _ _ _ h => h) rfl (by kernel_rfl) (by kernel_rfl) hT (Or.inl ⟨by rfl, ?_⟩) ?_
    rotate_left
    · intro wq hSw
      try dsimp only at hSw
      go_simp
      try with_reducible rfl
    try simp only [Act.put, List.setIfInBounds_toArray, List.set_cons_zero, List.set_cons_succ]
    refine wpAnyK_take (i := 10) (v := ?_) rfl (by kernel_rfl) (by kernel_rfl) (by kernel_rfl) (fun _ _ _ h => h) rfl (by kernel_rfl) (by kernel_rfl) hT (Or.inl ⟨by rfl, ?_⟩) ?_
    rotate_left
    · intro wq hSw
      try dsimp only at hSw
      go_simp
      try with_reducible rfl
    try simp only [Act.put, List.setIfInBounds_toArray, List.set_cons_zero, List.set_cons_succ]
    refine wpAnyK_take (i := 11) (v := ?_) rfl (by kernel_rfl) (by kernel_rfl) (by kernel_rfl) (fun _ _ _ h => h) rfl (by kernel_rfl) (by kernel_rfl) hT (Or.inl ⟨by rfl, ?_⟩) ?_
    rotate_left
    · intro wq hSw
      try dsimp only at hSw
      go_simp
      try with_reducible rfl
    try simp only [Act.put, List.setIfInBounds_toArray, List.set_cons_zero, List.set_cons_succ]
    refine wpAnyK_take (i := 12) (v := ?_) rfl (by kernel_rfl) (by kernel_rfl) (by kernel_rfl) (fun _ _ _ h => h) rfl (by kernel_rfl) (by kernel_rfl) hT (Or.inl ⟨by rfl, ?_⟩) ?_
    rotate_left
    · intro wq hSw
      try dsimp only at hSw
      go_simp
      try with_reducible rfl
    try simp only [Act.put, List.setIfInBounds_toArray, List.set_cons_zero, List.set_cons_succ]
    refine wpAnyK_take (i := 13) (v := ?_) rfl (by kernel_rfl) (by kernel_rfl) (by kernel_rfl) (fun _ _ _ h => h) rfl (by kernel_rfl) (by kernel_rfl) hT (Or.inl ⟨by rfl, ?_⟩) ?_
    rotate_left
    · intro wq hSw
      try dsimp only at hSw
      go_simp
      try with_reducible rfl
    try simp only [Act.put, List.setIfInBounds_toArray, List.set_cons_zero, List.set_cons_succ]
    refine wpAnyK_take (i := 14) (v := ?_) rfl (by kernel_rfl) (by kernel_rfl) (by kernel_rfl) (fun _ _ _ h => h) rfl (by kernel_rfl) (by kernel_rfl) hT (Or.inl ⟨by rfl, ?_⟩) ?_
    rotate_left
    · intro wq hSw
      try dsimp only at hSw
      go_simp
      try with_reducible rfl
    try simp only [Act.put, List.setIfInBounds_toArray, List.set_cons_zero, List.set_cons_succ]
    refine wpAnyK_take (i := 15) (v := ?_) rfl (by kernel_rfl) (by kernel_rfl) (by kernel_rfl) (fun _ _ _ h => h) rfl (by kernel_rfl) (by kernel_rfl) hT (Or.inl ⟨by rfl, ?_⟩) ?_
    rotate_left
    · intro wq hSw
      try dsimp only at hSw
      go_simp
      try with_reducible rfl
    try simp only [Act.put, List.setIfInBounds_toArray, List.set_cons_zero, List.set_cons_succ]
    refine wpAnyK_take (i := 16) (v := ?_) rfl (by kernel_rfl) (by kernel_rfl) (by kernel_rfl) (fun _ _ _ h => h) rfl (by kernel_rfl) (by kernel_rfl) hT (Or.inl ⟨by rfl, ?_⟩) ?_
    rotate_left
    · intro wq hSw
      try dsimp only at hSw
      go_simp
      try with_reducible rfl
    try simp only [Act.put, List.setIfInBounds_toArray, List.set_cons_zero, List.set_cons_succ]
    refine wpAnyK_take (i := 17) (v := ?_) rfl (by kernel_rfl) (by kernel_rfl) (by kernel_rfl) (fun _ _ _ h => h) rfl (by kernel_rfl) (by kernel_rfl) hT (Or.inl ⟨by rfl, ?_⟩) ?_
    rotate_left
    · intro wq hSw
      try dsimp only at hSw
      go_simp
      try with_reducible rfl
    try simp only [Act.put, List.setIfInBounds_toArray, List.set_cons_zero, List.set_cons_succ]
    refine wpAnyK_take (i := 18) (v := ?_) rfl (by kernel_rfl) (by kernel_rfl) (by kernel_rfl) (fun _ _ _ h => h) rfl (by kernel_rfl) (by kernel_rfl) hT (Or.inl ⟨by rfl, ?_⟩) ?_
    rotate_left
    · intro wq hSw
      try dsimp only at hSw
      go_simp
      try with_reducible rfl
    try simp only [Act.put, List.setIfInBounds_toArray, List.set_cons_zero, List.set_cons_succ]
    refine wpAnyK_ready (rs := [19]) (by kernel_rfl) (by simp) ?_
    refine AllReadyK.cons rfl (fun K hK => ?_) AllReadyK.nil
    go_simp
    have hTa := And.intro (HF.out.alloc (.cells #[.int .i64 (b : Int)] 3)).cu (And.intro (HF.out.alloc (.cells #[.int .i64 (b : Int)] 3)).cd (Lib.cell?_alloc_some (.cells #[.int .i64 (b : Int)] 3) kp))
    refine hK.out _ _ (fun _ => hTa) ?_
    clear hK K
    refine wpAnyK_ready (rs := [20]) (by kernel_rfl) (by simp) ?_
    refine AllReadyK.cons rfl (fun K hK => ?_) AllReadyK.nil
    refine step_append_lies (w2.drew.alloc (.cells #[.int .i64 (b : Int)] 3)) rfl (.tmp 113) (.tmp 115) 25 rfl B 3 i0 (.int .i64 0) 1 8 Try.underlying25 HI.out.1 HI.out.2.1 HI.out.2.2.1 HI.out.2.2.2 rfl (by decide) (rv' a) _ _ rfl (World.ownsRow.alloc HRr.out _) ⟨w2.heap.size, 0, none⟩ 1 1 [.int .i64 (b : Int)] rfl rfl (by intro j y hj; rw [Addr.add_lit, Nat.zero_add, show (⟨w2.heap.size, j, none⟩ : Addr) = ⟨w2.drew.heap.size, j, none⟩ from rfl, World.cell?_alloc_mark]; simpa using hj) (by intro u hu; simp at hu; subst hu; rfl) (by decide) (by unfold maxLen; omega) (by omega) (by simp; exact Nat.le_trans hba (Nat.le_succ _)) _ rfl ?_
    intro g cap w3 hown hgrow hat hlt
    obtain ⟨F3, L3, R3, N1, N2⟩ := HF.out.appended ha _ hown hgrow hat (by simp)
    have kp3 : w3.cell? ⟨dg, a, none⟩ = some (rv' a) := by
      have hd := own_lt HF.out.dnr (k := dg) rfl
      obtain ⟨cs, hcs⟩ := own_block HF.out.dnr (k := dg) rfl
      rw [hgrow.cell_far ⟨dg, a, none⟩ (by simp; exact Nat.lt_succ_of_lt hd) (own_no HRr.out hcs (by decide))]
      exact Lib.cell?_alloc_some _ kp
    have hT3 := And.intro F3.cu (And.intro F3.cd kp3)
    obtain ⟨F4, L4⟩ := F3.setUp b (some a) (a : Int) rfl
    obtain ⟨ug3, uc3, hue3, _, _, _, _, huf3, huc3⟩ := F3.us (by omega)
    obtain ⟨rfl, rfl⟩ : ug = ug3 ∧ uc = uc3 := by
      injection hue3 with e1 _ e3
      injection e1 with e1
      injection e1 with e1 _
      exact ⟨e1, e3⟩
    have kb := huc3 b hb
    have fb1 := huf3 b
    obtain ⟨dg4, dc4, hde4, _, _, _, _, hdf4, hdc4⟩ := F4.ds (by omega)
    obtain ⟨rfl, rfl⟩ : dg = dg4 ∧ dc = dc4 := by
      injection hde4 with e1 _ e3
      injection e1 with e1
      injection e1 with e1 _
      exact ⟨e1, e3⟩
    have kp4 := hdc4 a ha
    have fp4 := hdf4 a
    have hT4 := And.intro F4.cu (And.intro F4.cd kp4)
    obtain ⟨F5, L5⟩ := F4.setDn a (Or.inr rfl) _ _ (ownsRow_setCell_other (a := ⟨ug, b, none⟩) R3 (fun e => N1 _ e rfl) _) N1 N2
    have HF5 := Lib.hid F5
    have HL5 := Lib.hid (L3.trans (L4.trans L5))
    clear hown hgrow hat hlt F3 L3 R3 N1 N2 F4 L4 F5 L5 huf3 huc3 hdf4 hdc4
    refine hK.out _ _ (fun _ => hT3) ?_
    clear hK K hT hTa
    try simp only [Act.put, List.setIfInBounds_toArray, List.set_cons_zero, List.set_cons_succ]
    refine wpAnyK_take (i := 21) (v := ?_) rfl (by kernel_rfl) (by kernel_rfl) (by kernel_rfl) (fun _ _ _ h => h) rfl (by kernel_rfl) (by kernel_rfl) hT3 (Or.inl ⟨by rfl, ?_⟩) ?_
    rotate_left
    · intro wq hSw
      try dsimp only at hSw
      go_simp
      try with_reducible rfl
    try simp only [Act.put, List.setIfInBounds_toArray, List.set_cons_zero, List.set_cons_succ]
    refine wpAnyK_ready (rs := [22]) (by kernel_rfl) (by simp) ?_
    refine AllReadyK.cons rfl (fun K hK => ?_) AllReadyK.nil
    go_simp
    refine hK.out _ _ (fun _ => hT4) ?_
    clear hK K hT3
    refine wpAnyK_take (i := 23) (v := ?_) rfl (by kernel_rfl) (by kernel_rfl) (by kernel_rfl) (fun _ _ _ h => h) rfl (by kernel_rfl) (by kernel_rfl) hT4 (Or.inl ⟨by rfl, ?_⟩) ?_
    rotate_left
    · intro wq hSw
      try dsimp only at hSw
      go_simp
      try with_reducible rfl
    try simp only [Act.put, List.setIfInBounds_toArray, List.set_cons_zero, List.set_cons_succ]
    refine wpAnyK_ready (rs := [24]) (by kernel_rfl) (by simp) ?_
    refine AllReadyK.cons rfl (fun K hK => ?_) AllReadyK.nil
    go_simp
    refine hK.out _ _ (fun h => absurd h (by decide)) ?_
    clear hK K hT4
    refine wpAnyK_done (by kernel_rfl) ?_ _
    go_wp2_with fail
    go_ret
    refine ⟨true, rfl, (fun _ => ⟨n, _, _, _, _, _, HF5.out, HPI.out, by omega, fun t ht => ⟨app (unl t b) a b, Fine.append a b ha hb, ?_⟩⟩), (((Below.refl B w).alloc HB.out _).drew).trans (HL.out.drew.trans HL5.out)⟩
    rw [app_par, unl_par, ht]
    rfl

end Go.Proofs.YtccofockeemmkaaRR
