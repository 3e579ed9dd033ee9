/- Forests: (*spec.TreeForest).Step walked for a new node. Condition: the forest is one. Printed by wip/gen/p_treeu.py. -/
import Derived.Test.YtccofockeemmkaaRRTreeT
namespace Go.Proofs.YtccofockeemmkaaRR
open Go.ChangeShapes Go.WideShapes Go.ChangeAt Go.RowKit

theorem ints_info : (Try.prog.info? 25).map (fun i => (i.zero, i.size, i.bytes)) = some (some (.slice none 0 0), 1, 24) := by kernel_rfl
/-- what holds while both slices are appended to -/
structure Mid (w wk : World) (B : Nat) (upv dnv uv dv : Value) (un dm : Nat) (ul dl : List Value) : Prop where
  hu : wk.ownsRow B 3 1 uv un ul
  hd : wk.ownsRow B 25 1 dv dm dl
  ub : ∀ k, uv.ownBlock = some k → upv.ownBlock = some k ∨ w.heap.size ≤ k
  db : ∀ k, dv.ownBlock = some k → dnv.ownBlock = some k ∨ w.heap.size ≤ k
  keep : ∀ k, k < w.heap.size → some k ≠ upv.ownBlock → some k ≠ dnv.ownBlock → wk.heap[k]? = w.heap[k]?
  bel : Below B w wk
section
variable {w wk : World} {B : Nat} {upv dnv uv dv : Value} {un dm : Nat} {ul dl : List Value}
theorem Mid.alloc (h : Mid w wk B upv dnv uv dv un dm ul dl) (hB : B ≤ w.heap.size) (ob : Obj) : Mid w (wk.alloc ob) B upv dnv uv dv un dm ul dl :=
  ⟨h.hu.alloc ob, h.hd.alloc ob, h.ub, h.db, fun k hk h1 h2 => (Below.heap_alloc _ _ _ (Nat.lt_of_lt_of_le hk h.bel.size)).trans (h.keep k hk h1 h2), h.bel.alloc (Nat.le_trans hB h.bel.size) ob⟩
theorem Mid.drew (h : Mid w wk B upv dnv uv dv un dm ul dl) : Mid w wk.drew B upv dnv uv dv un dm ul dl :=
  ⟨World.ownsRow.drew h.hu, World.ownsRow.drew h.hd, h.ub, h.db, h.keep, h.bel.drew⟩
theorem Mid.appU {w3 : World} {g cap H : Nat} {x : List Value} (h : Mid w wk B upv dnv uv dv un dm ul dl) (hB : B ≤ w.heap.size) (hown : w3.ownsRow B 3 1 (.slice (some ⟨g, 0, none⟩) (un + 1) cap) (un + 1) (ul ++ x)) (hg : wk.grownBy w3 uv.ownBlock) (hat : uv.ownBlock = some g ∨ g = H) (hH : H = wk.heap.size) :
    Mid w w3 B upv dnv (.slice (some ⟨g, 0, none⟩) (un + 1) cap) dv (un + 1) dm (ul ++ x) dl := by
  have hs := h.bel.size
  refine ⟨hown, h.hd.kept hg ?_, fun k hk => ?_, h.db, fun k hk h1 h2 => ?_, h.bel.grown hg (Nat.le_trans hB hs) (fun k hk => (World.ownsRow.lt h.hu k hk).1)⟩
  · cases hdv : dv.ownBlock with
    | none => exact Or.inl rfl
    | some k =>
      obtain ⟨cs, hcs⟩ := own_block h.hd hdv
      exact Or.inr (own_no h.hu hcs (by decide))
  · have e1 : g = k := by simpa [Value.ownBlock] using hk
    subst e1
    rcases hat with h1 | h1
    · exact h.ub g h1
    · exact Or.inr (by omega)
  · rw [hg.block k (by omega) (fun e => ?_)]
    · exact h.keep k hk h1 h2
    · rcases h.ub k e.symm with e2 | e2
      · exact h1 e2.symm
      · omega
theorem Mid.appD {w3 : World} {g cap H : Nat} {x : List Value} (h : Mid w wk B upv dnv uv dv un dm ul dl) (hB : B ≤ w.heap.size) (hown : w3.ownsRow B 25 1 (.slice (some ⟨g, 0, none⟩) (dm + 1) cap) (dm + 1) (dl ++ x)) (hg : wk.grownBy w3 dv.ownBlock) (hat : dv.ownBlock = some g ∨ g = H) (hH : H = wk.heap.size) :
    Mid w w3 B upv dnv uv (.slice (some ⟨g, 0, none⟩) (dm + 1) cap) un (dm + 1) ul (dl ++ x) := by
  have hs := h.bel.size
  refine ⟨h.hu.kept hg ?_, hown, h.ub, fun k hk => ?_, fun k hk h1 h2 => ?_, h.bel.grown hg (Nat.le_trans hB hs) (fun k hk => (World.ownsRow.lt h.hd k hk).1)⟩
  · cases hdv : uv.ownBlock with
    | none => exact Or.inl rfl
    | some k =>
      obtain ⟨cs, hcs⟩ := own_block h.hu hdv
      exact Or.inr (own_no h.hd hcs (by decide))
  · have e1 : g = k := by simpa [Value.ownBlock] using hk
    subst e1
    rcases hat with h1 | h1
    · exact h.db g h1
    · exact Or.inr (by omega)
  · rw [hg.block k (by omega) (fun e => ?_)]
    · exact h.keep k hk h1 h2
    · rcases h.db k e.symm with e2 | e2
      · exact h2 e2.symm
      · omega
theorem Mid.cells {fb n o : Nat} {up : Nat → Option Nat} {dn : Nat → List Nat} {rv : Nat → Value} (h : Mid w wk B upv dnv uv dv un dm ul dl) (F : Forest w B fb n o up dn upv dnv rv) : wk.cell? ⟨fb, 0, none⟩ = some upv ∧ wk.cell? ⟨fb, 1, none⟩ = some dnv := by
  have e := h.keep fb (blk_lt F.blk) F.fb_up F.fb_dn
  exact ⟨(World.cell?_of_block (w := w) (a := ⟨fb, 0, none⟩) e).trans F.cu, (World.cell?_of_block (w := w) (a := ⟨fb, 1, none⟩) e).trans F.cd⟩
theorem Mid.frozen {fb n o : Nat} {up : Nat → Option Nat} {dn : Nat → List Nat} {rv : Nat → Value} (h : Mid w wk B upv dnv uv dv un dm ul dl) (F : Forest w B fb n o up dn upv dnv rv) (k : Nat) : wk.frozen? ⟨fb, k, none⟩ = false := by
  have e := h.keep fb (blk_lt F.blk) F.fb_up F.fb_dn
  rw [World.frozen?_of_block (w := w) (a := ⟨fb, k, none⟩) e]
  exact frozen_of_row w fb k _ _ F.blk
end
theorem news1 {w : World} {b : Nat} {v : Value} {t : TypeId} (h : w.heap[b]? = some (.cells #[v] t (0, 0))) : ∀ j u, [v][j]? = some u → w.cell? ((⟨b, 0, none⟩ : Addr).add j) = some u := World.news_of_block h

set_option maxHeartbeats 16000000 in
set_option maxRecDepth 100000 in
theorem fstep0 {w : World} {B fb n : Nat} {up : Nat → Option Nat} {dn : Nat → List Nat} {upv dnv : Value} {rv : Nat → Value} (a b : Int) (h : Forest w B fb n n up dn upv dnv rv) (hp : Fp n up dn) (ha : 0 ≤ a) (ha2 : a < 24) (hn : n ≤ 100000) :
    Calls Try.prog 5 #[.pointer (some ⟨fb, 0, none⟩), .agg #[.int .i64 0, .int .i64 a, .int .i64 b]] w fun e w' => ∃ r, e = .returned (.bool r) ∧ (r = true → Stepped w w' B fb n up 0 a b) ∧ Below B w w' := by
  have HB := Lib.hid h.base
  have HP := Lib.hid hp
  have H0 := Lib.hid (fun ob : Obj => And.intro (h.alloc ob) ((Below.refl B w).alloc h.base ob))
  obtain ⟨i0, hi, hz0, hz1, hz2⟩ := info_parts int_info
  have HI := Lib.hid (And.intro hi (And.intro hz0 (And.intro hz1 hz2)))
  obtain ⟨i1, hi, hz0, hz1, hz2⟩ := info_parts ints_info
  have HI1 := Lib.hid (And.intro hi (And.intro hz0 (And.intro hz1 hz2)))
  clear h hp hi hz0 hz1 hz2
  go_enter Try.func5, Try.ntmps5
  go_upto_region 4 with fail
  obtain ⟨F, L⟩ := H0.out (.cells #[.int .i64 0, .int .i64 a, .int .i64 b] 32)
  clear H0
  generalize w.alloc (.cells #[.int .i64 0, .int .i64 a, .int .i64 b] 32) = W at *
  have k0 := F.drew.cu
  have k1 := F.drew.cd
  have hBW := F.base
  have M0 : Mid W W.drew B upv dnv upv dnv n n _ _ := ⟨F.drew.upr, F.drew.dnr, fun k hk => Or.inl hk, fun k hk => Or.inl hk, fun k _ _ _ => rfl, (Below.refl B W).drew⟩
  have HF := Lib.hid F
  have HL := Lib.hid L
  clear F L
  refine wp_region_k (T := fun w' => w'.cell? ⟨fb, 0, none⟩ = some upv ∧ w'.cell? ⟨fb, 1, none⟩ = some dnv) (k := 16) (by kernel_rfl) ?_
  have hT := And.intro k0 k1
  refine wpAnyK_takew (i := 0) (v := ?_) rfl (by kernel_rfl) (by kernel_rfl) (by kernel_rfl) (fun _ _ _ h => h) (by decide) (fun _ => hT) (Or.inl ⟨by rfl, ?_⟩) ?_
  rotate_left
  · intro wq _
    go_simp
    try with_reducible rfl
  try simp only [Act.put, List.setIfInBounds_toArray, List.set_cons_zero, List.set_cons_succ]
  refine wpAnyK_takew (i := 1) (v := ?_) rfl (by kernel_rfl) (by kernel_rfl) (by kernel_rfl) (fun _ _ _ h => h) (by decide) (fun _ => hT) (Or.inl ⟨by rfl, ?_⟩) ?_
  rotate_left
  · intro wq _
    go_simp
    try with_reducible rfl
  try simp only [Act.put, List.setIfInBounds_toArray, List.set_cons_zero, List.set_cons_succ]
  refine wpAnyK_takew (i := 2) (v := ?_) rfl (by kernel_rfl) (by kernel_rfl) (by kernel_rfl) (fun _ _ _ h => h) (by decide) (fun _ => hT) (Or.inl ⟨by rfl, ?_⟩) ?_
  rotate_left
  · intro wq _
    go_simp
    try with_reducible rfl
  try simp only [Act.put, List.setIfInBounds_toArray, List.set_cons_zero, List.set_cons_succ]
  refine wpAnyK_takew (i := 3) (v := ?_) rfl (by kernel_rfl) (by kernel_rfl) (by kernel_rfl) (fun _ _ _ h => h) (by decide) (fun _ => hT) (Or.inl ⟨by rfl, ?_⟩) ?_
  rotate_left
  · intro wq _
    go_simp
    try with_reducible rfl
  try simp only [Act.put, List.setIfInBounds_toArray, List.set_cons_zero, List.set_cons_succ]
  refine wpAnyK_takew (i := 4) (v := ?_) rfl (by kernel_rfl) (by kernel_rfl) (by kernel_rfl) (fun _ _ _ h => h) (by decide) (fun _ => hT) (Or.inl ⟨by rfl, ?_⟩) ?_
  rotate_left
  · intro wq _
    go_simp
    try with_reducible rfl
  try simp only [Act.put, List.setIfInBounds_toArray, List.set_cons_zero, List.set_cons_succ]
  refine wpAnyK_take (i := 5) (v := ?_) rfl (by kernel_rfl) (by kernel_rfl) (by kernel_rfl) (fun _ _ _ h => h) rfl (by kernel_rfl) (by kernel_rfl) hT (Or.inl ⟨by rfl, ?_⟩) ?_
  rotate_left
  · intro wq hSw
    try dsimp only at hSw
    go_simp
    try with_reducible rfl
  try simp only [Act.put, List.setIfInBounds_toArray, List.set_cons_zero, List.set_cons_succ]
  refine wpAnyK_takew (i := 8) (v := ?_) rfl (by kernel_rfl) (by kernel_rfl) (by kernel_rfl) (fun _ _ _ h => h) (by decide) (fun _ => hT) (Or.inl ⟨by rfl, ?_⟩) ?_
  rotate_left
  · intro wq _
    go_simp
    try with_reducible rfl
  try simp only [Act.put, List.setIfInBounds_toArray, List.set_cons_zero, List.set_cons_succ]
  refine wpAnyK_takew (i := 9) (v := ?_) rfl (by kernel_rfl) (by kernel_rfl) (by kernel_rfl) (fun _ _ _ h => h) (by decide) (fun _ => hT) (Or.inl ⟨by rfl, ?_⟩) ?_
  rotate_left
  · intro wq _
    go_simp
    try with_reducible rfl
  try simp only [Act.put, List.setIfInBounds_toArray, List.set_cons_zero, List.set_cons_succ]
  refine wpAnyK_takew (i := 10) (v := ?_) rfl (by kernel_rfl) (by kernel_rfl) (by kernel_rfl) (fun _ _ _ h => h) (by decide) (fun _ => hT) (Or.inl ⟨by rfl, ?_⟩) ?_
  rotate_left
  · intro wq _
    go_simp
    try with_reducible rfl
  try simp only [Act.put, List.setIfInBounds_toArray, List.set_cons_zero, List.set_cons_succ]
  refine wpAnyK_take (i := 11) (v := ?_) rfl (by kernel_rfl) (by kernel_rfl) (by kernel_rfl) (fun _ _ _ h => h) rfl (by kernel_rfl) (by kernel_rfl) hT (Or.inl ⟨by rfl, ?_⟩) ?_
  rotate_left
  · intro wq hSw
    try dsimp only at hSw
    go_simp
    try with_reducible rfl
  try simp only [Act.put, List.setIfInBounds_toArray, List.set_cons_zero, List.set_cons_succ]
  refine wpAnyK_ready (rs := [6, 12]) (by kernel_rfl) (by simp) ?_
  refine AllReadyK.cons rfl (fun K hK => ?_) ?_
  · go_simp
    have M0a := M0.alloc hBW (.cells #[.int .i64 (-1)] 3)
    have hbU : (W.drew.alloc (.cells #[.int .i64 (-1)] 3)).heap[W.heap.size]? = some (.cells #[.int .i64 (-1)] 3 (0, 0)) := by
      show (W.drew.heap.push _)[W.heap.size]? = _
      show (W.drew.heap.push _)[W.drew.heap.size]? = _
      rw [Array.getElem?_push_size]
    have hT2 := M0a.cells HF.out
    refine hK.out _ _ (fun _ => hT2) ?_
    clear hK K hT
    have hT := hT2
    clear hT2
    try simp only [Act.put, List.setIfInBounds_toArray, List.set_cons_zero, List.set_cons_succ]
    refine wpAnyK_ready (rs := [7, 12]) (by kernel_rfl) (by simp) ?_
    refine AllReadyK.cons rfl (fun K hK => ?_) ?_
    · refine step_append_lies (W.drew.alloc (.cells #[.int .i64 (-1)] 3)) rfl (.tmp 28) (.tmp 29) 25 rfl B 3 i0 (.int .i64 0) 1 8 Try.underlying25 HI.out.1 HI.out.2.1 HI.out.2.2.1 HI.out.2.2.2 rfl (by decide) upv _ _ rfl M0a.hu ⟨W.heap.size, 0, none⟩ 1 1 [.int .i64 (-1)] rfl rfl (news1 hbU) (by intro u hu; simp at hu; subst hu; rfl) (by decide) (by unfold maxLen; omega) (by omega) (Nat.le_trans hBW M0a.bel.size) _ rfl ?_
      intro g3 c3 w3 hown hgrow hat hlt
      have M0au := M0a.appU hBW hown hgrow hat rfl
      clear hown hgrow hat hlt
      have hT2 := M0au.cells HF.out
      refine hK.out _ _ (fun _ => hT2) ?_
      clear hK K hT
      have hT := hT2
      clear hT2
      try simp only [Act.put, List.setIfInBounds_toArray, List.set_cons_zero, List.set_cons_succ]
      refine wpAnyK_ready (rs := [12]) (by kernel_rfl) (by simp) ?_
      refine AllReadyK.cons rfl (fun K hK => ?_) AllReadyK.nil
      go_simp
      have M0aua := M0au.alloc hBW (.cells #[.slice none 0 0] 25)
      have hbD : (w3.alloc (.cells #[.slice none 0 0] 25)).heap[w3.heap.size]? = some (.cells #[.slice none 0 0] 25 (0, 0)) := by
        show (w3.heap.push _)[w3.heap.size]? = _
        rw [Array.getElem?_push_size]
      have hT2 := M0aua.cells HF.out
      refine hK.out _ _ (fun _ => hT2) ?_
      clear hK K hT
      have hT := hT2
      clear hT2
      try simp only [Act.put, List.setIfInBounds_toArray, List.set_cons_zero, List.set_cons_succ]
      refine wpAnyK_ready (rs := [13]) (by kernel_rfl) (by simp) ?_
      refine AllReadyK.cons rfl (fun K hK => ?_) AllReadyK.nil
      refine step_append_lies (w3.alloc (.cells #[.slice none 0 0] 25)) rfl (.tmp 34) (.tmp 35) 26 rfl B 25 i1 (.slice none 0 0) 1 24 Try.underlying26 HI1.out.1 HI1.out.2.1 HI1.out.2.2.1 HI1.out.2.2.2 rfl (by decide) dnv _ _ rfl M0aua.hd ⟨w3.heap.size, 0, none⟩ 1 1 [.slice none 0 0] rfl rfl (news1 hbD) (by intro u hu; simp at hu; subst hu; rfl) (by decide) (by unfold maxLen; omega) (by omega) (Nat.le_trans hBW M0aua.bel.size) _ rfl ?_
      intro g4 c4 w4 hown hgrow hat hlt
      have M0auad := M0aua.appD hBW hown hgrow hat rfl
      clear hown hgrow hat hlt
      have hT2 := M0auad.cells HF.out
      refine hK.out _ _ (fun _ => hT2) ?_
      clear hK K hT
      have hT := hT2
      clear hT2
      try simp only [Act.put, List.setIfInBounds_toArray, List.set_cons_zero, List.set_cons_succ]
      have Z0 := M0auad.frozen HF.out 0
      have Z1 := M0auad.frozen HF.out 1
      obtain ⟨G, LG⟩ := HF.out.grown (w' := w4) (.slice (some ⟨g3, 0, none⟩) (n + 1) c3) (.slice (some ⟨g4, 0, none⟩) (n + 1) c4) HP.out.new.1 HP.out.new.2 M0auad.bel.size M0auad.hu M0auad.hd M0auad.ub M0auad.keep M0auad.bel
      have HG := Lib.hid G
      have HLG := Lib.hid LG
      clear G LG
      obtain ⟨y0, y1⟩ := hT
      have hT := And.intro y0 y1
      refine wpAnyK_takew (i := 14) (v := ?_) rfl (by kernel_rfl) (by kernel_rfl) (by kernel_rfl) (fun _ _ _ h => h) (by decide) (fun _ => hT) (Or.inl ⟨by rfl, ?_⟩) ?_
      rotate_left
      · intro wq _
        go_simp
        try with_reducible rfl
      try simp only [Act.put, List.setIfInBounds_toArray, List.set_cons_zero, List.set_cons_succ]
      refine wpAnyK_takew (i := 15) (v := ?_) rfl (by kernel_rfl) (by kernel_rfl) (by kernel_rfl) (fun _ _ _ h => h) (by decide) (fun _ => hT) (Or.inl ⟨by rfl, ?_⟩) ?_
      rotate_left
      · intro wq _
        go_simp
        try with_reducible rfl
      try simp only [Act.put, List.setIfInBounds_toArray, List.set_cons_zero, List.set_cons_succ]
      refine wpAnyK_ready (rs := [16]) (by kernel_rfl) (by simp) ?_
      refine AllReadyK.cons rfl (fun K hK => ?_) AllReadyK.nil
      go_simp
      refine hK.out _ _ (fun h => absurd h (by decide)) ?_
      clear hK K hT
      refine wpAnyK_ready (rs := [17]) (by kernel_rfl) (by simp) ?_
      refine AllReadyK.cons rfl (fun K hK => ?_) AllReadyK.nil
      go_simp
      refine hK.out _ _ (fun h => absurd h (by decide)) ?_
      clear hK K
      refine wpAnyK_ready (rs := [18]) (by kernel_rfl) (by simp) ?_
      refine AllReadyK.cons rfl (fun K hK => ?_) AllReadyK.nil
      go_simp
      refine hK.out _ _ (fun h => absurd h (by decide)) ?_
      clear hK K
      refine wpAnyK_ready (rs := [19]) (by kernel_rfl) (by simp) ?_
      refine AllReadyK.cons rfl (fun K hK => ?_) AllReadyK.nil
      go_simp
      refine hK.out _ _ (fun h => absurd h (by decide)) ?_
      clear hK K
      refine wpAnyK_done (by kernel_rfl) ?_ _
      go_wp2_with fail
      go_ret
      exact ⟨true, rfl, (fun _ => ⟨n + 1, _, _, _, _, _, HG.out, HP.out.grow, by omega, fun t ht => ⟨t, Fine.make a b, ht⟩⟩), HL.out.trans HLG.out⟩
    refine AllReadyK.cons rfl (fun K hK => ?_) AllReadyK.nil
    go_simp
    have M0aa := M0a.alloc hBW (.cells #[.slice none 0 0] 25)
    have hbD : ((W.drew.alloc (.cells #[.int .i64 (-1)] 3)).alloc (.cells #[.slice none 0 0] 25)).heap[W.heap.size + 1]? = some (.cells #[.slice none 0 0] 25 (0, 0)) := by
      show ((W.drew.alloc (.cells #[.int .i64 (-1)] 3)).heap.push _)[W.heap.size + 1]? = _
      rw [show W.heap.size + 1 = (W.drew.alloc (.cells #[.int .i64 (-1)] 3)).heap.size by simp, Array.getElem?_push_size]
    replace hbU := (Below.heap_alloc (W.drew.alloc (.cells #[.int .i64 (-1)] 3)) (.cells #[.slice none 0 0] 25) _ (blk_lt hbU)).trans hbU
    have hT2 := M0aa.cells HF.out
    refine hK.out _ _ (fun _ => hT2) ?_
    clear hK K hT
    have hT := hT2
    clear hT2
    try simp only [Act.put, List.setIfInBounds_toArray, List.set_cons_zero, List.set_cons_succ]
    refine wpAnyK_ready (rs := [7]) (by kernel_rfl) (by simp) ?_
    refine AllReadyK.cons rfl (fun K hK => ?_) AllReadyK.nil
    refine step_append_lies ((W.drew.alloc (.cells #[.int .i64 (-1)] 3)).alloc (.cells #[.slice none 0 0] 25)) rfl (.tmp 28) (.tmp 29) 25 rfl B 3 i0 (.int .i64 0) 1 8 Try.underlying25 HI.out.1 HI.out.2.1 HI.out.2.2.1 HI.out.2.2.2 rfl (by decide) upv _ _ rfl M0aa.hu ⟨W.heap.size, 0, none⟩ 1 1 [.int .i64 (-1)] rfl rfl (news1 hbU) (by intro u hu; simp at hu; subst hu; rfl) (by decide) (by unfold maxLen; omega) (by omega) (Nat.le_trans hBW M0aa.bel.size) _ rfl ?_
    intro g3 c3 w3 hown hgrow hat hlt
    have M0aau := M0aa.appU hBW hown hgrow hat rfl
    replace hbD := (hgrow.block _ (blk_lt hbD) (fun e => Nat.lt_irrefl _ (Nat.lt_of_lt_of_le (own_lt HF.out.upr e.symm) (by first | exact Nat.le_refl _ | exact Nat.le_succ _ | (simp; done) | (simp; omega) | omega)))).trans hbD
    clear hown hgrow hat hlt
    have hT2 := M0aau.cells HF.out
    refine hK.out _ _ (fun _ => hT2) ?_
    clear hK K hT
    have hT := hT2
    clear hT2
    try simp only [Act.put, List.setIfInBounds_toArray, List.set_cons_zero, List.set_cons_succ]
    refine wpAnyK_ready (rs := [13]) (by kernel_rfl) (by simp) ?_
    refine AllReadyK.cons rfl (fun K hK => ?_) AllReadyK.nil
    refine step_append_lies w3 rfl (.tmp 34) (.tmp 35) 26 rfl B 25 i1 (.slice none 0 0) 1 24 Try.underlying26 HI1.out.1 HI1.out.2.1 HI1.out.2.2.1 HI1.out.2.2.2 rfl (by decide) dnv _ _ rfl M0aau.hd ⟨W.heap.size + 1, 0, none⟩ 1 1 [.slice none 0 0] rfl rfl (news1 hbD) (by intro u hu; simp at hu; subst hu; rfl) (by decide) (by unfold maxLen; omega) (by omega) (Nat.le_trans hBW M0aau.bel.size) _ rfl ?_
    intro g4 c4 w4 hown hgrow hat hlt
    have M0aaud := M0aau.appD hBW hown hgrow hat rfl
    clear hown hgrow hat hlt
    have hT2 := M0aaud.cells HF.out
    refine hK.out _ _ (fun _ => hT2) ?_
    clear hK K hT
    have hT := hT2
    clear hT2
    try simp only [Act.put, List.setIfInBounds_toArray, List.set_cons_zero, List.set_cons_succ]
    have Z0 := M0aaud.frozen HF.out 0
    have Z1 := M0aaud.frozen HF.out 1
    obtain ⟨G, LG⟩ := HF.out.grown (w' := w4) (.slice (some ⟨g3, 0, none⟩) (n + 1) c3) (.slice (some ⟨g4, 0, none⟩) (n + 1) c4) HP.out.new.1 HP.out.new.2 M0aaud.bel.size M0aaud.hu M0aaud.hd M0aaud.ub M0aaud.keep M0aaud.bel
    have HG := Lib.hid G
    have HLG := Lib.hid LG
    clear G LG
    obtain ⟨y0, y1⟩ := hT
    have hT := And.intro y0 y1
    refine wpAnyK_takew (i := 14) (v := ?_) rfl (by kernel_rfl) (by kernel_rfl) (by kernel_rfl) (fun _ _ _ h => h) (by decide) (fun _ => hT) (Or.inl ⟨by rfl, ?_⟩) ?_
    rotate_left
    · intro wq _
      go_simp
      try with_reducible rfl
    try simp only [Act.put, List.setIfInBounds_toArray, List.set_cons_zero, List.set_cons_succ]
    refine wpAnyK_takew (i := 15) (v := ?_) rfl (by kernel_rfl) (by kernel_rfl) (by kernel_rfl) (fun _ _ _ h => h) (by decide) (fun _ => hT) (Or.inl ⟨by rfl, ?_⟩) ?_
    rotate_left
    · intro wq _
      go_simp
      try with_reducible rfl
    try simp only [Act.put, List.setIfInBounds_toArray, List.set_cons_zero, List.set_cons_succ]
    refine wpAnyK_ready (rs := [16]) (by kernel_rfl) (by simp) ?_
    refine AllReadyK.cons rfl (fun K hK => ?_) AllReadyK.nil
    go_simp
    refine hK.out _ _ (fun h => absurd h (by decide)) ?_
    clear hK K hT
    refine wpAnyK_ready (rs := [17]) (by kernel_rfl) (by simp) ?_
    refine AllReadyK.cons rfl (fun K hK => ?_) AllReadyK.nil
    go_simp
    refine hK.out _ _ (fun h => absurd h (by decide)) ?_
    clear hK K
    refine wpAnyK_ready (rs := [18]) (by kernel_rfl) (by simp) ?_
    refine AllReadyK.cons rfl (fun K hK => ?_) AllReadyK.nil
    go_simp
    refine hK.out _ _ (fun h => absurd h (by decide)) ?_
    clear hK K
    refine wpAnyK_ready (rs := [19]) (by kernel_rfl) (by simp) ?_
    refine AllReadyK.cons rfl (fun K hK => ?_) AllReadyK.nil
    go_simp
    refine hK.out _ _ (fun h => absurd h (by decide)) ?_
    clear hK K
    refine wpAnyK_done (by kernel_rfl) ?_ _
    go_wp2_with fail
    go_ret
    exact ⟨true, rfl, (fun _ => ⟨n + 1, _, _, _, _, _, HG.out, HP.out.grow, by omega, fun t ht => ⟨t, Fine.make a b, ht⟩⟩), HL.out.trans HLG.out⟩
  refine AllReadyK.cons rfl (fun K hK => ?_) AllReadyK.nil
  go_simp
  have M0a := M0.alloc hBW (.cells #[.slice none 0 0] 25)
  have hbD : (W.drew.alloc (.cells #[.slice none 0 0] 25)).heap[W.heap.size]? = some (.cells #[.slice none 0 0] 25 (0, 0)) := by
    show (W.drew.heap.push _)[W.heap.size]? = _
    show (W.drew.heap.push _)[W.drew.heap.size]? = _
    rw [Array.getElem?_push_size]
  have hT2 := M0a.cells HF.out
  refine hK.out _ _ (fun _ => hT2) ?_
  clear hK K hT
  have hT := hT2
  clear hT2
  try simp only [Act.put, List.setIfInBounds_toArray, List.set_cons_zero, List.set_cons_succ]
  refine wpAnyK_ready (rs := [6]) (by kernel_rfl) (by simp) ?_
  refine AllReadyK.cons rfl (fun K hK => ?_) AllReadyK.nil
  go_simp
  have M0aa := M0a.alloc hBW (.cells #[.int .i64 (-1)] 3)
  have hbU : ((W.drew.alloc (.cells #[.slice none 0 0] 25)).alloc (.cells #[.int .i64 (-1)] 3)).heap[W.heap.size + 1]? = some (.cells #[.int .i64 (-1)] 3 (0, 0)) := by
    show ((W.drew.alloc (.cells #[.slice none 0 0] 25)).heap.push _)[W.heap.size + 1]? = _
    rw [show W.heap.size + 1 = (W.drew.alloc (.cells #[.slice none 0 0] 25)).heap.size by simp, Array.getElem?_push_size]
  replace hbD := (Below.heap_alloc (W.drew.alloc (.cells #[.slice none 0 0] 25)) (.cells #[.int .i64 (-1)] 3) _ (blk_lt hbD)).trans hbD
  have hT2 := M0aa.cells HF.out
  refine hK.out _ _ (fun _ => hT2) ?_
  clear hK K hT
  have hT := hT2
  clear hT2
  try simp only [Act.put, List.setIfInBounds_toArray, List.set_cons_zero, List.set_cons_succ]
  refine wpAnyK_ready (rs := [7]) (by kernel_rfl) (by simp) ?_
  refine AllReadyK.cons rfl (fun K hK => ?_) AllReadyK.nil
  refine step_append_lies ((W.drew.alloc (.cells #[.slice none 0 0] 25)).alloc (.cells #[.int .i64 (-1)] 3)) rfl (.tmp 28) (.tmp 29) 25 rfl B 3 i0 (.int .i64 0) 1 8 Try.underlying25 HI.out.1 HI.out.2.1 HI.out.2.2.1 HI.out.2.2.2 rfl (by decide) upv _ _ rfl M0aa.hu ⟨W.heap.size + 1, 0, none⟩ 1 1 [.int .i64 (-1)] rfl rfl (news1 hbU) (by intro u hu; simp at hu; subst hu; rfl) (by decide) (by unfold maxLen; omega) (by omega) (Nat.le_trans hBW M0aa.bel.size) _ rfl ?_
  intro g3 c3 w3 hown hgrow hat hlt
  have M0aau := M0aa.appU hBW hown hgrow hat rfl
  replace hbD := (hgrow.block _ (blk_lt hbD) (fun e => Nat.lt_irrefl _ (Nat.lt_of_lt_of_le (own_lt HF.out.upr e.symm) (by first | exact Nat.le_refl _ | exact Nat.le_succ _ | (simp; done) | (simp; omega) | omega)))).trans hbD
  clear hown hgrow hat hlt
  have hT2 := M0aau.cells HF.out
  refine hK.out _ _ (fun _ => hT2) ?_
  clear hK K hT
  have hT := hT2
  clear hT2
  try simp only [Act.put, List.setIfInBounds_toArray, List.set_cons_zero, List.set_cons_succ]
  refine wpAnyK_ready (rs := [13]) (by kernel_rfl) (by simp) ?_
  refine AllReadyK.cons rfl (fun K hK => ?_) AllReadyK.nil
  refine step_append_lies w3 rfl (.tmp 34) (.tmp 35) 26 rfl B 25 i1 (.slice none 0 0) 1 24 Try.underlying26 HI1.out.1 HI1.out.2.1 HI1.out.2.2.1 HI1.out.2.2.2 rfl (by decide) dnv _ _ rfl M0aau.hd ⟨W.heap.size, 0, none⟩ 1 1 [.slice none 0 0] rfl rfl (news1 hbD) (by intro u hu; simp at hu; subst hu; rfl) (by decide) (by unfold maxLen; omega) (by omega) (Nat.le_trans hBW M0aau.bel.size) _ rfl ?_
  intro g4 c4 w4 hown hgrow hat hlt
  have M0aaud := M0aau.appD hBW hown hgrow hat rfl
  clear hown hgrow hat hlt
  have hT2 := M0aaud.cells HF.out
  refine hK.out _ _ (fun _ => hT2) ?_
  clear hK K hT
  have hT := hT2
  clear hT2
  try simp only [Act.put, List.setIfInBounds_toArray, List.set_cons_zero, List.set_cons_succ]
  have Z0 := M0aaud.frozen HF.out 0
  have Z1 := M0aaud.frozen HF.out 1
  obtain ⟨G, LG⟩ := HF.out.grown (w' := w4) (.slice (some ⟨g3, 0, none⟩) (n + 1) c3) (.slice (some ⟨g4, 0, none⟩) (n + 1) c4) HP.out.new.1 HP.out.new.2 M0aaud.bel.size M0aaud.hu M0aaud.hd M0aaud.ub M0aaud.keep M0aaud.bel
  have HG := Lib.hid G
  have HLG := Lib.hid LG
  clear G LG
  obtain ⟨y0, y1⟩ := hT
  have hT := And.intro y0 y1
  refine wpAnyK_takew (i := 14) (v := ?_) rfl (by kernel_rfl) (by kernel_rfl) (by kernel_rfl) (fun _ _ _ h => h) (by decide) (fun _ => hT) (Or.inl ⟨by rfl, ?_⟩) ?_
  rotate_left
  · intro wq _
    go_simp
    try with_reducible rfl
  try simp only [Act.put, List.setIfInBounds_toArray, List.set_cons_zero, List.set_cons_succ]
  refine wpAnyK_takew (i := 15) (v := ?_) rfl (by kernel_rfl) (by kernel_rfl) (by kernel_rfl) (fun _ _ _ h => h) (by decide) (fun _ => hT) (Or.inl ⟨by rfl, ?_⟩) ?_
  rotate_left
  · intro wq _
    go_simp
    try with_reducible rfl
  try simp only [Act.put, List.setIfInBounds_toArray, List.set_cons_zero, List.set_cons_succ]
  refine wpAnyK_ready (rs := [16]) (by kernel_rfl) (by simp) ?_
  refine AllReadyK.cons rfl (fun K hK => ?_) AllReadyK.nil
  go_simp
  refine hK.out _ _ (fun h => absurd h (by decide)) ?_
  clear hK K hT
  refine wpAnyK_ready (rs := [17]) (by kernel_rfl) (by simp) ?_
  refine AllReadyK.cons rfl (fun K hK => ?_) AllReadyK.nil
  go_simp
  refine hK.out _ _ (fun h => absurd h (by decide)) ?_
  clear hK K
  refine wpAnyK_ready (rs := [18]) (by kernel_rfl) (by simp) ?_
  refine AllReadyK.cons rfl (fun K hK => ?_) AllReadyK.nil
  go_simp
  refine hK.out _ _ (fun h => absurd h (by decide)) ?_
  clear hK K
  refine wpAnyK_ready (rs := [19]) (by kernel_rfl) (by simp) ?_
  refine AllReadyK.cons rfl (fun K hK => ?_) AllReadyK.nil
  go_simp
  refine hK.out _ _ (fun h => absurd h (by decide)) ?_
  clear hK K
  refine wpAnyK_done (by kernel_rfl) ?_ _
  go_wp2_with fail
  go_ret
  exact ⟨true, rfl, (fun _ => ⟨n + 1, _, _, _, _, _, HG.out, HP.out.grow, by omega, fun t ht => ⟨t, Fine.make a b, ht⟩⟩), HL.out.trans HLG.out⟩

end Go.Proofs.YtccofockeemmkaaRR
