/- Smart punctuation: whatever callback a byte has, it writes what Act says. Condition: lengths are bounded. -/
import Derived.Test.YtnkjnlmghnomiaaDoorPanL
import Derived.Test.YtnkjnlmghnomiaaDoorPanM
namespace Go.Proofs.YtnkjnlmghnomiaaDoor
open Go.ChangeShapes Go.WideShapes Go.ChangeAt Go.RowKit

/-- what calling a callback answers, be it a method of the renderer or the closure -/
def CallsAct (F : Cfg) (B : Nat) (va : Value) (b tb t0 n c : Nat) (prev : Int) (v : Value) (w : World) (Q : Ending → World → Prop) : Prop :=
  (∃ f, v = meth B f ∧ Calls Tryd.prog f #[.pointer (some ⟨B, 0, none⟩), .pointer (some ⟨b, 0, none⟩), .int .u8 prev, .slice (some ⟨tb, t0, none⟩) n c] w Q) ∨
  (∃ x y z : Nat, v = .func (.func 48) #[] #[.pointer (some ⟨x, 0, none⟩), .pointer (some ⟨y, 0, none⟩), .pointer (some ⟨z, 0, none⟩)] ∧
    Calls Tryd.prog 48 #[.pointer (some ⟨b, 0, none⟩), .int .u8 prev, .slice (some ⟨tb, t0, none⟩) n c, .pointer (some ⟨x, 0, none⟩), .pointer (some ⟨y, 0, none⟩), .pointer (some ⟨z, 0, none⟩)] w Q)

theorem bat_lit {m : List UInt8} {v : UInt8} (h : bat m 0 = (v.toNat : Int)) : m.getD 0 0 = v := by
  unfold bat at h
  exact UInt8.toNat_inj.1 (by exact_mod_cast h)
theorem lett_wb {x : Int} (h : lettI x = true) : wbI x = false := by
  have hc : (97 ≤ x ∧ x ≤ 122) ∨ (65 ≤ x ∧ x ≤ 90) := by
    unfold lettI at h
    simpa using h
  have hp : punctI x = false := punct_no fun k hk => by
    have hb : ∀ k, k < 32 → bat punctL k ≤ 64 ∨ (91 ≤ bat punctL k ∧ bat punctL k ≤ 96) ∨ 123 ≤ bat punctL k := by decide
    have := hb k hk
    simp
    omega
  unfold wbI spcI
  rw [hp]
  simp
  omega
theorem quot_first {m : List UInt8} (h : m.take 6 = quotL) : bat m 0 = 38 := by
  cases m with
  | nil => cases h
  | cons x t =>
    have : x = 38 := by
      have := congrArg (fun l : List UInt8 => l.getD 0 0) h
      simpa [quotL] using this
    rw [this]
    rfl

set_option maxHeartbeats 1000000 in
theorem act_any (F : Cfg) (B : Nat) (va : Value) (b tb t0 n c : Nat) (m : List UInt8) (prev : Int) (w : World) (h : CbIn F B va b tb t0 n m w) (hv : Amp F B va w) (o : List UInt8) (k : Nat) (a : Act F prev m o k) (hnc : n ≤ c) (hcm : c ≤ maxLen) :
    CallsAct F B va b tb t0 n c prev (want F B va (bat m 0).toNat) w (CbSaid F B va b o k w) := by
  cases a with
  | dq op h0 hl hq =>
    refine Or.inl ⟨if F.ang then 37 else 36, by rw [h0]; rfl, ?_⟩
    unfold quoK
    by_cases hF : F.ang = true
    · rw [if_pos hF, if_pos hF]
      exact aq_any F B va b tb t0 n c m prev w h op hl hq
    · rw [if_neg hF, if_neg hF]
      exact dq_any F B va b tb t0 n c m prev w h op hl hq
  | quot op h0 hl hq =>
    obtain ⟨x, y, z, e, _, _, _, _, _, _, hx, hy, hz⟩ := hv.val
    refine Or.inr ⟨x, y, z, by rw [quot_first h0]; exact e, ?_⟩
    exact ampFn_any F B b x y z _ prev w hx hy hz 5 _ (ampQuot_any F B va b tb t0 n c m prev w h op F.nbsp (quoK F) h0 hl hq hnc hcm)
  | amp h0 hl h1 h2 =>
    obtain ⟨x, y, z, e, _, _, _, _, _, _, hx, hy, hz⟩ := hv.val
    refine Or.inr ⟨x, y, z, by rw [h0]; exact e, ?_⟩
    exact ampFn_any F B b x y z _ prev w hx hy hz 0 _ (ampOne_any F B va b tb t0 n c m prev w h F.nbsp (quoK F) hl h1 h2 hnc hcm)
  | apos2 op h0 h1 hl hq => exact Or.inl ⟨_, by rw [h0]; rfl, apos2_any F B va b tb t0 n c m prev w h op h1 hl hq⟩
  | short1 h0 h1 h2 hl => exact Or.inl ⟨_, by rw [h0]; rfl, short1_any F B va b tb t0 n c m prev w h _ rfl (by unfold stmdI at h1; simp at h1; omega) h2 hl⟩
  | short2 h0 h1 h2 hl => exact Or.inl ⟨_, by rw [h0]; rfl, short2_any F B va b tb t0 n c m prev w h _ _ rfl rfl (by unfold pairI at h1; simp at h1; omega) h2 hl⟩
  | sopen h0 h1 h2 h3 hl hp => exact Or.inl ⟨_, by rw [h0]; rfl, sopen_any F B va b tb t0 n c m prev w h h1 h2 h3 hl hp⟩
  | sclose h0 h1 hl hp => exact Or.inl ⟨_, by rw [h0]; rfl, sclose_any F B va b tb t0 n c m prev w h h1 hl hp⟩
  | tick op h0 h1 hl hq => exact Or.inl ⟨_, by rw [h0]; rfl, tick_any F B va b tb t0 n c m prev w h op h1 hl hq⟩
  | copy h0 h1 h2 hl => exact Or.inl ⟨_, by rw [h0]; rfl, parens_any F B va b tb t0 n c m prev w h _ _ (by rcases h1 with h1 | h1 <;> simp [h1, h2, hl])⟩
  | reg h0 h1 h2 hl => exact Or.inl ⟨_, by rw [h0]; rfl, parens_any F B va b tb t0 n c m prev w h _ _ (by rcases h1 with h1 | h1 <;> simp [h1, h2, hl])⟩
  | trade h0 h1 h2 h3 hl => exact Or.inl ⟨_, by rw [h0]; rfl, parens_any F B va b tb t0 n c m prev w h _ _ (by rcases h1 with h1 | h1 <;> rcases h2 with h2 | h2 <;> simp [h1, h2, h3, hl])⟩
  | d2 hd hx h0 h1 hl => exact Or.inl ⟨_, by rw [h0]; simp [want, hd, hx], dash_any F B va b tb t0 n c m prev w h _ _ (by simp [h1, hl])⟩
  | dn hd hx h0 h1 hl hp =>
    have hw : wbI prev = true := by
      rcases hp with hp | rfl
      · exact (edge_wb hp).1
      · rfl
    exact Or.inl ⟨_, by rw [h0]; simp [want, hd, hx], dash_any F B va b tb t0 n c m prev w h _ _ (by simp [h0, h1, hl, hw])⟩
  | dp hd hx h0 h1 hl hp =>
    refine Or.inl ⟨_, by rw [h0]; simp [want, hd, hx], dash_any F B va b tb t0 n c m prev w h _ _ ?_⟩
    rcases hp with hp | rfl
    · exact Or.inr (Or.inr (Or.inr ⟨h0, h1, lett_wb hp, hl, rfl, rfl⟩))
    · exact Or.inr (Or.inr (Or.inl ⟨h0, h1, rfl, hl, rfl, rfl⟩))
  | l3 hd hx h0 h1 h2 hl => exact Or.inl ⟨_, by rw [h0]; simp [want, hd, hx], latex_any F B va b tb t0 n c m prev w h _ _ (by simp [h1, h2, hl])⟩
  | l2 hd hx h0 h1 h2 hl => exact Or.inl ⟨_, by rw [h0]; simp [want, hd, hx], latex_any F B va b tb t0 n c m prev w h _ _ (Or.inr (Or.inl ⟨h1, h2, hl, rfl, rfl⟩))⟩
  | l1 hd hx h0 h1 hl => exact Or.inl ⟨_, by rw [h0]; simp [want, hd, hx], latex_any F B va b tb t0 n c m prev w h _ _ (Or.inr (Or.inr ⟨h0, h1, hl, rfl, rfl⟩))⟩
  | e3 h0 h1 h2 hl => exact Or.inl ⟨_, by rw [h0]; rfl, period_any F B va b tb t0 n c m prev w h _ _ (Or.inl ⟨h1, h2, hl, rfl, rfl⟩)⟩
  | e5 h0 h1 h2 h3 h4 hl => exact Or.inl ⟨_, by rw [h0]; rfl, period_any F B va b tb t0 n c m prev w h _ _ (Or.inr (Or.inl ⟨h1, h2, h3, h4, hl, rfl, rfl⟩))⟩
  | p1 h0 h1 h2 hl => exact Or.inl ⟨_, by rw [h0]; rfl, period_any F B va b tb t0 n c m prev w h _ _ (Or.inr (Or.inr (Or.inl ⟨h0, h1, h2, hl, rfl, rfl⟩)))⟩
  | p2 h0 h1 h2 hl =>
    refine Or.inl ⟨_, by rw [h0]; rfl, period_any F B va b tb t0 n c m prev w h _ _ (Or.inr (Or.inr (Or.inr ?_)))⟩
    by_cases hq : bat m 2 = 46
    · exact Or.inr ⟨h0, h1, hq, by rcases h2 with h2 | h2; exact absurd hq h2; exact h2, hl, rfl, rfl⟩
    · exact Or.inl ⟨h0, h1, hq, hl, rfl, rfl⟩
  | angle g h0 hg hl hn => exact Or.inl ⟨_, by rw [h0]; rfl, angle_any F B va b tb t0 n c k m prev w h hg hl hn hnc hcm⟩
  | gen p q hf h0 hp ha hd hs hab hd2 hb hl =>
    obtain ⟨p1, p2⟩ := edge_wb hp
    refine Or.inl ⟨_, ?_, gen_any F B va b tb t0 n c m prev w h p q p1 p2 ha hd hs hab hd2 hb hl hnc hcm⟩
    obtain ⟨x, hx⟩ : ∃ x, x = (bat m 0).toNat := ⟨_, rfl⟩
    rw [← hx]
    unfold want
    rw [if_neg (by omega), if_neg (by omega), if_neg (by omega), if_neg (by omega), if_neg (by omega), if_neg (by omega), if_pos (by omega), if_pos hf]
  | half hf h0 h1 h2 h3 hl hp =>
    obtain ⟨p1, p2⟩ := edge_wb hp
    exact Or.inl ⟨_, by rw [h0]; simp [want, hf], half_any F B va b tb t0 n c m prev w h h0 h1 h2 h3 hl p1 p2⟩
  | quarter hf h0 h1 h2 h3 hl hp =>
    obtain ⟨p1, p2⟩ := edge_wb hp
    exact Or.inl ⟨_, by rw [h0]; simp [want, hf], quarter_any F B va b tb t0 n c m prev w h h0 h1 h2 h3 hl p1 p2⟩
  | three hf h0 h1 h2 h3 hl hp =>
    obtain ⟨p1, p2⟩ := edge_wb hp
    exact Or.inl ⟨_, by rw [h0]; simp [want, hf], three_any F B va b tb t0 n c m prev w h h0 h1 h2 h3 hl p1 p2⟩
  | num1 hf h0 hl hp =>
    have hk : (wbI prev = true ∧ (prev != 47) = false) ∨ wbI prev = false := by
      rcases hp with rfl | hp
      · exact Or.inl ⟨rfl, rfl⟩
      · exact Or.inr (dig_facts hp).1
    rcases h0 with h0 | h0
    · rw [bat_lit (v := 49) h0]
      rcases hk with ⟨p1, p2⟩ | p1
      · exact Or.inl ⟨_, by rw [h0]; simp [want, hf], num1s49_any F B va b tb t0 n c m prev w h h0 hl p2 p1⟩
      · exact Or.inl ⟨_, by rw [h0]; simp [want, hf], num1d49_any F B va b tb t0 n c m prev w h h0 hl p1⟩
    · rw [bat_lit (v := 51) h0]
      rcases hk with ⟨p1, p2⟩ | p1
      · exact Or.inl ⟨_, by rw [h0]; simp [want, hf], num1s51_any F B va b tb t0 n c m prev w h h0 hl p2 p1⟩
      · exact Or.inl ⟨_, by rw [h0]; simp [want, hf], num1d51_any F B va b tb t0 n c m prev w h h0 hl p1⟩
  | num2 hf h0 hl hp hq hr =>
    obtain ⟨p1, p2⟩ := edge_wb hp
    rcases h0 with h0 | h0
    · rw [bat_lit (v := 49) h0]
      refine Or.inl ⟨43, by rw [h0]; simp [want, hf], ?_⟩
      by_cases h1 : bat m 1 = 47
      · by_cases h2 : bat m 2 = 50
        · exact num2d4950_any F B va b tb t0 n c m prev w h h0 h1 h2 (hq h0 h1 (Or.inl h2)) hl p1 p2
        · by_cases h3 : bat m 2 = 52
          · exact num2d4952_any F B va b tb t0 n c m prev w h h0 h1 h3 (hq h0 h1 (Or.inr h3)) hl p1 p2
          · exact num2a49_any F B va b tb t0 n c m prev w h h0 h1 h2 h3 hl p1 p2
      · exact num2n49_any F B va b tb t0 n c m prev w h h0 h1 hl p1 p2
    · rw [bat_lit (v := 51) h0]
      refine Or.inl ⟨43, by rw [h0]; simp [want, hf], ?_⟩
      by_cases h1 : bat m 1 = 47
      · by_cases h2 : bat m 2 = 52
        · exact num2d51_any F B va b tb t0 n c m prev w h h0 h1 h2 (hr h0 h1 h2) hl p1 p2
        · exact num2a51_any F B va b tb t0 n c m prev w h h0 h1 h2 hl p1 p2
      · exact num2n51_any F B va b tb t0 n c m prev w h h0 h1 hl p1 p2

end Go.Proofs.YtnkjnlmghnomiaaDoor
