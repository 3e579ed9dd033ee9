/- Smart punctuation: smartQuoteHelper walked at the two kinds of quotes that the law knows. Condition: lengths are bounded. -/
import Derived.Test.YtnkjnlmghnomiaaDoorPanG
namespace Go.Proofs.YtnkjnlmghnomiaaDoor
open Go.ChangeShapes Go.WideShapes Go.ChangeAt Go.RowKit

theorem lett_facts {n : Int} (h : lettI n = true) : (n == 0) = false ∧ spcI n = false ∧ punctI n = false := by
  have hc : (97 ≤ n ∧ n ≤ 122) ∨ (65 ≤ n ∧ n ≤ 90) := by
    unfold lettI at h
    simpa using h
  refine ⟨by simp; omega, ?_, punct_no fun k hk => ?_⟩
  · unfold spcI
    simp
    omega
  · have hb : ∀ k, k < 32 → (33 ≤ bat punctL k ∧ bat punctL k ≤ 64) ∨ (91 ≤ bat punctL k ∧ bat punctL k ≤ 96) ∨ (123 ≤ bat punctL k) := by decide
    have := hb k hk
    simp
    omega

set_option maxHeartbeats 4000000 in
set_option maxRecDepth 100000 in
theorem quote_any (F : Cfg) (B : Nat) (va : Value) (b : Nat) (w0 w : World) (l : List UInt8) (h : Cb F B va b w0 w l) (op : Bool) (prev next : Int) (hq : hqB op prev next = true) (q : UInt8) (i : Nat) (hi : i < 2) (nb : Bool) (hl : l.length ≤ 1000) :
    Calls Tryd.prog 52 #[.pointer (some ⟨b, 0, none⟩), .int .u8 prev, .int .u8 next, .int .u8 (q.toNat : Int), .pointer (some ⟨B, i, none⟩), .bool nb] w fun e w' => e = .returned (.bool true) ∧ Cb F B va b w0 w' (l ++ quoL op q nb) := by
  have HQ := Lib.hid hq
  clear hq
  go_enter Tryd.func52, Tryd.ntmps52
  go_upto_block 0 with fail
  go_cut [] (fun wx => CbF F B va b i op w0 wx l)
  case first => as_aux_lemma =>
    have hcb := h
    obtain ⟨⟨x, kx⟩, fx⟩ := hcb.rd.flag i hi
    cases op with
    | true =>
      have hq := HQ.out
      unfold hqB at hq
      rw [if_pos rfl, Bool.and_eq_true] at hq
      obtain ⟨n0, n1, n2⟩ := lett_facts hq.2
      have hp : prev = 0 ∨ prev = 32 := by
        have := hq.1
        unfold edgeI at this
        simpa using this
      clear hq HQ
      have s0 : spcI 0 = false := rfl
      have p0 : punctI 0 = false := by decide
      have s32 : spcI 32 = true := rfl
      have p32 : punctI 32 = false := by decide
      rcases hp with rfl | rfl
      all_goals
        go_wp2_with (first | (go_at_call 60; refine (isspace_any _ _).mono ?_; rintro e w2 ⟨rfl, rfl⟩) | (go_at_call 61; refine (ispunct_any _ _).mono ?_; rintro e w2 ⟨rfl, hb⟩; have hcb := hcb.below hb; obtain ⟨⟨x, kx⟩, fx⟩ := hcb.rd.flag i hi))
        go_meet
        exact hcb.toF i hi true
    | false =>
      have hq := HQ.out
      unfold hqB at hq
      rw [if_neg (by decide), Bool.and_eq_true] at hq
      obtain ⟨n0, n1, n2⟩ := lett_facts hq.1
      have hn : next = 32 := by simpa using hq.2
      subst hn
      clear hq HQ
      have s32 : spcI 32 = true := rfl
      have p32 : punctI 32 = false := by decide
      go_wp2_with (first | (go_at_call 60; refine (isspace_any _ _).mono ?_; rintro e w2 ⟨rfl, rfl⟩) | (go_at_call 61; refine (ispunct_any _ _).mono ?_; rintro e w2 ⟨rfl, hb⟩; have hcb := hcb.below hb; obtain ⟨⟨x, kx⟩, fx⟩ := hcb.rd.flag i hi))
      go_meet
      exact hcb.toF i hi false
  clear h
  have hf := hcut.flag
  have HC := Lib.hid hcut
  clear hcut
  cases op with
  | true =>
    cases nb with
    | true =>
      go_wp2_with fail
      refine (HC.out.byte 38 _ rfl (by omega)).mono ?_
      rintro e w1 ⟨rfl, h1⟩
      have hf := h1.flag
      go_wp2_with fail
      refine (h1.byte 108 _ rfl (by simp; omega)).mono ?_
      rintro e w2 ⟨rfl, h2⟩
      go_wp2_with fail
      refine (h2.byte q _ rfl (by simp; omega)).mono ?_
      rintro e w3 ⟨rfl, h3⟩
      go_wp2_with fail
      refine (h3.str ⟨#[113, 117, 111, 59]⟩ [113, 117, 111, 59] rfl (by decide) (by simp; omega)).mono ?_
      rintro e w4 ⟨rfl, h4⟩
      have hf := h4.flag
      go_wp2_with fail
      refine (h4.str ⟨#[38, 110, 98, 115, 112, 59]⟩ nbspL rfl (by decide) (by simp [nbspL]; omega)).mono ?_
      rintro e w5 ⟨rfl, h5⟩
      go_wp2_with fail
      go_ret
      exact ⟨rfl, by simpa [quoL] using h5.toCb⟩
    | false =>
      go_wp2_with fail
      refine (HC.out.byte 38 _ rfl (by omega)).mono ?_
      rintro e w1 ⟨rfl, h1⟩
      have hf := h1.flag
      go_wp2_with fail
      refine (h1.byte 108 _ rfl (by simp; omega)).mono ?_
      rintro e w2 ⟨rfl, h2⟩
      go_wp2_with fail
      refine (h2.byte q _ rfl (by simp; omega)).mono ?_
      rintro e w3 ⟨rfl, h3⟩
      go_wp2_with fail
      refine (h3.str ⟨#[113, 117, 111, 59]⟩ [113, 117, 111, 59] rfl (by decide) (by simp; omega)).mono ?_
      rintro e w4 ⟨rfl, h4⟩
      go_wp2_with fail
      go_ret
      exact ⟨rfl, by simpa [quoL] using h4.toCb⟩
  | false =>
    cases nb with
    | true =>
      go_wp2_with fail
      refine (HC.out.str ⟨#[38, 110, 98, 115, 112, 59]⟩ nbspL rfl (by decide) (by simp [nbspL]; omega)).mono ?_
      rintro e w5 ⟨rfl, h5⟩
      go_wp2_with fail
      refine (h5.byte 38 _ rfl (by simp [nbspL]; omega)).mono ?_
      rintro e w1 ⟨rfl, h1⟩
      have hf := h1.flag
      go_wp2_with fail
      refine (h1.byte 114 _ rfl (by simp [nbspL]; omega)).mono ?_
      rintro e w2 ⟨rfl, h2⟩
      go_wp2_with fail
      refine (h2.byte q _ rfl (by simp [nbspL]; omega)).mono ?_
      rintro e w3 ⟨rfl, h3⟩
      go_wp2_with fail
      refine (h3.str ⟨#[113, 117, 111, 59]⟩ [113, 117, 111, 59] rfl (by decide) (by simp [nbspL]; omega)).mono ?_
      rintro e w4 ⟨rfl, h4⟩
      have hf := h4.flag
      go_wp2_with fail
      go_ret
      exact ⟨rfl, by simpa [quoL] using h4.toCb⟩
    | false =>
      go_wp2_with fail
      refine (HC.out.byte 38 _ rfl (by omega)).mono ?_
      rintro e w1 ⟨rfl, h1⟩
      have hf := h1.flag
      go_wp2_with fail
      refine (h1.byte 114 _ rfl (by simp; omega)).mono ?_
      rintro e w2 ⟨rfl, h2⟩
      go_wp2_with fail
      refine (h2.byte q _ rfl (by simp; omega)).mono ?_
      rintro e w3 ⟨rfl, h3⟩
      go_wp2_with fail
      refine (h3.str ⟨#[113, 117, 111, 59]⟩ [113, 117, 111, 59] rfl (by decide) (by simp; omega)).mono ?_
      rintro e w4 ⟨rfl, h4⟩
      go_wp2_with fail
      go_ret
      exact ⟨rfl, by simpa [quoL] using h4.toCb⟩

end Go.Proofs.YtnkjnlmghnomiaaDoor
