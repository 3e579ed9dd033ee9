/- Fences: impl.Fence walked. Condition: as for isFenceLine. -/
import Derived.Test.YtcpkkmpckdcbjaaDoorFenE
import Derived.Handy
namespace Go.Proofs.YtcpkkmpckdcbjaaDoor
open Go.ChangeShapes Go.WideShapes Go.ChangeAt Go.RowKit

set_option maxHeartbeats 4000000 in
theorem door_any (p : Option Addr) (n c L : Nat) (l : List UInt8) (mk : ByteArray) (ml : List UInt8) (q : Option Nat) (w : World) (h : Bs w p n l) (hc : n ≤ c) (hcm : c ≤ maxLen) (hF : FL l L) (hm : Str mk ml) (hml : ml.length ≤ 1000000)
    (hq : ∀ bi, q = some bi → (∃ u, w.cell? ⟨bi, 0, none⟩ = some (.string u)) ∧ w.frozen? ⟨bi, 0, none⟩ = false ∧ ∀ i, i < n → bat l i ≠ 123) :
    Calls Tryd.prog 9 #[.slice p n c, qv q, .string mk] w (fenceSaid w L q (fence (l.take L) q.isSome ml)) := by
  have H := Lib.hid (isFence_any p n c L l mk ml q w h hc hcm hF hm hml hq)
  clear h hF hm hq
  obtain ⟨r, hr⟩ : ∃ r, r = fence (l.take L) q.isSome ml := ⟨_, rfl⟩
  rw [← hr] at H ⊢
  clear hr
  go_enter Tryd.func9, Tryd.ntmps9
  go_wp2_with fail
  refine H.out.mono ?_
  rintro e w1 ⟨he, hw⟩
  clear H
  have HW := Lib.hid hw
  clear hw
  cases r with
  | none =>
    have he' : e = .returned (.tuple #[.int .i64 0, .string ⟨#[]⟩]) := he
    clear he
    subst he'
    go_wp2_with fail
    go_ret2
    exact ⟨rfl, HW.out⟩
  | some r =>
    have he' : e = .returned (.tuple #[.int .i64 ((L + 1 : Nat) : Int), .string (str r.1)]) := he
    clear he
    subst he'
    go_wp2_with fail
    go_ret2
    exact ⟨rfl, HW.out⟩

theorem fence_plain {D : List UInt8} {ml : List UInt8} {r : List UInt8 × List UInt8} (h : fence D false ml = some r) : r.2 = [] := by
  simp only [fence] at h
  repeat' split at h
  all_goals first
    | (cases h; done)
    | (exfalso; simp_all; done)
    | (injection h with h; rw [← h])

/-- the results of impl.Fence -/
def implOut (L : Nat) : Option (List UInt8 × List UInt8) → Ending
  | none => .returned (.tuple #[.int .i64 0, .string ⟨#[]⟩, .string ⟨#[]⟩])
  | some r => .returned (.tuple #[.int .i64 ((L + 1 : Nat) : Int), .string (str r.1), .string (str r.2)])
def implSaid (w : World) (L : Nat) (r : Option (List UInt8 × List UInt8)) (e : Ending) (w' : World) : Prop := e = implOut L r ∧ Below w.heap.size w w'

set_option maxHeartbeats 4000000 in
theorem impl_any (p : Option Addr) (n c L : Nat) (l : List UInt8) (ask : Bool) (mk : ByteArray) (ml : List UInt8) (w : World) (h : Bs w p n l) (hF : FL l L) (hm : Str mk ml) (hml : ml.length ≤ 1000000) (hb : ask = true → ∀ i, i < n → bat l i ≠ 123) :
    Calls Tryd.prog 5 #[.slice p n c, .bool ask, .string mk] w (implSaid w L (fence (l.take L) ask ml)) := by
  have hn := h.len
  have hlt := hF.lt
  have hle := hF.len
  have HO := Lib.hid (fun ob : Obj => own_bs p n c l (w.alloc ob) (h.below ((Below.refl _ _).alloc (Nat.le_refl _) ob) (Nat.le_refl _)) (by omega))
  have HF := Lib.hid hF
  have HM := Lib.hid hm
  have HBr := Lib.hid hb
  clear h hF hm hb
  cases ask with
  | false =>
    obtain ⟨r, hr⟩ : ∃ r, r = fence (l.take L) false ml := ⟨_, rfl⟩
    rw [← hr]
    have HRr := Lib.hid hr
    go_enter Tryd.func5, Tryd.ntmps5
    go_wp2_with fail
    refine (HO.out _).mono ?_
    rintro e w2 ⟨p', c', rfl, hc1, hc2, hBs, hBel⟩
    have hcb : w2.cell? ⟨w.heap.size, 0, none⟩ = some (.string ⟨#[]⟩) := by
      rw [hBel.cell (by simp)]
      simp
    have hfb : w2.frozen? ⟨w.heap.size, 0, none⟩ = false := by
      rw [hBel.frozen (by simp)]
      simp
    have hsz : w.heap.size < w2.heap.size := by
      have := hBel.size
      simp at this
      omega
    have hL2 : Below w.heap.size w w2 := ((Below.refl _ _).alloc (Nat.le_refl _) _).trans (hBel.mono (by simp))
    have HD := Lib.hid (door_any p' n c' L l mk ml none w2 hBs hc1 hc2 HF.out HM.out hml (fun bi hbi => by cases hbi))
    have e0 : (none : Option Nat).isSome = false := rfl
    rw [e0, ← hr] at HD
    have e1 : qv none = .pointer none := rfl
    rw [e1] at HD
    have HL2 := Lib.hid hL2
    clear hr HO hBs hBel hL2 e0 e1
    go_wp2_with fail
    refine HD.out.mono ?_
    rintro e w3 ⟨he, hw⟩
    clear HD
    cases r with
    | none =>
      have he' : e = .returned (.tuple #[.int .i64 0, .string ⟨#[]⟩]) := he
      have hw' : w3 = w2 := hw
      clear he hw
      subst he' hw'
      have hcs := World.cell?_setCell_same _ _ (.string ⟨#[]⟩) hcb
      go_wp2_with fail
      go_region
      all_goals (go_wp2_with fail; ((try simp only [Exit.inBlock, Exit.then]); refine bodyPost_ret (by simp [results, Tryd.results5, go_sem, hcs]; try rfl) rfl ?_); exact ⟨rfl, by first | exact HL2.out.drew | exact (HL2.out.drew.setCell (Nat.le_refl _) _) | exact (HL2.out.setCell (Nat.le_refl _) _).drew⟩)
    | some r =>
      have he' : e = .returned (.tuple #[.int .i64 ((L + 1 : Nat) : Int), .string (str r.1)]) := he
      have hw' : w3 = w2 := hw
      clear he hw
      subst he' hw'
      have hcs := World.cell?_setCell_same _ _ (.string ⟨#[]⟩) hcb
      go_wp2_with fail
      go_region
      all_goals (go_wp2_with fail; ((try simp only [Exit.inBlock, Exit.then]); refine bodyPost_ret (by simp [results, Tryd.results5, go_sem, hcs]; try rfl) rfl ?_))
      all_goals (
        have hi : r.2 = [] := fence_plain HRr.out.symm
        have e : (Value.string (str r.2)) = .string ⟨#[]⟩ := by rw [hi]; rfl
        exact ⟨by show _ = Ending.returned (.tuple #[_, _, .string (str r.2)]); rw [e]; rfl, by first | exact HL2.out.drew | exact (HL2.out.drew.setCell (Nat.le_refl _) _) | exact (HL2.out.setCell (Nat.le_refl _) _).drew⟩)
  | true =>
    obtain ⟨r, hr⟩ : ∃ r, r = fence (l.take L) true ml := ⟨_, rfl⟩
    rw [← hr]
    have HRr := Lib.hid hr
    go_enter Tryd.func5, Tryd.ntmps5
    go_wp2_with fail
    refine (HO.out _).mono ?_
    rintro e w2 ⟨p', c', rfl, hc1, hc2, hBs, hBel⟩
    have hcb : w2.cell? ⟨w.heap.size, 0, none⟩ = some (.string ⟨#[]⟩) := by
      rw [hBel.cell (by simp)]
      simp
    have hfb : w2.frozen? ⟨w.heap.size, 0, none⟩ = false := by
      rw [hBel.frozen (by simp)]
      simp
    have hsz : w.heap.size < w2.heap.size := by
      have := hBel.size
      simp at this
      omega
    have hL2 : Below w.heap.size w w2 := ((Below.refl _ _).alloc (Nat.le_refl _) _).trans (hBel.mono (by simp))
    have HD := Lib.hid (door_any p' n c' L l mk ml (some w.heap.size) w2 hBs hc1 hc2 HF.out HM.out hml (fun bi hbi => by injection hbi with hbi; subst hbi; exact ⟨⟨_, hcb⟩, hfb, HBr.out (by first | rfl | trivial)⟩))
    have e0 : (some w.heap.size).isSome = true := rfl
    rw [e0, ← hr] at HD
    have e1 : qv (some w.heap.size) = .pointer (some ⟨w.heap.size, 0, none⟩) := rfl
    rw [e1] at HD
    have HL2 := Lib.hid hL2
    clear hr HO hBs hBel hL2 e0 e1
    go_wp2_with fail
    refine HD.out.mono ?_
    rintro e w3 ⟨he, hw⟩
    clear HD
    cases r with
    | none =>
      have he' : e = .returned (.tuple #[.int .i64 0, .string ⟨#[]⟩]) := he
      have hw' : w3 = w2 := hw
      clear he hw
      subst he' hw'
      have hcs := World.cell?_setCell_same _ _ (.string ⟨#[]⟩) hcb
      go_wp2_with fail
      go_region
      all_goals (go_wp2_with fail; ((try simp only [Exit.inBlock, Exit.then]); refine bodyPost_ret (by simp [results, Tryd.results5, go_sem, hcs]; try rfl) rfl ?_); exact ⟨rfl, by first | exact HL2.out.drew | exact (HL2.out.drew.setCell (Nat.le_refl _) _) | exact (HL2.out.setCell (Nat.le_refl _) _).drew⟩)
    | some r =>
      have he' : e = .returned (.tuple #[.int .i64 ((L + 1 : Nat) : Int), .string (str r.1)]) := he
      have hw' : w3 = w2.setCell ⟨w.heap.size, 0, none⟩ (.string (str r.2)) := hw
      clear he hw
      subst he' hw'
      have hcs := World.cell?_setCell_same _ _ (.string (str r.2)) hcb
      have hcs2 := World.cell?_setCell_same _ _ (.string (str r.2)) hcs
      go_wp2_with fail
      go_region
      all_goals (go_wp2_with fail; ((try simp only [Exit.inBlock, Exit.then]); refine bodyPost_ret (by simp [results, Tryd.results5, go_sem, hcs2]; try rfl) rfl ?_))
      all_goals exact ⟨rfl, by first | exact ((HL2.out.setCell (Nat.le_refl _) _).setCell (Nat.le_refl _) _).drew | exact ((HL2.out.setCell (Nat.le_refl _) _).drew.setCell (Nat.le_refl _) _)⟩

end Go.Proofs.YtcpkkmpckdcbjaaDoor
