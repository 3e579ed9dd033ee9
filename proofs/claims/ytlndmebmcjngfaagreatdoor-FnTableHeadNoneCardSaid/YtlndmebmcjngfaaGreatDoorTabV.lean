/- Tables: a table line with one column less below. No program walked. -/
import Derived.Test.YtlndmebmcjngfaaGreatDoorTabT
import Derived.Test.YtlndmebmcjngfaaGreatDoorTabU
namespace Go.Proofs.YtlndmebmcjngfaaGreatDoor
open Go.ChangeShapes Go.WideShapes Go.ChangeAt Go.RowKit

theorem Bs.drop {w : World} {b o n : Nat} {l : List UInt8} (h : Bs w (some ⟨b, o, none⟩) n l) (i c : Nat) (hi : i ≤ n) (hc : n ≤ c) : Bs w (some ⟨b, if c = i then o else o + i, none⟩) (n - i) (l.drop i) := by
  refine ⟨by rw [List.length_drop, h.len], fun h0 => ?_⟩
  obtain ⟨b', o', e, hlt, hcl⟩ := h.cells (by omega)
  cases e
  rw [if_neg (show ¬ c = i by omega)]
  refine ⟨b, o + i, rfl, hlt, fun j hj => ?_⟩
  rw [bat_drop0, Nat.add_assoc]
  exact hcl (i + j) (by omega)
theorem own_cut {w : World} {B : Nat} {u : Value} {l : List UInt8} {k m : Nat} (h : Owns w B u ([] ++ l.take k ++ l.drop (k + 1))) (hl : l.length = m) (hk : k < m) : ∃ p c, u = .slice p (m - 1) c ∧ Bs w p (m - 1) (cut1 l k) := by
  obtain ⟨p, c, hu, _, _, hb⟩ := h.bs
  have e : ([] ++ l.take k ++ l.drop (k + 1)).length = m - 1 := by
    rw [List.nil_append, List.length_append, List.length_take, List.length_drop]
    omega
  rw [e] at hu hb
  exact ⟨p, c, hu, hb⟩

theorem own_cut2 {w : World} {B : Nat} {p : Option Addr} {n c : Nat} {l : List UInt8} {k m : Nat} (h : Owns w B (.slice p n c) ([] ++ l.take k ++ l.drop (k + 1))) (hl : l.length = m) (hk : k < m) : Bs w p (m - 1) (cut1 l k) := by
  obtain ⟨p', c', hu, hb⟩ := own_cut h hl hk
  cases hu
  exact hb
/-- the new table line, its rows laid -/
structure Few (W0 W : World) (x : Nat) (vn : Value) (p q : Option Addr) (c d m : Nat) (al hl : List UInt8) (bg en : Bool) : Prop where
  c0 : W.cell? ⟨x, 0, none⟩ = some vn
  c1 : W.cell? ⟨x, 1, none⟩ = some (.slice p m c)
  c2 : W.cell? ⟨x, 2, none⟩ = some (.slice q m d)
  c3 : W.cell? ⟨x, 3, none⟩ = some (.bool bg)
  c4 : W.cell? ⟨x, 4, none⟩ = some (.bool en)
  below : Below W0.heap.size W0 W
  bp : Bs W p m al
  bq : Bs W q m hl
theorem Few.set {W0 W : World} {x : Nat} {vn : Value} {p q : Option Addr} {c d m : Nat} {al hl lu lv : List UInt8} {bg en : Bool} (h : Two (some x) W0.heap.size W0 W (.slice p m c) lu (.slice q m d) lv) (hp : Bs W p m al) (hq : Bs W q m hl) :
    Few W0 (((((W.setCell ⟨x, 0, none⟩ vn).setCell ⟨x, 1, none⟩ (.slice p m c)).setCell ⟨x, 2, none⟩ (.slice q m d)).setCell ⟨x, 3, none⟩ (.bool bg)).setCell ⟨x, 4, none⟩ (.bool en)) x vn p q c d m al hl bg en := by
  obtain ⟨z0, z1, z2, z3, z4, _⟩ := h.zeros
  obtain ⟨_, e1, e2, e3⟩ := h.tr x rfl
  have far : ∀ (r : Option Addr) (e : Nat) (l : List UInt8), (.slice r m e : Value).ownBlock ≠ some x → Bs W r m l → Bs (((((W.setCell ⟨x, 0, none⟩ vn).setCell ⟨x, 1, none⟩ (.slice p m c)).setCell ⟨x, 2, none⟩ (.slice q m d)).setCell ⟨x, 3, none⟩ (.bool bg)).setCell ⟨x, 4, none⟩ (.bool en)) r m l := by
    intro r e l hne hb
    refine ⟨hb.len, fun h0 => ?_⟩
    obtain ⟨g, o, hr, hlt, hc⟩ := hb.cells h0
    subst hr
    have hgx : x ≠ g := fun e => hne (by simp [Value.ownBlock, e])
    refine ⟨g, o, rfl, by simpa using hlt, fun i hi => ?_⟩
    have key : ∀ (w : World) j v, (w.setCell ⟨x, j, none⟩ v).cell? ⟨g, o + i, none⟩ = w.cell? ⟨g, o + i, none⟩ := fun w j v => by
      have hne : (⟨x, j, none⟩ : Addr) ≠ ⟨g, o + i, none⟩ := by intro e; cases e; exact hgx rfl
      exact World.cell?_setCell_other (w := w) (v := v) _ _ hne
    rw [key, key, key, key, key]
    exact hc i hi
  refine ⟨?_, ?_, ?_, ?_, ?_, ((((h.below.setCell e3 _).setCell e3 _).setCell e3 _).setCell e3 _).setCell e3 _, far p c al e1 hp, far q d hl e2 hq⟩
  · exact (setOther _ x 4 0 _ (by decide)).trans ((setOther _ x 3 0 _ (by decide)).trans ((setOther _ x 2 0 _ (by decide)).trans ((setOther _ x 1 0 _ (by decide)).trans (World.cell?_setCell_same _ _ _ z0))))
  · exact (setOther _ x 4 1 _ (by decide)).trans ((setOther _ x 3 1 _ (by decide)).trans ((setOther _ x 2 1 _ (by decide)).trans (World.cell?_setCell_same _ _ _ ((setOther _ x 0 1 _ (by decide)).trans z1))))
  · exact (setOther _ x 4 2 _ (by decide)).trans ((setOther _ x 3 2 _ (by decide)).trans (World.cell?_setCell_same _ _ _ ((setOther _ x 1 2 _ (by decide)).trans ((setOther _ x 0 2 _ (by decide)).trans z2))))
  · exact (setOther _ x 4 3 _ (by decide)).trans (World.cell?_setCell_same _ _ _ ((setOther _ x 2 3 _ (by decide)).trans ((setOther _ x 1 3 _ (by decide)).trans ((setOther _ x 0 3 _ (by decide)).trans z3))))
  · exact World.cell?_setCell_same _ _ _ ((setOther _ x 3 4 _ (by decide)).trans ((setOther _ x 2 4 _ (by decide)).trans ((setOther _ x 1 4 _ (by decide)).trans ((setOther _ x 0 4 _ (by decide)).trans z4))))
theorem Few.new {W0 W : World} {vn : Value} {p q : Option Addr} {c d m : Nat} {al hl lu lv : List UInt8} {bg en : Bool} (h : Two none W0.heap.size W0 W (.slice p m c) lu (.slice q m d) lv) (hp : Bs W p m al) (hq : Bs W q m hl) :
    Few W0 (W.alloc (.cells #[vn, .slice p m c, .slice q m d, .bool bg, .bool en] 25)) W.heap.size vn p q c d m al hl bg en := by
  have hb : Below W.heap.size W (W.alloc (.cells #[vn, .slice p m c, .slice q m d, .bool bg, .bool en] 25)) := (Below.refl _ _).alloc (Nat.le_refl _) _
  refine ⟨?_, ?_, ?_, ?_, ?_, h.below.trans (hb.mono h.size), hp.below hb (Nat.le_refl _), hq.below hb (Nat.le_refl _)⟩
  all_goals simp

end Go.Proofs.YtlndmebmcjngfaaGreatDoor
