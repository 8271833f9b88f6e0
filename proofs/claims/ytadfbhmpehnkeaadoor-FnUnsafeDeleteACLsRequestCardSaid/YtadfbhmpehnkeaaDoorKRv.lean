/-
  Rules for the code that reads a message: a test of the version between two bounds. No program in it.
-/
import Derived.Test.YtadfbhmpehnkeaaDoorKRq
set_option linter.unusedSimpArgs false
set_option linter.unusedVariables false
namespace Go.Proofs.YtadfbhmpehnkeaaDoor
open Go Go.RowKit

section
variable {P : Program} {Γ : Sl} {id : Nat} {y1 y2 y3 y4 y5 y6 : TypeId} {p1 p2 p3 p4 p5 p6 : String} {e1 e2 e3 e4 e5 e6 : Array Edge} {t1 t2 t3 t4 t5 t6 : Nat} {yg yh yg' yh' : TypeId}
/-- 'version >= m && version <= k' -/
theorem tst_and {m k : Int} (hs : (Γ.free t1 && Γ.free t2 && Γ.free t3 && Γ.free t4 && Γ.free t5 && Γ.free t6 && t4 != t3 && t5 != t3) = true) :
    Tst P Γ (.region id #[⟨some t1, .move (.tmp Γ.ver), y1, p1, e1, none⟩, ⟨some t2, .binOp .geq yg (.tmp t1) (.const (.int .i16 m)) yh, y2, p2, e2, none⟩, ⟨some t3, .move (.tmp t2), y3, p3, e3, none⟩, ⟨some t4, .move (.tmp Γ.ver), y4, p4, e4, some (2, true)⟩,
      ⟨some t5, .binOp .leq yg' (.tmp t4) (.const (.int .i16 k)) yh', y5, p5, e5, some (2, true)⟩, ⟨some t6, .pick (.tmp t3) (.tmp t5) (.const (.bool false)), y6, p6, e6, none⟩] false) t6 (fun v _ => decide (m ≤ v) && decide (v ≤ k)) := by
  intro x s a w hA
  simp only [Bool.and_eq_true, bne_iff_ne] at hs
  obtain ⟨⟨⟨⟨⟨⟨⟨f1, f2⟩, f3⟩, f4⟩, f5⟩, f6⟩, n43⟩, n53⟩ := hs
  have z1 := hA.lt f1
  have z2 := hA.lt f2
  have z3 := hA.lt f3
  have z4 := hA.lt f4
  have z5 := hA.lt f5
  have z6 := hA.lt f6
  refine wp_mono (Q := fun e a' w' => e = .normal ∧ w' = w ∧ Amb Γ x s a' w' ∧ Act.get a' t6 = .bool (decide (m ≤ x.ver) && decide (x.ver ≤ k)) ∧ SameBut (fun t => t = t1 ∨ t = t2 ∨ t = t3 ∨ t = t4 ∨ t = t5 ∨ t = t6) a a') ?_ ?_
  · refine wp_region_lit (wpl_val rfl x_move (wpl_val rfl (x_geq (k := .i16) (m := x.ver) (n := m) (by rw [eval_tmp, Act.get_put_eq z1, eval_tmp, hA.ver]) rfl) (wpl_val rfl x_move ?_)))
    refine wpl_abs (fun a' => Amb Γ x s a' w ∧ Act.get a' t3 = .bool (decide (m ≤ x.ver)) ∧ SameBut (fun t => t = t1 ∨ t = t2 ∨ t = t3 ∨ t = t4 ∨ t = t5 ∨ t = t6) a a') ⟨((hA.put f1 _).put f2 _).put f3 _, ?_, (((SameBut.refl a).put (.inl rfl) _).put (.inr (.inl rfl)) _).put (.inr (.inr (.inl rfl))) _⟩ ?_
    · rw [Act.get_put_eq (by simp only [Act.size_put]; exact z3), eval_tmp, Act.get_put_eq (by simp only [Act.size_put]; exact z2)]
    rintro a1 ⟨hA1, h3, hsb1⟩
    have q1 : a1.tmps.size = a.tmps.size := hsb1.size
    by_cases hv : m ≤ x.ver
    · rw [decide_eq_true hv] at h3
      refine wpl_gval (k := 2) (d := t3) (b := true) rfl rfl h3 x_move ?_
      have h3' : Act.get (a1.put (some t4) (a1.eval (.tmp Γ.ver))) t3 = .bool true := by rw [Act.get_put_ne n43, h3]
      refine wpl_gval (k := 2) (d := t3) (b := true) rfl rfl h3' (x_leq (k := .i16) (m := x.ver) (n := k) (by rw [eval_tmp, Act.get_put_eq (by rw [q1]; exact z4), eval_tmp, hA1.ver]) rfl) ?_
      refine wpl_val rfl (x_pickT (v := .bool (decide (x.ver ≤ k))) (by rw [eval_tmp, Act.get_put_ne n53]; exact h3') (by rw [eval_tmp, Act.get_put_eq (by simp only [Act.size_put]; rw [q1]; exact z5)])) (wpList_nil ⟨rfl, rfl, ((hA1.put f4 _).put f5 _).put f6 _, ?_, ((hsb1.put (.inr (.inr (.inr (.inl rfl)))) _).put (.inr (.inr (.inr (.inr (.inl rfl))))) _).put (.inr (.inr (.inr (.inr (.inr rfl))))) _⟩)
      rw [Act.get_put_eq (by simp only [Act.size_put]; rw [q1]; exact z6), decide_eq_true hv]; rfl
    · rw [decide_eq_false hv] at h3
      refine wpl_unwanted ((wanted_of (k := 2) (d := t3) rfl rfl h3).trans rfl) ?_
      have h3' : Act.get (a1.put (some t4) undef) t3 = .bool false := by rw [Act.get_put_ne n43, h3]
      refine wpl_unwanted ((wanted_of (k := 2) (d := t3) rfl rfl h3').trans rfl) ?_
      refine wpl_val rfl (x_pickF (v := .bool false) (by rw [eval_tmp, Act.get_put_ne n53]; exact h3') rfl) (wpList_nil ⟨rfl, rfl, ((hA1.put f4 _).put f5 _).put f6 _, ?_, ((hsb1.put (.inr (.inr (.inr (.inl rfl)))) _).put (.inr (.inr (.inr (.inr (.inl rfl))))) _).put (.inr (.inr (.inr (.inr (.inr rfl))))) _⟩)
      rw [Act.get_put_eq (by simp only [Act.size_put]; rw [q1]; exact z6), decide_eq_false hv]; rfl
  · rintro e a' w' ⟨rfl, rfl, h1, h2, h3⟩
    refine ⟨rfl, rfl, h1, h2, h3.mono fun t ht => ?_⟩
    rcases ht with rfl | rfl | rfl | rfl | rfl | rfl <;> simp [W, writes]
end
end Go.Proofs.YtadfbhmpehnkeaaDoor
