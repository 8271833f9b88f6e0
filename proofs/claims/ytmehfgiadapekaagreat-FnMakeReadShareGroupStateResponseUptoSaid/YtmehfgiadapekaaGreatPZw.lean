/-
  spec.Fit, spec.fitted, of fields within fields.
  FnMake: a new message's place, what is asked of it: how new it may be.
-/
import Derived.Test.YtmehfgiadapekaaGreatPZt
import Derived.Test.YtmehfgiadapekaaGreatPZd
set_option linter.unusedSimpArgs false
set_option linter.unusedVariables false
namespace Go.Proofs.YtmehfgiadapekaaGreat
open Go Go.RowKit
mutual
/-- without tags, few, no lists of lists -/
def FD.fitB : FD -> Bool
 | .mk _ _ _ _ tag _ of sub => decide (tag < 0) && decide (of ≠ 11) && decide (sub.length <= 1000) && fitsB sub
def fitsB : List FD -> Bool
 | [] => true
 | f :: r => f.fitB && fitsB r
end
theorem fitW_elem {of fr to d : Int} {sub : List FD} (h : of ≠ 11) (ver : Int) (x : Tr) : fitW (.mk of fr to (-1) (-1) d of sub) ver x = if of = 10 then .part (fitsW sub 0 ver x) (cutW (unkW x.U)) else fitL of (-1) ver x := by
 simp only [fitW, if_neg h]
 split
 ·simp [nullW, Tr.part]
 ·rfl
mutual
theorem fitted_ok : ∀ (f : FD), f.fitB = true -> FitOk f
 | .mk kind fr to nl g d of sub, h => by
  intro w0 w sv cs t ver hm hsv hcs ht
  simp only [FD.fitB, Bool.and_eq_true, decide_eq_true_eq] at h
  obtain ⟨⟨⟨htag, hof⟩, hlen⟩, hp⟩ := h
  have hall := fits_ok sub hp
  refine fitted_c htag hm hsv hcs ht (fun _ W hW => fit_c hall hlen hW hsv hcs ht) (fun _ => ⟨?_, fun x => fitW_elem hof ver x⟩)
  intro w0' w' sv' cs' x ver' hm' hsv' hcs' hx
  exact fitted_c (by decide) hm' hsv' hcs' hx (fun _ W hW => fit_c hall hlen hW hsv' hcs' hx) (fun h => (hof h).elim)
theorem fits_ok : ∀ (fs : List FD), fitsB fs = true -> ∀ f ∈ fs, f.tag < 0 /\ FitOk f
 | [], _, f, hf => by simp at hf
 | f0 :: r, h, f, hf => by
  simp only [fitsB, Bool.and_eq_true] at h
  rcases List.mem_cons.1 hf with e | hf
  ·have h0 := h.1
   refine ⟨?_, e ▸ fitted_ok f0 h.1⟩
   rw [e]
   cases f0 with
   | mk kind fr to nl g d of sub =>
    simp only [FD.fitB, Bool.and_eq_true, decide_eq_true_eq] at h0
    exact h0.1.1.1
  ·exact fits_ok r h.2 f hf
end
end Go.Proofs.YtmehfgiadapekaaGreat
set_option linter.unusedSimpArgs false
set_option linter.unusedVariables false
namespace Go.Proofs.YtmehfgiadapekaaGreat
open Go Go.RowKit
/-- a place is made -/
def NewP (P : Program) (f : FuncId) : Prop := ∀ w, Calls P f #[] w fun e w' => ∃ b, e = .returned (.pointer (some ⟨b, 0, none⟩)) /\ Mod none' w w'
section
variable {P : Program} {fn : Func} {f fd T i0 i1 i2 i3 : Nat} {y0 y1 y2 y3 : TypeId} {p0 p1 p2 p3 : String} {e0 e1 e2 e3 : Array Edge} {ts : Array TypeId}
theorem newp_rule {z : Value} (hf : P.funcs[f]? = some fn) (hN : fn.ntmps = 3) (hres : fn.results = #[.tmp 0])
  (hbody : fn.body = some (.seq (.region i0 #[⟨some 0, .assign (.const (.pointer none)), y0, p0, e0, none⟩] false) (.seq (.region i1 #[⟨some 1, .alloc T, y1, p1, e1, none⟩] false)
   (.seq (.region i2 #[⟨some 2, .call ⟨.value (.func fd), #[.tmp 1], ts⟩, y2, p2, e2, none⟩] false) (.seq (.region i3 #[⟨some 0, .assign (.tmp 1), y3, p3, e3, none⟩] false) .ret)))))
  (hz : zeroOf P T = some z) (hd : ∀ w b, Calls P fd #[.pointer (some ⟨b, 0, none⟩)] w fun e w' => ∃ r, e = .returned r /\ Mod none' w w') (hbd : bodied P fd = true) : NewP P f := by
 intro w
 refine calls_of_wp hf hbody ?_
 rw [hN]
 refine wp_act (fun a : Act => a.tmps.size = 3 /\ a.defers = []) ⟨by simp, rfl⟩ ?_
 rintro a ⟨aN, ad⟩
 refine wp_seq (wp_region_lit (Zv rfl Zi (wpList_nil ?_)))
 refine wp_seq (wp_region_lit (Zv rfl (x_alloc hz) (wpList_nil ?_)))
 have m1 : Mod none' w (w.alloc (.cells z.cells T)) := (Mod.refl w).alloc _
 generalize w.alloc (.cells z.cells T) = w1 at *
 refine wp_seq (wp_region_lit (wpl_call rfl (Zy hbd rfl) (R := fun e w' => ∃ r, e = .returned r /\ Mod none' w1 w') ?_ ?_))
 ·rw [show ∀ a : Act, (#[Operand.tmp 1] : Array Operand).map a.eval = #[Act.get a 1] from fun a => by simp [Ze]]
  rw [Zq (by simp only [Zs]; omega)]
  exact hd w1 _
 rintro e w2 ⟨r, rfl, m2⟩
 refine ⟨r, rfl, wpList_nil (wp_seq (wp_region_lit (Zv rfl Zi (wpList_nil (wp_ret ?_)))))⟩
 refine bodyPost_ret (results_tmp hres _ _ _) ?_ ⟨w.heap.size, ?_, m1.trans m2⟩
 ·simp only [Zd]; exact ad
 ·rw [show ∀ (a : Act) t, a.tmps.getD t undef = Act.get a t from fun _ _ => rfl]
  simp (disch := first | omega | simp only [Zs]; omega) only [Zo, Ze, Zn, Zq]
end
end Go.Proofs.YtmehfgiadapekaaGreat
