/-
  What the laws share: a remainder; which version is taken.
-/
import Derived.Test.YtjjpiacdamibjaaDoorKNs
import Derived.Test.YtjjpiacdamibjaaDoorKMsgT
import Derived.Test.YtjjpiacdamibjaaDoorKTelO
import Derived.Test.YtjjpiacdamibjaaDoorKTelU
import Derived.Test.YtjjpiacdamibjaaDoorKTelX
import Derived.Test.YtjjpiacdamibjaaDoorKSame
set_option linter.unusedSimpArgs false
set_option linter.unusedVariables false
namespace Go.Proofs.YtjjpiacdamibjaaDoor
open Go Go.RowKit

theorem kd_u32 : ∀ n, fits .u32 n → IntKind.i64.wrap n = n ∧ fits .i64 n := fun n h => by rw [IntKind.wrap_i64]; simp [fits, IntKind.min, IntKind.max, IntKind.signed, IntKind.bits] at *; omega
section
variable {P : Program} {ρ : Operand → Value} {w : World} {d : Option Tmp} {ty : TypeId} {p : String} {af : Array Edge} {g : Option (Nat × Bool)}
theorem x_rem {x y : Operand} {t u : TypeId} {k : IntKind} {m n : Int} (hx : ρ x = .int k m) (hy : ρ y = .int k n) (h0 : n ≠ 0) : (execOp ρ ⟨d, .binOp .rem t x y u, ty, p, af, g⟩).run P w = .ok (.value (.int k (m.tmod n))) w := by
  simp [execOp, hx, hy, eqGuard, binOp, Op.intDiv, h0]
end

theorem version_spec {n m : Int} (hm : IntKind.i64.wrap (m + 1) ≠ 0) (w : World) : Calls Tryd.prog 7 #[.int .u8 n, .int .i64 m] w fun e w' => e = .returned (.int .i64 ((IntKind.i64.wrap n).tmod (IntKind.i64.wrap (m + 1)))) ∧ w = w' := by
  refine calls_of_wp Tryd.func7 rfl ?_
  refine wp_act (fun a : Act => Act.get a 0 = .int .u8 n ∧ Act.get a 1 = .int .i64 m ∧ a.tmps.size = 10 ∧ a.defers = []) ⟨rfl, rfl, rfl, rfl⟩ ?_
  rintro a ⟨a0, a1, aN, ad⟩
  refine wp_seq (wp_region_lit (wpl_val rfl x_assign (wpList_nil ?_)))
  refine wp_seq (wp_region_lit (wpl_val rfl x_move (wpl_val rfl (x_convInt (n := n) (k := .u8) (k' := .i64) (by kernel_rfl) (by kernel_rfl) ?_) (wpl_val rfl x_move (wpl_val rfl (x_add (k := .i64) (m := m) (n := 1) ?_ rfl) (wpl_val rfl (x_rem (k := .i64) (m := IntKind.i64.wrap n) (n := IntKind.i64.wrap (m + 1)) ?_ ?_ hm) (wpl_val rfl x_assign (wpList_nil ?_))))))))
  · simp (disch := (first | omega | (simp only [Act.size_put]; omega))) only [Act.put_none, eval_tmp, Act.get_put_ne, Act.get_put_eq, a0]
  · simp (disch := (first | omega | (simp only [Act.size_put]; omega))) only [Act.put_none, eval_tmp, Act.get_put_ne, Act.get_put_eq, a1]
  · simp (disch := (first | omega | (simp only [Act.size_put]; omega))) only [Act.put_none, eval_tmp, Act.get_put_ne, Act.get_put_eq]
  · simp (disch := (first | omega | (simp only [Act.size_put]; omega))) only [Act.put_none, eval_tmp, Act.get_put_ne, Act.get_put_eq]
  refine wp_act (c := .ret) (fun a : Act => Act.get a 4 = .int .i64 ((IntKind.i64.wrap n).tmod (IntKind.i64.wrap (m + 1))) ∧ a.defers = []) ⟨?_, ?_⟩ ?_
  · simp (disch := (first | omega | (simp only [Act.size_put]; omega))) only [Act.put_none, eval_tmp, Act.get_put_ne, Act.get_put_eq]
  · simp only [Act.defers_put]; exact ad
  rintro a9 ⟨z0, zd⟩
  exact wp_ret (bodyPost_ret (results_tmp rfl _ _ _) zd ⟨congrArg Ending.returned z0, rfl⟩)
end Go.Proofs.YtjjpiacdamibjaaDoor
