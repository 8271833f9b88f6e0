/-
  What the laws share: a remainder; which version is taken.
-/
import Derived.Test.YtcldbjehliladaaDoorPNs
import Derived.Test.YtcldbjehliladaaDoorPMsgT
import Derived.Test.YtcldbjehliladaaDoorPTelO
import Derived.Test.YtcldbjehliladaaDoorPTelU
import Derived.Test.YtcldbjehliladaaDoorPTelX
set_option linter.unusedSimpArgs false
set_option linter.unusedVariables false
namespace Go.Proofs.YtcldbjehliladaaDoor
open Go Go.RowKit
section
variable {P : Program} {ρ : Operand -> Value} {w : World} {d : Option Tmp} {ty : TypeId} {p : String} {af : Array Edge} {g : Option (Nat × Bool)}
theorem x_rem {x y : Operand} {t u : TypeId} {k : IntKind} {m n : Int} (hx : ρ x = .int k m) (hy : ρ y = .int k n) (h0 : n ≠ 0) : (execOp ρ ⟨d, .binOp .rem t x y u, ty, p, af, g⟩).run P w = .ok (.value (.int k (m.tmod n))) w := by
 simp [execOp, hx, hy, eqGuard, binOp, Op.intDiv, h0]
end
theorem version_spec {n m : Int} (hm : IntKind.i64.wrap (m + 1) ≠ 0) (w : World) : Calls Tryd.prog 14 #[.int .u8 n, .int .i64 m] w fun e w' => e = .returned (.int .i64 ((IntKind.i64.wrap n).tmod (IntKind.i64.wrap (m + 1)))) /\ w = w' := by
 refine calls_of_wp Tryd.func14 rfl ?_
 refine wp_act (fun a : Act => Act.get a 0 = .int .u8 n /\ Act.get a 1 = .int .i64 m /\ a.tmps.size = 10 /\ a.defers = []) ⟨rfl, rfl, rfl, rfl⟩ ?_
 rintro a ⟨a0, a1, aN, ad⟩
 refine wp_seq (wp_region_lit (Zv rfl Zi (wpList_nil ?_)))
 refine wp_seq (wp_region_lit (Zv rfl Zm (Zv rfl (x_convInt (n := n) (k := .u8) (k' := .i64) (by kernel_rfl) (by kernel_rfl) ?_) (Zv rfl Zm (Zv rfl (x_add (k := .i64) (m := m) (n := 1) ?_ rfl) (Zv rfl (x_rem (k := .i64) (m := IntKind.i64.wrap n) (n := IntKind.i64.wrap (m + 1)) ?_ ?_ hm) (Zv rfl Zi (wpList_nil ?_))))))))
 ·simp (disch := first | omega | simp only [Zs]; omega) only [Zo, Ze, Zn, Zq, a0]
 ·simp (disch := first | omega | simp only [Zs]; omega) only [Zo, Ze, Zn, Zq, a1]
 ·simp (disch := first | omega | simp only [Zs]; omega) only [Zo, Ze, Zn, Zq]
 ·simp (disch := first | omega | simp only [Zs]; omega) only [Zo, Ze, Zn, Zq]
 refine wp_act (c := .ret) (fun a : Act => Act.get a 4 = .int .i64 ((IntKind.i64.wrap n).tmod (IntKind.i64.wrap (m + 1))) /\ a.defers = []) ⟨?_, ?_⟩ ?_
 ·simp (disch := first | omega | simp only [Zs]; omega) only [Zo, Ze, Zn, Zq]
 ·simp only [Zd]; exact ad
 rintro a9 ⟨z0, zd⟩
 exact wp_ret (bodyPost_ret (results_tmp rfl _ _ _) zd ⟨congrArg Ending.returned z0, rfl⟩)
end Go.Proofs.YtcldbjehliladaaDoor
