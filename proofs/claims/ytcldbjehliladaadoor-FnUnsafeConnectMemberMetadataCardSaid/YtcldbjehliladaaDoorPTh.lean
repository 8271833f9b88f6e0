/-
  Tags.Set and internalReadTags.
-/
import Derived.Test.YtcldbjehliladaaDoorPTg
import Derived.Test.YtcldbjehliladaaDoorPDoor
set_option linter.unusedSimpArgs false
set_option linter.unusedVariables false
namespace Go.Proofs.YtcldbjehliladaaDoor
open Go Go.RowKit
section
variable {P : Program} {ρ : Operand -> Value} {w : World} {d : Option Tmp} {ty : TypeId} {p : String} {af : Array Edge} {g : Option (Nat × Bool)}
theorem x_sub {x y : Operand} {t u : TypeId} {k : IntKind} {m n : Int} (hx : ρ x = .int k m) (hy : ρ y = .int k n) : (execOp ρ ⟨d, .binOp .sub t x y u, ty, p, af, g⟩).run P w = .ok (.value (.int k (k.wrap (m - n)))) w := by
 simp [execOp, hx, hy, eqGuard, binOp, Op.intArith]
end
theorem TagsR.split {w : World} {F : Nat -> Prop} {mv : Value} {u : Tags} (h : TagsR w F mv u) : (mv = .map none /\ u = []) \/ ∃ r, F r /\ mv = .map (some r) /\ MapAt w F r u := by
 rcases h with h | ⟨r, es, clock, h1, h2, h3, h4⟩
 ·exact .inl h
 ·exact .inr ⟨r, h1, h2, es, clock, h3, h4.1, h4.2.1.2, h4.2.2⟩
/-- so many tags are read -/
def rdTagsN : Nat -> Tags -> RS -> Tags × RS
 | 0, u, s => (u, s)
 | n + 1, u, s => rdTagsN n (setTag u (rdUvarint s).1 (rdSpan (rdUvarint (rdUvarint s).2).1 (rdUvarint (rdUvarint s).2).2).1.1) (rdSpan (rdUvarint (rdUvarint s).2).1 (rdUvarint (rdUvarint s).2).2).2
def rdTags (s : RS) : Tags × RS := rdTagsN (rdUvarint s).1.toNat [] (rdUvarint s).2
end Go.Proofs.YtcldbjehliladaaDoor
