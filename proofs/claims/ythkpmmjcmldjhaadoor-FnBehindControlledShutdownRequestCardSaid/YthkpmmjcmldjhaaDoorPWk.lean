/-
  A field that a function of its own tells; a part that may be none; a part within. No program in it.
  What a message's telling keeps: what is told as it was written stays so. No program in it.
-/
import Derived.Test.YthkpmmjcmldjhaaDoorPWc
import Derived.Test.YthkpmmjcmldjhaaDoorPTelO
set_option linter.unusedSimpArgs false
set_option linter.unusedVariables false
namespace Go.Proofs.YthkpmmjcmldjhaaDoor
open Go Go.RowKit
def Ty.leafE : Ty -> Bool
 | .pstruct _ _ _ => true
 | t => t.leaf
end Go.Proofs.YthkpmmjcmldjhaaDoor
set_option linter.unusedSimpArgs false
set_option linter.unusedVariables false
namespace Go.Proofs.YthkpmmjcmldjhaaDoor
open Go Go.RowKit
theorem FD.hasW_iff {f : FD} {ver : Int} : (decide (f.tag < 0) && f.has ver) = true ↔ f.tag < 0 /\ f.from_ <= ver /\ (f.to < 0 \/ ver <= f.to) := by simp [FD.has]
section
variable {ok : OkV} {p : Int -> Bool -> Bool} {k fr to nl g d o : Int} {sub : List FD}
theorem FD.alw (hg : g < 0) (h : ∀ v l, ok v l -> fr <= v /\ (to < 0 \/ v <= to)) : FD.always (.mk k fr to nl g d o sub) ok := fun v l hh => FD.hasW_iff.2 ⟨hg, h v l hh⟩
theorem has_if (hg : g < 0) (h : ∀ v l, ok v l -> (p v l = true ↔ (fr <= v /\ (to < 0 \/ v <= to)))) : ∀ ver fl, ok ver fl -> p ver fl = (decide ((FD.mk k fr to nl g d o sub).tag < 0) && (FD.mk k fr to nl g d o sub).has ver) :=
 fun v l hh => Bool.eq_iff_iff.2 ((h v l hh).trans ⟨fun q => FD.hasW_iff.2 ⟨hg, q⟩, fun q => (FD.hasW_iff.1 q).2⟩)
end
end Go.Proofs.YthkpmmjcmldjhaaDoor
