/-
  Sixteen octets: the reader's method.
-/
import Derived.Laws.IdiomCopy
import Derived.Test.YtmehfgiadapekaaGreatPRu
import Derived.Test.YtmehfgiadapekaaGreatPTelL
set_option linter.unusedSimpArgs false
set_option linter.unusedVariables false
namespace Go.Proofs.YtmehfgiadapekaaGreat
open Go Go.RowKit
/-- a type of rows of sixteen octets -/
def arr16 (P : Program) (t e : Nat) : Bool := match P.underlying t, P.info? e with
 | some (.array n e'), some i => n == 16 && e' == e && i.size == 1
 | _, _ => false
section
variable {P : Program} {ρ : Operand -> Value} {w : World} {d : Option Tmp} {ty : TypeId} {p : String} {af : Array Edge} {g : Option (Nat × Bool)}
theorem x_sliceArr {x : Operand} {t e b o : Nat} (hA : arr16 P t e = true) (hx : ρ x = .pointer (some ⟨b, o, none⟩)) :
  (execOp ρ ⟨d, .slice t x none none none, ty, p, af, g⟩).run P w = .ok (.value (.slice (some ⟨b, o, none⟩) 16 16)) w := by
 unfold arr16 at hA
 cases hu : P.underlying t with
 | none => simp [hu] at hA
 | some ds =>
  cases ds with
  | array n e' =>
   cases hi : P.info? e with
   | none => simp [hu, hi] at hA
   | some i =>
    simp [hu, hi] at hA
    obtain ⟨⟨rfl, rfl⟩, h2⟩ := hA
    have hl : P.arrayLen t = 16 := by simp [Program.arrayLen, hu]
    have he : P.elem t = e' := by simp [Program.elem, hu]
    have h := run_sliceAt_array_all (P := P) w t ⟨b, o, none⟩ (by rw [hl, he]; exact hu)
    rw [hl, he] at h
    have h0 : (Instr.sliceAt t (.pointer (some ⟨b, o, none⟩)) none none none).run P w = .ok (.slice (some ⟨b, o, none⟩) 16 16) w := by
     rw [h]; simp [sizeOf, typeInfo, hi, slicedAt, Addr.add]
    simp [execOp, hx, h0]
  | _ => simp [hu] at hA
end
end Go.Proofs.YtmehfgiadapekaaGreat
