/-
  What kbin puts behind octets of a message's fields.
-/
import Derived.Laws.IdiomCopy
import Derived.Test.YthkpmmjcmldjhaaDoorPYr
set_option linter.unusedSimpArgs false
set_option linter.unusedVariables false
namespace Go.Proofs.YthkpmmjcmldjhaaDoor
open Go Go.RowKit
theorem av_i32 {null : Int} {fl : Bool} : AppV Tryd.prog 41 (.int .i32) (leafE 3 null fl) := by
 intro w F base dv out v t hown hb hr hF hl
 rcases hr with ⟨_, _, hr⟩ | ⟨h, _⟩
 ·simp only [Rep] at hr
  obtain ⟨n, rfl, _, rfl⟩ := hr
  have e : leafE 3 null fl (.num n) = fixedE n (width 3) := by simp [leafE, Tr.N_num]
  rw [e] at hl ⊢
  rw [fixedE_length] at hl
  exact app_i32 hown hb hl
 ·cases h
theorem av_i64 {null : Int} {fl : Bool} : AppV Tryd.prog 42 (.int .i64) (leafE 4 null fl) := by
 intro w F base dv out v t hown hb hr hF hl
 rcases hr with ⟨_, _, hr⟩ | ⟨h, _⟩
 ·simp only [Rep] at hr
  obtain ⟨n, rfl, _, rfl⟩ := hr
  have e : leafE 4 null fl (.num n) = fixedE n (width 4) := by simp [leafE, Tr.N_num]
  rw [e] at hl ⊢
  rw [fixedE_length] at hl
  exact app_i64 hown hb hl
 ·cases h
end Go.Proofs.YthkpmmjcmldjhaaDoor
