/-
  What kbin puts behind octets of a message's fields.
-/
import Derived.Test.YtpecdnfmlodmaaaGreatDoorRPYr
set_option linter.unusedSimpArgs false
set_option linter.unusedVariables false
namespace Go.Proofs.YtpecdnfmlodmaaaGreatDoorR
open Go Go.RowKit
theorem av_i8 {null : Int} {fl : Bool} : AppV Tryz.prog 161 (.int .i8) (leafE 1 null fl) := by
 intro w F base dv out v t hown hb hr hF hl
 rcases hr with ⟨_, _, hr⟩ | ⟨h, _⟩
 ·simp only [Rep] at hr
  obtain ⟨n, rfl, _, rfl⟩ := hr
  have e : leafE 1 null fl (.num n) = fixedE n (width 1) := by simp [leafE, Tr.N_num]
  rw [e] at hl ⊢
  rw [fixedE_length] at hl
  exact app_i8 hown hb hl
 ·cases h
theorem av_i16 {null : Int} {fl : Bool} : AppV Tryz.prog 156 (.int .i16) (leafE 2 null fl) := by
 intro w F base dv out v t hown hb hr hF hl
 rcases hr with ⟨_, _, hr⟩ | ⟨h, _⟩
 ·simp only [Rep] at hr
  obtain ⟨n, rfl, _, rfl⟩ := hr
  have e : leafE 2 null fl (.num n) = fixedE n (width 2) := by simp [leafE, Tr.N_num]
  rw [e] at hl ⊢
  rw [fixedE_length] at hl
  exact app_i16 hown hb hl
 ·cases h
theorem av_i32 {null : Int} {fl : Bool} : AppV Tryz.prog 155 (.int .i32) (leafE 3 null fl) := by
 intro w F base dv out v t hown hb hr hF hl
 rcases hr with ⟨_, _, hr⟩ | ⟨h, _⟩
 ·simp only [Rep] at hr
  obtain ⟨n, rfl, _, rfl⟩ := hr
  have e : leafE 3 null fl (.num n) = fixedE n (width 3) := by simp [leafE, Tr.N_num]
  rw [e] at hl ⊢
  rw [fixedE_length] at hl
  exact app_i32 hown hb hl
 ·cases h
theorem av_str {null : Int} (hn : null < 0) : AppV Tryz.prog 160 .str (leafE 8 null false) := by
 intro w F base dv out v t hown hb hr hF hl
 rcases hr with ⟨_, _, hr⟩ | ⟨h, _⟩
 ·simp only [Rep] at hr
  obtain ⟨bs, rfl, _, rfl⟩ := hr
  have e : leafE 8 null false (.oct bs) = cntE false bs.length 2 ++ bs := by simp [leafE, Tr.S_oct, Tr.Z_oct]
  rw [e] at hl ⊢
  exact app_str hown hb hl
 ·cases h
theorem av_cstr {null : Int} (hn : null < 0) : AppV Tryz.prog 159 .str (leafE 8 null true) := by
 intro w F base dv out v t hown hb hr hF hl
 rcases hr with ⟨_, _, hr⟩ | ⟨h, _⟩
 ·simp only [Rep] at hr
  obtain ⟨bs, rfl, _, rfl⟩ := hr
  have e : leafE 8 null true (.oct bs) = cntE true bs.length 2 ++ bs := by simp [leafE, Tr.S_oct, Tr.Z_oct]
  rw [e] at hl ⊢
  exact app_cstr hown hb hl
 ·cases h
theorem ct_alen : CntC Tryz.prog 158 false := by
 intro w base dv out n hown hb hl
 exact app_alen hown hb (by simpa [cntE, fixedE_length] using hl)
theorem ct_calen : CntC Tryz.prog 157 true := by
 intro w base dv out n hown hb hl
 exact app_calen hown hb hl
end Go.Proofs.YtpecdnfmlodmaaaGreatDoorR
