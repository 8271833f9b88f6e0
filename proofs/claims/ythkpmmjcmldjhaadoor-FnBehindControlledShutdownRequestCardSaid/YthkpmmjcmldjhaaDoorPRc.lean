/-
  The reader's methods, as the rules for the code that reads want them.
-/
import Derived.Test.YthkpmmjcmldjhaaDoorPRun
set_option linter.unusedSimpArgs false
set_option linter.unusedVariables false
namespace Go.Proofs.YthkpmmjcmldjhaaDoor
open Go Go.RowKit
theorem fits_wrap (k : IntKind) (n : Int) : fits k (k.wrap n) := by
 cases k <;> simp only [fits, IntKind.wrap, IntKind.min, IntKind.max, IntKind.bits, IntKind.signed] <;> simp <;> (try split) <;> omega
theorem wrap32_eq (n : Int) : IntKind.i32.wrap n = wrap32 n := by simp only [wrap32, IntKind.wrap, IntKind.bits, IntKind.signed]; simp; split <;> omega
theorem wrap64_eq (n : Int) : IntKind.i64.wrap n = wrap64 n := by simp only [wrap64, IntKind.wrap, IntKind.bits, IntKind.signed]; simp; split <;> omega
theorem fits_zero (k : IntKind) : fits k 0 := by cases k <;> simp [fits, IntKind.min, IntKind.max, IntKind.signed, IntKind.bits]
theorem repv_one {w : World} {F : Nat -> Prop} {ty : Ty} {v : Value} {t : Tr} (h1 : ty.size = 1) (h2 : v.oneCell' = true) (h3 : Rep w F ty (fun _ => v) t) : RepV w F ty v t := .inl ⟨h1, h2, h3⟩
theorem pstr_one {w : World} {F : Nat -> Prop} {v : Value} {o : Option (List UInt8)} (h : PStr w F v o) : v.oneCell' = true := by
 cases o with
 | none => rw [show v = _ from h]; rfl
 | some bs => obtain ⟨k, t, _, h, _⟩ := h; rw [h]; rfl
theorem oct_one {w : World} {F : Nat -> Prop} {v : Value} {bs : List UInt8} {nil : Bool} (h : Oct w F v bs nil) : v.oneCell' = true := by
 rcases h with ⟨sb, _, h⟩ | ⟨_, ao, cap, h, _⟩
 ·rcases h with ⟨_, h, _⟩ | ⟨_, off, cap, c, t, fr, h, _⟩ <;> (rw [h]; rfl)
 ·rw [h]; rfl
theorem rdInt32_fits (s : RS) : fits .i32 (rdInt32 s).1 := by unfold rdInt32; split; exact wrap32_eq _ ▸ fits_wrap _ _; exact fits_zero _
theorem rdInt64_fits (s : RS) : fits .i64 (rdInt64 s).1 := by unfold rdInt64; exact wrap64_eq _ ▸ fits_wrap _ _
theorem rc_Int32 : RdC Tryd.prog 54 (.int .i32) (fun s => (.num (rdInt32 s).1, (rdInt32 s).2)) := fun w rb sb s h =>
 (rd_Int32 h).mono fun e w' ⟨he, h2, h3⟩ => ⟨⟨_, he, fun F _ _ => repv_one rfl rfl ⟨_, rfl, rdInt32_fits _, rfl⟩⟩, h2, h3⟩
theorem rc_Int64 : RdC Tryd.prog 55 (.int .i64) (fun s => (.num (rdInt64 s).1, (rdInt64 s).2)) := fun w rb sb s h =>
 (rd_Int64 h).mono fun e w' ⟨he, h2, h3⟩ => ⟨⟨_, he, fun F _ _ => repv_one rfl rfl ⟨_, rfl, rdInt64_fits _, rfl⟩⟩, h2, h3⟩
end Go.Proofs.YthkpmmjcmldjhaaDoor
