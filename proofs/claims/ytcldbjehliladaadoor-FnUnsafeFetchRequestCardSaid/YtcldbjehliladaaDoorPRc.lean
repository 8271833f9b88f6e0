/-
  The reader's methods, as the rules for the code that reads want them.
-/
import Derived.Test.YtcldbjehliladaaDoorPRun
set_option linter.unusedSimpArgs false
set_option linter.unusedVariables false
namespace Go.Proofs.YtcldbjehliladaaDoor
open Go Go.RowKit
theorem fits_wrap (k : IntKind) (n : Int) : fits k (k.wrap n) := by
 cases k <;> simp only [fits, IntKind.wrap, IntKind.min, IntKind.max, IntKind.bits, IntKind.signed] <;> simp <;> (try split) <;> omega
theorem wrap32_eq (n : Int) : IntKind.i32.wrap n = wrap32 n := by simp only [wrap32, IntKind.wrap, IntKind.bits, IntKind.signed]; simp; split <;> omega
theorem wrap64_eq (n : Int) : IntKind.i64.wrap n = wrap64 n := by simp only [wrap64, IntKind.wrap, IntKind.bits, IntKind.signed]; simp; split <;> omega
theorem fits_zero (k : IntKind) : fits k 0 := by cases k <;> simp [fits, IntKind.min, IntKind.max, IntKind.signed, IntKind.bits]
theorem repv_one {w : World} {F : Nat -> Prop} {ty : Ty} {v : Value} {t : Tr} (h1 : ty.size = 1) (h2 : v.oneCell' = true) (h3 : Rep w F ty (fun _ => v) t) : RepV w F ty v t := .inl ⟨h1, h2, h3⟩
theorem pstr_one {w : World} {F : Nat -> Prop} {v : Value} {o : Option (List UInt8)} (h : PStr w F v o) : v.oneCell' = true := by
 cases o with
 | none => rw [show v = _ from h]; rfl
 | some bs => obtain ⟨k, t, _, h, _⟩ := h; rw [h]; rfl
theorem oct_one {w : World} {F : Nat -> Prop} {v : Value} {bs : List UInt8} {nil : Bool} (h : Oct w F v bs nil) : v.oneCell' = true := by
 rcases h with ⟨sb, _, h⟩ | ⟨_, ao, cap, h, _⟩
 ·rcases h with ⟨_, h, _⟩ | ⟨_, off, cap, c, t, fr, h, _⟩ <;> (rw [h]; rfl)
 ·rw [h]; rfl
theorem rdSpan_len (l : Int) (s : RS) : (rdSpan l s).1.1.length <= l.toNat := by
 unfold rdSpan
 split
 ·simp
 ·simp only [List.length_take]; omega
theorem rdStr_len (s : RS) : (rdStr s).1.length <= 4294967295 := by
 have h1 := rdSpan_len (rdInt16 s).1 (rdInt16 s).2
 have h2 := rdInt16_in s
 show (rdSpan (rdInt16 s).1 (rdInt16 s).2).1.1.length <= _
 omega
theorem rdCStr_len (s : RS) : (rdCStr s).1.length <= 4294967295 := by
 have h1 := rdSpan_len ((rdUvarint s).1 - 1) (rdUvarint s).2
 have h2 := rdUvarint_in s
 show (rdSpan ((rdUvarint s).1 - 1) (rdUvarint s).2).1.1.length <= _
 omega
theorem rdNStr_len (s : RS) : ∀ bs, (rdNStr s).1 = some bs -> bs.length <= 4294967295 := by
 intro bs h
 unfold rdNStr at h
 split at h
 ·cases h
 ·simp at h; rw [<- h]; exact rdStr_len s
theorem rdCNStr_len (s : RS) : ∀ bs, (rdCNStr s).1 = some bs -> bs.length <= 4294967295 := by
 intro bs h
 unfold rdCNStr at h
 split at h
 ·cases h
 ·simp at h; rw [<- h]; exact rdCStr_len s
theorem rdInt8_fits (s : RS) : fits .i8 (rdInt8 s).1 := by unfold rdInt8; split; exact fits_wrap _ _; exact fits_zero _
theorem rdInt32_fits (s : RS) : fits .i32 (rdInt32 s).1 := by unfold rdInt32; split; exact wrap32_eq _ ▸ fits_wrap _ _; exact fits_zero _
theorem rdInt64_fits (s : RS) : fits .i64 (rdInt64 s).1 := by unfold rdInt64; exact wrap64_eq _ ▸ fits_wrap _ _
theorem rc_Int8 : RdC Tryd.prog 80 (.int .i8) (fun s => (.num (rdInt8 s).1, (rdInt8 s).2)) := fun w rb sb s h =>
 (rd_Int8 h).mono fun e w' ⟨he, h2, h3⟩ => ⟨⟨_, he, fun F _ _ => repv_one rfl rfl ⟨_, rfl, rdInt8_fits _, rfl⟩⟩, h2, h3⟩
theorem rc_Int32 : RdC Tryd.prog 69 (.int .i32) (fun s => (.num (rdInt32 s).1, (rdInt32 s).2)) := fun w rb sb s h =>
 (rd_Int32 h).mono fun e w' ⟨he, h2, h3⟩ => ⟨⟨_, he, fun F _ _ => repv_one rfl rfl ⟨_, rfl, rdInt32_fits _, rfl⟩⟩, h2, h3⟩
theorem rc_Int64 : RdC Tryd.prog 58 (.int .i64) (fun s => (.num (rdInt64 s).1, (rdInt64 s).2)) := fun w rb sb s h =>
 (rd_Int64 h).mono fun e w' ⟨he, h2, h3⟩ => ⟨⟨_, he, fun F _ _ => repv_one rfl rfl ⟨_, rfl, rdInt64_fits _, rfl⟩⟩, h2, h3⟩
theorem rc_String : RdC Tryd.prog 57 .str (fun s => (.oct (rdStr s).1, (rdStr s).2)) := fun w rb sb s h =>
 (rd_String h).mono fun e w' ⟨he, h2, h3⟩ => ⟨⟨_, he, fun F _ _ => repv_one rfl rfl ⟨_, rfl, rdStr_len _, rfl⟩⟩, h2, h3⟩
theorem rc_NullableString : RdC Tryd.prog 90 .pstr (fun s => (.ofOpt (rdNStr s).1, (rdNStr s).2)) := fun w rb sb s h =>
 (rd_NullableString h).mono fun e w' ⟨⟨v, he, hv⟩, h2, h3⟩ => ⟨⟨v, he, fun F h1 h2 => repv_one rfl (pstr_one hv) ⟨_, hv.mod (Mod.refl (S := none') w') (fun _ _ f => f) (fun k hk => h2 k hk), rdNStr_len _, rfl⟩⟩, h2, h3⟩
theorem rc_CompactString : RdC Tryd.prog 83 .str (fun s => (.oct (rdCStr s).1, (rdCStr s).2)) := fun w rb sb s h =>
 (rd_CompactString h).mono fun e w' ⟨he, h2, h3⟩ => ⟨⟨_, he, fun F _ _ => repv_one rfl rfl ⟨_, rfl, rdCStr_len _, rfl⟩⟩, h2, h3⟩
theorem rc_CompactNullableString : RdC Tryd.prog 88 .pstr (fun s => (.ofOpt (rdCNStr s).1, (rdCNStr s).2)) := fun w rb sb s h =>
 (rd_CompactNullableString h).mono fun e w' ⟨⟨v, he, hv⟩, h2, h3⟩ => ⟨⟨v, he, fun F h1 h2 => repv_one rfl (pstr_one hv) ⟨_, hv.mod (Mod.refl (S := none') w') (fun _ _ f => f) (fun k hk => h2 k hk), rdCNStr_len _, rfl⟩⟩, h2, h3⟩
theorem rc_UnsafeString : RdC Tryd.prog 56 .str (fun s => (.oct (rdStr s).1, (rdStr s).2)) := fun w rb sb s h =>
 (rd_UnsafeString h).mono fun e w' ⟨he, h2, h3⟩ => ⟨⟨_, he, fun F _ _ => repv_one rfl rfl ⟨_, rfl, rdStr_len _, rfl⟩⟩, h2, h3⟩
theorem rc_UnsafeNullableString : RdC Tryd.prog 89 .pstr (fun s => (.ofOpt (rdNStr s).1, (rdNStr s).2)) := fun w rb sb s h =>
 (rd_UnsafeNullableString h).mono fun e w' ⟨⟨v, he, hv⟩, h2, h3⟩ => ⟨⟨v, he, fun F h1 h2 => repv_one rfl (pstr_one hv) ⟨_, hv.mod (Mod.refl (S := none') w') (fun _ _ f => f) (fun k hk => h2 k hk), rdNStr_len _, rfl⟩⟩, h2, h3⟩
theorem rc_UnsafeCompactString : RdC Tryd.prog 82 .str (fun s => (.oct (rdCStr s).1, (rdCStr s).2)) := fun w rb sb s h =>
 (rd_UnsafeCompactString h).mono fun e w' ⟨he, h2, h3⟩ => ⟨⟨_, he, fun F _ _ => repv_one rfl rfl ⟨_, rfl, rdCStr_len _, rfl⟩⟩, h2, h3⟩
theorem rc_UnsafeCompactNullableString : RdC Tryd.prog 87 .pstr (fun s => (.ofOpt (rdCNStr s).1, (rdCNStr s).2)) := fun w rb sb s h =>
 (rd_UnsafeCompactNullableString h).mono fun e w' ⟨⟨v, he, hv⟩, h2, h3⟩ => ⟨⟨v, he, fun F h1 h2 => repv_one rfl (pstr_one hv) ⟨_, hv.mod (Mod.refl (S := none') w') (fun _ _ f => f) (fun k hk => h2 k hk), rdCNStr_len _, rfl⟩⟩, h2, h3⟩
end Go.Proofs.YtcldbjehliladaaDoor
