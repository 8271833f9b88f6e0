/-
  The contracts of package kbin's reader, second part: Uvarint, Span, texts, octets, lengths of lists, Complete, Ok.
-/
import Derived.ScopeJumps
import Derived.Lib.VarintBits
import Derived.Test.YtadfbhmpehnkeaaDoorKRda
set_option linter.unusedSimpArgs false
set_option linter.unusedVariables false
namespace Go.Proofs.YtadfbhmpehnkeaaDoor
open Go Go.RowKit

theorem wp_scope_jump1 {P : Program} {a : Act} {w : World} {Q : Exit → Act → World → Prop} {c rest : Code} (l : Nat) (A : Act) (W : World) (hf : findLabel c l = some rest)
    (first : c.wp P (Exit.jump l (fun a' w' => a' = A ∧ w' = W) Q) a w) (pass : rest.wp P (Exit.noGoto Q) A W) : (Code.scope c).wp P Q a w :=
  wp_scope_jumps l (fun a' w' => a' = A ∧ w' = W) (fun _ _ => 0) hf first (by
    rintro _ _ ⟨rfl, rfl⟩
    refine wp_mono pass ?_
    intro e a w h
    cases e <;> first | exact h | exact h.elim)

/-- the highest bit of an octet -/
def hi7 (x : UInt8) : Int := bits BinOp.and IntKind.u8 (x.toNat : Int) 128
def lo7 (x : UInt8) : Int := bits BinOp.and IntKind.u8 (x.toNat : Int) 127 % 4294967296
def uv1 (x0 : UInt8) : Int := lo7 x0
def uv2 (x0 x1 : UInt8) : Int := bits BinOp.or IntKind.u32 (uv1 x0) (lo7 x1 * 128 % 4294967296)
def uv3 (x0 x1 x2 : UInt8) : Int := bits BinOp.or IntKind.u32 (uv2 x0 x1) (lo7 x2 * 16384 % 4294967296)
def uv4 (x0 x1 x2 x3 : UInt8) : Int := bits BinOp.or IntKind.u32 (uv3 x0 x1 x2) (lo7 x3 * 2097152 % 4294967296)
def uv5 (x0 x1 x2 x3 x4 : UInt8) : Int := bits BinOp.or IntKind.u32 (uv4 x0 x1 x2 x3) ((x4.toNat : Int) * 268435456)
/-- a number in groups of seven bits, and how many octets it takes (none: 0, or -5) -/
def uvDec : List UInt8 → Int × Int
  | [] => (0, 0)
  | x0 :: r0 => if hi7 x0 = 0 then (uv1 x0, 1) else match r0 with
    | [] => (0, 0)
    | x1 :: r1 => if hi7 x1 = 0 then (uv2 x0 x1, 2) else match r1 with
      | [] => (0, 0)
      | x2 :: r2 => if hi7 x2 = 0 then (uv3 x0 x1 x2, 3) else match r2 with
        | [] => (0, 0)
        | x3 :: r3 => if hi7 x3 = 0 then (uv4 x0 x1 x2 x3, 4) else match r3 with
          | [] => (0, 0)
          | x4 :: _ => if (x4.toNat : Int) ≤ 15 then (uv5 x0 x1 x2 x3 x4, 5) else (0, -5)

set_option maxHeartbeats 4000000 in
set_option maxRecDepth 100000 in
theorem uvF0 (w : World) (cap : Nat) (ao : Option Addr) : Calls Tryd.prog 221 #[.slice ao 0 cap] w fun e w' => e = .returned (.tuple #[.int .u32 (0), .int .i64 (0)]) ∧ w = w' := by
  go_enter Tryd.func221, Tryd.ntmps221
  go_wp2
  apply wp_scope_jump1 0 (hf := rfl)
  case first =>
    go_wp2
    go_step3
    simp only [Exit.then, Exit.inBlock, Exit.jump]
    exact ⟨rfl, rfl, rfl⟩
  case pass =>
    go_wp2
    try rw [Exit.noGoto_ret]
    go_ret2
    exact ⟨rfl, rfl⟩

set_option maxHeartbeats 4000000 in
set_option maxRecDepth 100000 in
theorem uvF1 (w : World) (b off : Nat) (x0 : UInt8) (c0 : w.cell? ⟨b, off, none⟩ = some (.int .u8 x0.toNat)) (cap : Nat) (h0 : (bits BinOp.and IntKind.u8 (x0.toNat : Int) 128 == 0) = false) : Calls Tryd.prog 221 #[.slice (some ⟨b, off, none⟩) 1 cap] w fun e w' => e = .returned (.tuple #[.int .u32 (0), .int .i64 (0)]) ∧ w = w' := by
  go_enter Tryd.func221, Tryd.ntmps221
  go_wp2
  apply wp_scope_jump1 0 (hf := rfl)
  case first =>
    go_wp2
    go_step3
    simp only [Exit.then, Exit.inBlock, Exit.jump]
    exact ⟨rfl, rfl, rfl⟩
  case pass =>
    go_wp2
    try rw [Exit.noGoto_ret]
    go_ret2
    exact ⟨rfl, rfl⟩

set_option maxHeartbeats 4000000 in
set_option maxRecDepth 100000 in
theorem uvF2 (w : World) (b off : Nat) (x0 x1 : UInt8) (c0 : w.cell? ⟨b, off, none⟩ = some (.int .u8 x0.toNat)) (c1 : w.cell? ⟨b, off + 1, none⟩ = some (.int .u8 x1.toNat)) (cap : Nat) (h0 : (bits BinOp.and IntKind.u8 (x0.toNat : Int) 128 == 0) = false) (h1 : (bits BinOp.and IntKind.u8 (x1.toNat : Int) 128 == 0) = false) : Calls Tryd.prog 221 #[.slice (some ⟨b, off, none⟩) 2 cap] w fun e w' => e = .returned (.tuple #[.int .u32 (0), .int .i64 (0)]) ∧ w = w' := by
  go_enter Tryd.func221, Tryd.ntmps221
  go_wp2
  apply wp_scope_jump1 0 (hf := rfl)
  case first =>
    go_wp2
    go_step3
    simp only [Exit.then, Exit.inBlock, Exit.jump]
    exact ⟨rfl, rfl, rfl⟩
  case pass =>
    go_wp2
    try rw [Exit.noGoto_ret]
    go_ret2
    exact ⟨rfl, rfl⟩

set_option maxHeartbeats 4000000 in
set_option maxRecDepth 100000 in
theorem uvF3 (w : World) (b off : Nat) (x0 x1 x2 : UInt8) (c0 : w.cell? ⟨b, off, none⟩ = some (.int .u8 x0.toNat)) (c1 : w.cell? ⟨b, off + 1, none⟩ = some (.int .u8 x1.toNat)) (c2 : w.cell? ⟨b, off + 2, none⟩ = some (.int .u8 x2.toNat)) (cap : Nat) (h0 : (bits BinOp.and IntKind.u8 (x0.toNat : Int) 128 == 0) = false) (h1 : (bits BinOp.and IntKind.u8 (x1.toNat : Int) 128 == 0) = false) (h2 : (bits BinOp.and IntKind.u8 (x2.toNat : Int) 128 == 0) = false) : Calls Tryd.prog 221 #[.slice (some ⟨b, off, none⟩) 3 cap] w fun e w' => e = .returned (.tuple #[.int .u32 (0), .int .i64 (0)]) ∧ w = w' := by
  go_enter Tryd.func221, Tryd.ntmps221
  go_wp2
  apply wp_scope_jump1 0 (hf := rfl)
  case first =>
    go_wp2
    go_step3
    simp only [Exit.then, Exit.inBlock, Exit.jump]
    exact ⟨rfl, rfl, rfl⟩
  case pass =>
    go_wp2
    try rw [Exit.noGoto_ret]
    go_ret2
    exact ⟨rfl, rfl⟩

set_option maxHeartbeats 4000000 in
set_option maxRecDepth 100000 in
theorem uvF4 (w : World) (b off : Nat) (x0 x1 x2 x3 : UInt8) (c0 : w.cell? ⟨b, off, none⟩ = some (.int .u8 x0.toNat)) (c1 : w.cell? ⟨b, off + 1, none⟩ = some (.int .u8 x1.toNat)) (c2 : w.cell? ⟨b, off + 2, none⟩ = some (.int .u8 x2.toNat)) (c3 : w.cell? ⟨b, off + 3, none⟩ = some (.int .u8 x3.toNat)) (cap : Nat) (h0 : (bits BinOp.and IntKind.u8 (x0.toNat : Int) 128 == 0) = false) (h1 : (bits BinOp.and IntKind.u8 (x1.toNat : Int) 128 == 0) = false) (h2 : (bits BinOp.and IntKind.u8 (x2.toNat : Int) 128 == 0) = false) (h3 : (bits BinOp.and IntKind.u8 (x3.toNat : Int) 128 == 0) = false) : Calls Tryd.prog 221 #[.slice (some ⟨b, off, none⟩) 4 cap] w fun e w' => e = .returned (.tuple #[.int .u32 (0), .int .i64 (0)]) ∧ w = w' := by
  go_enter Tryd.func221, Tryd.ntmps221
  go_wp2
  apply wp_scope_jump1 0 (hf := rfl)
  case first =>
    go_wp2
    go_step3
    simp only [Exit.then, Exit.inBlock, Exit.jump]
    exact ⟨rfl, rfl, rfl⟩
  case pass =>
    go_wp2
    try rw [Exit.noGoto_ret]
    go_ret2
    exact ⟨rfl, rfl⟩

set_option maxHeartbeats 4000000 in
set_option maxRecDepth 100000 in
theorem uvS1 (w : World) (b off : Nat) (x0 : UInt8) (c0 : w.cell? ⟨b, off, none⟩ = some (.int .u8 x0.toNat)) (n cap : Nat) (hn : 1 ≤ (n : Int)) (h0 : (bits BinOp.and IntKind.u8 (x0.toNat : Int) 128 == 0) = true) : Calls Tryd.prog 221 #[.slice (some ⟨b, off, none⟩) n cap] w fun e w' => e = .returned (.tuple #[.int .u32 (uv1 x0), .int .i64 (1)]) ∧ w = w' := by
  have i0 : 0 < n := by omega
  go_enter Tryd.func221, Tryd.ntmps221
  go_wp2
  go_step3
  go_wp2
  rw [Exit.noGoto_ret]
  go_ret2
  exact ⟨rfl, rfl⟩

set_option maxHeartbeats 4000000 in
set_option maxRecDepth 100000 in
theorem uvS2 (w : World) (b off : Nat) (x0 x1 : UInt8) (c0 : w.cell? ⟨b, off, none⟩ = some (.int .u8 x0.toNat)) (c1 : w.cell? ⟨b, off + 1, none⟩ = some (.int .u8 x1.toNat)) (n cap : Nat) (hn : 2 ≤ (n : Int)) (h0 : (bits BinOp.and IntKind.u8 (x0.toNat : Int) 128 == 0) = false) (h1 : (bits BinOp.and IntKind.u8 (x1.toNat : Int) 128 == 0) = true) : Calls Tryd.prog 221 #[.slice (some ⟨b, off, none⟩) n cap] w fun e w' => e = .returned (.tuple #[.int .u32 (uv2 x0 x1), .int .i64 (2)]) ∧ w = w' := by
  have i0 : 0 < n := by omega
  have i1 : (1 : Int) < n := by omega
  go_enter Tryd.func221, Tryd.ntmps221
  go_wp2
  go_step3
  go_wp2
  rw [Exit.noGoto_ret]
  go_ret2
  exact ⟨rfl, rfl⟩

set_option maxHeartbeats 4000000 in
set_option maxRecDepth 100000 in
theorem uvS3 (w : World) (b off : Nat) (x0 x1 x2 : UInt8) (c0 : w.cell? ⟨b, off, none⟩ = some (.int .u8 x0.toNat)) (c1 : w.cell? ⟨b, off + 1, none⟩ = some (.int .u8 x1.toNat)) (c2 : w.cell? ⟨b, off + 2, none⟩ = some (.int .u8 x2.toNat)) (n cap : Nat) (hn : 3 ≤ (n : Int)) (h0 : (bits BinOp.and IntKind.u8 (x0.toNat : Int) 128 == 0) = false) (h1 : (bits BinOp.and IntKind.u8 (x1.toNat : Int) 128 == 0) = false) (h2 : (bits BinOp.and IntKind.u8 (x2.toNat : Int) 128 == 0) = true) : Calls Tryd.prog 221 #[.slice (some ⟨b, off, none⟩) n cap] w fun e w' => e = .returned (.tuple #[.int .u32 (uv3 x0 x1 x2), .int .i64 (3)]) ∧ w = w' := by
  have i0 : 0 < n := by omega
  have i1 : (1 : Int) < n := by omega
  have i2 : (2 : Int) < n := by omega
  go_enter Tryd.func221, Tryd.ntmps221
  go_wp2
  go_step3
  go_wp2
  rw [Exit.noGoto_ret]
  go_ret2
  exact ⟨rfl, rfl⟩

set_option maxHeartbeats 4000000 in
set_option maxRecDepth 100000 in
theorem uvS4 (w : World) (b off : Nat) (x0 x1 x2 x3 : UInt8) (c0 : w.cell? ⟨b, off, none⟩ = some (.int .u8 x0.toNat)) (c1 : w.cell? ⟨b, off + 1, none⟩ = some (.int .u8 x1.toNat)) (c2 : w.cell? ⟨b, off + 2, none⟩ = some (.int .u8 x2.toNat)) (c3 : w.cell? ⟨b, off + 3, none⟩ = some (.int .u8 x3.toNat)) (n cap : Nat) (hn : 4 ≤ (n : Int)) (h0 : (bits BinOp.and IntKind.u8 (x0.toNat : Int) 128 == 0) = false) (h1 : (bits BinOp.and IntKind.u8 (x1.toNat : Int) 128 == 0) = false) (h2 : (bits BinOp.and IntKind.u8 (x2.toNat : Int) 128 == 0) = false) (h3 : (bits BinOp.and IntKind.u8 (x3.toNat : Int) 128 == 0) = true) : Calls Tryd.prog 221 #[.slice (some ⟨b, off, none⟩) n cap] w fun e w' => e = .returned (.tuple #[.int .u32 (uv4 x0 x1 x2 x3), .int .i64 (4)]) ∧ w = w' := by
  have i0 : 0 < n := by omega
  have i1 : (1 : Int) < n := by omega
  have i2 : (2 : Int) < n := by omega
  have i3 : (3 : Int) < n := by omega
  go_enter Tryd.func221, Tryd.ntmps221
  go_wp2
  go_step3
  go_wp2
  rw [Exit.noGoto_ret]
  go_ret2
  exact ⟨rfl, rfl⟩

set_option maxHeartbeats 4000000 in
set_option maxRecDepth 100000 in
theorem uvS5 (w : World) (b off : Nat) (x0 x1 x2 x3 x4 : UInt8) (c0 : w.cell? ⟨b, off, none⟩ = some (.int .u8 x0.toNat)) (c1 : w.cell? ⟨b, off + 1, none⟩ = some (.int .u8 x1.toNat)) (c2 : w.cell? ⟨b, off + 2, none⟩ = some (.int .u8 x2.toNat)) (c3 : w.cell? ⟨b, off + 3, none⟩ = some (.int .u8 x3.toNat)) (c4 : w.cell? ⟨b, off + 4, none⟩ = some (.int .u8 x4.toNat)) (n cap : Nat) (hn : 5 ≤ (n : Int)) (h0 : (bits BinOp.and IntKind.u8 (x0.toNat : Int) 128 == 0) = false) (h1 : (bits BinOp.and IntKind.u8 (x1.toNat : Int) 128 == 0) = false) (h2 : (bits BinOp.and IntKind.u8 (x2.toNat : Int) 128 == 0) = false) (h3 : (bits BinOp.and IntKind.u8 (x3.toNat : Int) 128 == 0) = false) (h4 : (x4.toNat : Int) ≤ 15) : Calls Tryd.prog 221 #[.slice (some ⟨b, off, none⟩) n cap] w fun e w' => e = .returned (.tuple #[.int .u32 (uv5 x0 x1 x2 x3 x4), .int .i64 (5)]) ∧ w = w' := by
  have i0 : 0 < n := by omega
  have i1 : (1 : Int) < n := by omega
  have i2 : (2 : Int) < n := by omega
  have i3 : (3 : Int) < n := by omega
  have i4 : (4 : Int) < n := by omega
  go_enter Tryd.func221, Tryd.ntmps221
  go_wp2
  go_step3
  go_wp2
  rw [Exit.noGoto_ret]
  go_ret2
  exact ⟨rfl, rfl⟩

set_option maxHeartbeats 4000000 in
set_option maxRecDepth 100000 in
theorem uvF5 (w : World) (b off : Nat) (x0 x1 x2 x3 x4 : UInt8) (c0 : w.cell? ⟨b, off, none⟩ = some (.int .u8 x0.toNat)) (c1 : w.cell? ⟨b, off + 1, none⟩ = some (.int .u8 x1.toNat)) (c2 : w.cell? ⟨b, off + 2, none⟩ = some (.int .u8 x2.toNat)) (c3 : w.cell? ⟨b, off + 3, none⟩ = some (.int .u8 x3.toNat)) (c4 : w.cell? ⟨b, off + 4, none⟩ = some (.int .u8 x4.toNat)) (n cap : Nat) (hn : 5 ≤ (n : Int)) (h0 : (bits BinOp.and IntKind.u8 (x0.toNat : Int) 128 == 0) = false) (h1 : (bits BinOp.and IntKind.u8 (x1.toNat : Int) 128 == 0) = false) (h2 : (bits BinOp.and IntKind.u8 (x2.toNat : Int) 128 == 0) = false) (h3 : (bits BinOp.and IntKind.u8 (x3.toNat : Int) 128 == 0) = false) (h4 : 15 < (x4.toNat : Int)) : Calls Tryd.prog 221 #[.slice (some ⟨b, off, none⟩) n cap] w fun e w' => e = .returned (.tuple #[.int .u32 (0), .int .i64 (-5)]) ∧ w = w' := by
  have i0 : 0 < n := by omega
  have i1 : (1 : Int) < n := by omega
  have i2 : (2 : Int) < n := by omega
  have i3 : (3 : Int) < n := by omega
  have i4 : (4 : Int) < n := by omega
  have h5 : ¬ (x4.toNat : Int) ≤ 15 := by omega
  go_enter Tryd.func221, Tryd.ntmps221
  go_wp2
  go_step3
  go_wp2
  go_step3
  go_wp2
  rw [Exit.noGoto_ret]
  go_ret2
  exact ⟨rfl, rfl⟩

theorem hi7_eq (x : UInt8) : hi7 x = if (x.toNat : Int) < 128 then 0 else 128 := by
  have h : ∀ n : Nat, n < 256 → bits BinOp.and IntKind.u8 (n : Int) 128 = if (n : Int) < 128 then 0 else 128 := by decide +kernel
  exact h _ x.toNat_lt
theorem lo7_eq (x : UInt8) : lo7 x = (x.toNat : Int) % 128 := by
  have h := x.toNat_lt
  unfold lo7
  rw [u8_and127 _ (by omega) (by omega)]
  omega
theorem u32_orv (i : Nat) (y x : Int) (hi : i ≤ 32) (hy₀ : 0 ≤ y) (hy : y < 2 ^ i) (hy₁ : y < 4294967296) (hx₀ : 0 ≤ x) (hx : x % 2 ^ i = 0) (hx₁ : x < 4294967296) : bits .or .u32 y x = y + x :=
  bits_join_low .u32 32 (by decide) wraps_u32 i y x hy₀ hy hy₁ hx₀ hx hx₁
theorem uv1_eq (x0 : UInt8) : uv1 x0 = x0.toNat % 128 := lo7_eq x0
theorem uv2_eq (x0 x1 : UInt8) : uv2 x0 x1 = x0.toNat % 128 + (x1.toNat : Int) % 128 * 128 := by
  unfold uv2
  rw [uv1_eq, lo7_eq, u32_orv 7 _ _ (by omega) (by omega) (by omega) (by omega) (by omega) (by omega) (by omega)]
  omega
theorem uv3_eq (x0 x1 x2 : UInt8) : uv3 x0 x1 x2 = x0.toNat % 128 + (x1.toNat : Int) % 128 * 128 + (x2.toNat : Int) % 128 * 16384 := by
  unfold uv3
  rw [uv2_eq, lo7_eq, u32_orv 14 _ _ (by omega) (by omega) (by omega) (by omega) (by omega) (by omega) (by omega)]
  omega
theorem uv4_eq (x0 x1 x2 x3 : UInt8) : uv4 x0 x1 x2 x3 = x0.toNat % 128 + (x1.toNat : Int) % 128 * 128 + (x2.toNat : Int) % 128 * 16384 + (x3.toNat : Int) % 128 * 2097152 := by
  unfold uv4
  rw [uv3_eq, lo7_eq, u32_orv 21 _ _ (by omega) (by omega) (by omega) (by omega) (by omega) (by omega) (by omega)]
  omega
theorem uv5_eq (x0 x1 x2 x3 x4 : UInt8) (h : (x4.toNat : Int) ≤ 15) : uv5 x0 x1 x2 x3 x4 = x0.toNat % 128 + (x1.toNat : Int) % 128 * 128 + (x2.toNat : Int) % 128 * 16384 + (x3.toNat : Int) % 128 * 2097152 + (x4.toNat : Int) * 268435456 := by
  unfold uv5
  rw [uv4_eq, u32_orv 28 _ _ (by omega) (by omega) (by omega) (by omega) (by omega) (by omega) (by omega)]

theorem uv_any {w : World} {v : Value} {sb : Nat} {bs : List UInt8} {nil : Bool} (h : Src w v sb bs nil) : Calls Tryd.prog 221 #[v] w fun e w' =>
    e = .returned (.tuple #[.int .u32 (uvDec bs).1, .int .i64 (uvDec bs).2]) ∧ w = w' := by
  rcases h with ⟨_, rfl, rfl⟩ | ⟨_, off, cap, c, t, fr, rfl, _, _, h5, h6⟩
  · exact uvF0 w 0 none
  have hc : ∀ i (hi : i < bs.length), w.cell? ⟨sb, off + i, none⟩ = some (.int .u8 (bs[i]).toNat) := fun i hi => by rw [cell_of_heap h5]; exact h6 i hi
  clear h5 h6
  rcases bs with _ | ⟨x0, r0⟩
  · simp only [uvDec]; exact uvF0 w  cap (some ⟨sb, off, none⟩)
  have c0 := hc 0 (by simp)
  simp only [Nat.add_zero, List.getElem_cons_zero, List.getElem_cons_succ] at c0
  by_cases e0 : hi7 x0 = 0
  · simp only [uvDec, if_pos e0]
    exact uvS1 w sb off x0 c0 _ cap (by simp <;> omega) (by rw [beq_iff_eq]; exact e0)
  have e0' : (bits BinOp.and IntKind.u8 (x0.toNat : Int) 128 == 0) = false := by rw [beq_eq_false_iff_ne]; exact e0
  rcases r0 with _ | ⟨x1, r1⟩
  · simp only [uvDec, if_neg e0]; exact uvF1 w sb off x0 c0 cap e0'
  have c1 := hc 1 (by simp)
  simp only [Nat.add_zero, List.getElem_cons_zero, List.getElem_cons_succ] at c1
  by_cases e1 : hi7 x1 = 0
  · simp only [uvDec, if_neg e0, if_pos e1]
    exact uvS2 w sb off x0 x1 c0 c1 _ cap (by simp <;> omega) e0' (by rw [beq_iff_eq]; exact e1)
  have e1' : (bits BinOp.and IntKind.u8 (x1.toNat : Int) 128 == 0) = false := by rw [beq_eq_false_iff_ne]; exact e1
  rcases r1 with _ | ⟨x2, r2⟩
  · simp only [uvDec, if_neg e0, if_neg e1]; exact uvF2 w sb off x0 x1 c0 c1 cap e0' e1'
  have c2 := hc 2 (by simp)
  simp only [Nat.add_zero, List.getElem_cons_zero, List.getElem_cons_succ] at c2
  by_cases e2 : hi7 x2 = 0
  · simp only [uvDec, if_neg e0, if_neg e1, if_pos e2]
    exact uvS3 w sb off x0 x1 x2 c0 c1 c2 _ cap (by simp <;> omega) e0' e1' (by rw [beq_iff_eq]; exact e2)
  have e2' : (bits BinOp.and IntKind.u8 (x2.toNat : Int) 128 == 0) = false := by rw [beq_eq_false_iff_ne]; exact e2
  rcases r2 with _ | ⟨x3, r3⟩
  · simp only [uvDec, if_neg e0, if_neg e1, if_neg e2]; exact uvF3 w sb off x0 x1 x2 c0 c1 c2 cap e0' e1' e2'
  have c3 := hc 3 (by simp)
  simp only [Nat.add_zero, List.getElem_cons_zero, List.getElem_cons_succ] at c3
  by_cases e3 : hi7 x3 = 0
  · simp only [uvDec, if_neg e0, if_neg e1, if_neg e2, if_pos e3]
    exact uvS4 w sb off x0 x1 x2 x3 c0 c1 c2 c3 _ cap (by simp <;> omega) e0' e1' e2' (by rw [beq_iff_eq]; exact e3)
  have e3' : (bits BinOp.and IntKind.u8 (x3.toNat : Int) 128 == 0) = false := by rw [beq_eq_false_iff_ne]; exact e3
  rcases r3 with _ | ⟨x4, r4⟩
  · simp only [uvDec, if_neg e0, if_neg e1, if_neg e2, if_neg e3]; exact uvF4 w sb off x0 x1 x2 x3 c0 c1 c2 c3 cap e0' e1' e2' e3'
  have c4 := hc 4 (by simp)
  simp only [Nat.add_zero, List.getElem_cons_zero, List.getElem_cons_succ] at c4
  by_cases e4 : (x4.toNat : Int) ≤ 15
  · simp only [uvDec, if_neg e0, if_neg e1, if_neg e2, if_neg e3, if_pos e4]
    exact uvS5 w sb off x0 x1 x2 x3 x4 c0 c1 c2 c3 c4 _ cap (by simp <;> omega) e0' e1' e2' e3' e4
  · simp only [uvDec, if_neg e0, if_neg e1, if_neg e2, if_neg e3, if_neg e4]
    exact uvF5 w sb off x0 x1 x2 x3 x4 c0 c1 c2 c3 c4 _ cap (by simp <;> omega) e0' e1' e2' e3' (by omega)

theorem uvDec_in (bs : List UInt8) : 0 ≤ (uvDec bs).1 ∧ (uvDec bs).1 < 4294967296 ∧ (uvDec bs).2 ≤ bs.length ∧ ((uvDec bs).2 ≤ 0 ∨ (0 < (uvDec bs).2 ∧ (uvDec bs).2 ≤ 5)) := by
  rcases bs with _ | ⟨x0, r0⟩
  · simp only [uvDec]; simp <;> omega
  by_cases e0 : hi7 x0 = 0
  · simp only [uvDec, if_pos e0]; refine ⟨?_, ?_, by simp <;> omega, Or.inr ⟨by omega, by omega⟩⟩ <;> (rw [uv1_eq]; omega)
  rcases r0 with _ | ⟨x1, r1⟩
  · simp only [uvDec, if_neg e0]; simp <;> omega
  by_cases e1 : hi7 x1 = 0
  · simp only [uvDec, if_neg e0, if_pos e1]; refine ⟨?_, ?_, by simp <;> omega, Or.inr ⟨by omega, by omega⟩⟩ <;> (rw [uv2_eq]; omega)
  rcases r1 with _ | ⟨x2, r2⟩
  · simp only [uvDec, if_neg e0, if_neg e1]; simp <;> omega
  by_cases e2 : hi7 x2 = 0
  · simp only [uvDec, if_neg e0, if_neg e1, if_pos e2]; refine ⟨?_, ?_, by simp <;> omega, Or.inr ⟨by omega, by omega⟩⟩ <;> (rw [uv3_eq]; omega)
  rcases r2 with _ | ⟨x3, r3⟩
  · simp only [uvDec, if_neg e0, if_neg e1, if_neg e2]; simp <;> omega
  by_cases e3 : hi7 x3 = 0
  · simp only [uvDec, if_neg e0, if_neg e1, if_neg e2, if_pos e3]; refine ⟨?_, ?_, by simp <;> omega, Or.inr ⟨by omega, by omega⟩⟩ <;> (rw [uv4_eq]; omega)
  rcases r3 with _ | ⟨x4, r4⟩
  · simp only [uvDec, if_neg e0, if_neg e1, if_neg e2, if_neg e3]; simp <;> omega
  by_cases e4 : (x4.toNat : Int) ≤ 15
  · simp only [uvDec, if_neg e0, if_neg e1, if_neg e2, if_neg e3, if_pos e4]; refine ⟨?_, ?_, by simp <;> omega, Or.inr ⟨by omega, by omega⟩⟩ <;> (rw [uv5_eq _ _ _ _ _ e4]; omega)
  · simp only [uvDec, if_neg e0, if_neg e1, if_neg e2, if_neg e3, if_neg e4]; simp <;> omega

/-- a number in groups of seven bits -/
def rdUvarint (s : RS) : Int × RS := if (uvDec s.bs).2 ≤ 0 then (0, RS.fail) else ((uvDec s.bs).1, s.skip (uvDec s.bs).2.toNat)
theorem rdUvarint_in (s : RS) : 0 ≤ (rdUvarint s).1 ∧ (rdUvarint s).1 < 4294967296 := by
  have h := uvDec_in s.bs
  unfold rdUvarint
  split
  · simp
  · exact ⟨h.1, h.2.1⟩

set_option maxHeartbeats 4000000 in
set_option maxRecDepth 100000 in
theorem rd_Uvarint {w : World} {rb sb : Nat} {s : RS} (h : Rd w rb sb s) : Calls Tryd.prog 202 #[.pointer (some ⟨rb, 0, none⟩)] w fun e w' =>
    e = .returned (.int .u32 (rdUvarint s).1) ∧ Rd w' rb sb (rdUvarint s).2 ∧ Mod (only rb) w w' := by
  have hin := uvDec_in s.bs
  by_cases hd : (uvDec s.bs).2 ≤ 0
  · have e : rdUvarint s = (0, RS.fail) := if_pos hd
    rw [e]
    obtain ⟨hl, hn, src, t, hb, hs⟩ := h
    have U := Lib.hid (uv_any hs)
    have K : Hid _ := fun W hm => Rd.fail (s := s) (W := W) ⟨hl, hn, src, t, hb, hs⟩ hm
    have h0 : w.cell? ⟨rb, 0, none⟩ = some src := cell_of_heap hb
    have h1 : w.cell? ⟨rb, 1, none⟩ = some (.bool s.bad) := cell_of_heap hb
    have f0 : w.frozen? ⟨rb, 0, none⟩ = false := frozen_of_heap hb
    have f1 : w.frozen? ⟨rb, 1, none⟩ = false := frozen_of_heap hb
    clear e hb hs
    go_enter Tryd.func202, Tryd.ntmps202
    go_wp2_with (go_at_call 221; refine U.out.mono ?_; rintro e w' ⟨rfl, rfl⟩)
    go_ret
    exact ⟨rfl, K.out _ (Mod.refl _)⟩
  · have e : rdUvarint s = ((uvDec s.bs).1, s.skip (uvDec s.bs).2.toNat) := if_neg hd
    rw [e]
    have hp : 0 < (uvDec s.bs).2 := by omega
    obtain ⟨off, cap, n, hnl, hn, hl, hb, hc, hm, h0, f0, hcs, K⟩ := h.long 0 (by omega)
    have U : Hid (Calls Tryd.prog 221 #[.slice (some ⟨sb, off, none⟩) n cap] w fun e w' => e = .returned (.tuple #[.int .u32 (uvDec s.bs).1, .int .i64 (uvDec s.bs).2]) ∧ w = w') := by
      obtain ⟨hl, hn', src, t, hb, hs⟩ := h
      have : src = .slice (some ⟨sb, off, none⟩) n cap := by have := (cell_of_heap (i := 0) hb).symm.trans h0; simpa using this
      rw [← this]
      exact uv_any hs
    unfold RS.skip
    clear h e hcs hnl
    generalize hk : (uvDec s.bs).2 = k at *
    have hk' : k.toNat ≤ n := by omega
    have hk2 : k ≤ (n : Int) := by omega
    have hk3 : 0 ≤ k := by omega
    generalize (uvDec s.bs).1 = v at *
    clear hin hk hn
    have hd' : decide (k ≤ 0) = false := by simpa using hd
    go_enter Tryd.func202, Tryd.ntmps202
    go_wp2_with (go_at_call 221; refine U.out.mono ?_; rintro e w' ⟨rfl, rfl⟩)
    all_goals go_ret
    all_goals exact ⟨rfl, K.out _ _ (Mod.refl _) _ _ (by omega) (by omega) (by omega)⟩

end Go.Proofs.YtadfbhmpehnkeaaDoor
