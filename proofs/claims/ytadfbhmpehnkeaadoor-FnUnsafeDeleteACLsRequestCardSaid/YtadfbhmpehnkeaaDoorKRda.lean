/-
  The contracts of package kbin's reader: what each method of it answers, and what it leaves to be read. First: binary.BigEndian, Bool, Int8, Int16, Int32, readUint64, Int64, Span.
-/
import Derived.Test.YtadfbhmpehnkeaaDoorChecked
import Derived.WalkKit
import Derived.ProofKit
import Derived.OpenShut
import Derived.Deep.QuietTactic
import Derived.BigQuiet
import Derived.RegionCalls
import Derived.Deep.RegionWith
import Derived.StillTailTactics
import Derived.Lib.Hide
import Derived.Test.YtadfbhmpehnkeaaDoorKBase
set_option linter.unusedSimpArgs false
set_option linter.unusedVariables false
namespace Go.Proofs.YtadfbhmpehnkeaaDoor
open Go Go.RowKit

/-- a reader laid open for a walk -/
theorem Rd.long {w : World} {rb sb : Nat} {s : RS} (h : Rd w rb sb s) (k : Nat) (hk : k < s.bs.length) : ∃ off cap n, s.nil = false ∧ n = s.bs.length ∧ rb < w.heap.size ∧ sb < w.heap.size ∧ n ≤ cap ∧ cap ≤ 9223372036854775807 ∧
    w.cell? ⟨rb, 0, none⟩ = some (.slice (some ⟨sb, off, none⟩) n cap) ∧ w.frozen? ⟨rb, 0, none⟩ = false ∧
    (∀ i (hi : i < s.bs.length), w.cell? ⟨sb, off + i, none⟩ = some (.int .u8 (s.bs[i]).toNat)) ∧
    Hid (∀ m W, Mod none' w W → ∀ off' cap', (off' = off + m ∨ n = m) → n - m ≤ cap' → cap' ≤ 9223372036854775807 →
      Rd (W.setCell ⟨rb, 0, none⟩ (.slice (some ⟨sb, off', none⟩) (n - m) cap')) rb sb ⟨s.bs.drop m, s.nil, s.bad⟩ ∧
      Mod (only rb) w (W.setCell ⟨rb, 0, none⟩ (.slice (some ⟨sb, off', none⟩) (n - m) cap'))) := by
  obtain ⟨hl, hn, ao, cap, t, hb, hlc, hcm, hnil, hsome⟩ := h.open
  cases ao with
  | none => have := (hnil rfl).2.1; rw [this] at hk; simp at hk
  | some a =>
    obtain ⟨h1, h2, h3, h4, h5⟩ := hsome a rfl
    obtain ⟨b, off, spot⟩ := a
    simp only at h2 h3 h5
    subst h2 h3
    have hlt : b < w.heap.size := by obtain ⟨c, t, fr, h4⟩ := h4; exact lt_of_block h4
    refine ⟨off, cap, s.bs.length, h1, rfl, hl, hlt, hlc, hcm, cell_of_heap hb, frozen_of_heap hb, h5, ?_⟩
    intro m W hm off' cap' ho hc hx
    rw [h1]
    exact h.put hm (Src.drop hm h4 h5 ho hc hx)
theorem Rd.short {w : World} {rb sb : Nat} {s : RS} (h : Rd w rb sb s) : ∃ ao cap, rb < w.heap.size ∧ s.bs.length ≤ cap ∧ w.cell? ⟨rb, 0, none⟩ = some (.slice ao s.bs.length cap) ∧ w.cell? ⟨rb, 1, none⟩ = some (.bool s.bad) ∧
    w.frozen? ⟨rb, 0, none⟩ = false ∧ w.frozen? ⟨rb, 1, none⟩ = false ∧ Hid (∀ W, Mod none' w W → Rd ((W.setCell ⟨rb, 1, none⟩ (.bool true)).setCell ⟨rb, 0, none⟩ (.slice none 0 0)) rb sb RS.fail ∧
    Mod (only rb) w ((W.setCell ⟨rb, 1, none⟩ (.bool true)).setCell ⟨rb, 0, none⟩ (.slice none 0 0))) := by
  obtain ⟨hl, hn, ao, cap, t, hb, hlc, hcm, hnil, hsome⟩ := h.open
  exact ⟨ao, cap, hl, hlc, cell_of_heap hb, cell_of_heap hb, frozen_of_heap hb, frozen_of_heap hb, fun W hm => h.fail hm⟩


/-- the number that 2 octets spell, the highest first, as the code reckons it -/
def be16 (x0 x1 : UInt8) : Int := (bits BinOp.or IntKind.u16 ((x1.toNat : Int) % 65536) (((x0.toNat : Int) % 65536) * 256 % 65536))

set_option maxHeartbeats 4000000 in
set_option maxRecDepth 100000 in
theorem go_be16 (b off len cap : Nat) (x0 x1 : UInt8) (w : World) (hn : 2 ≤ len) (hb : b < w.heap.size) (c0 : w.cell? ⟨b, off, none⟩ = some (.int .u8 x0.toNat)) (c1 : w.cell? ⟨b, off + 1, none⟩ = some (.int .u8 x1.toNat)) :
    Calls Tryd.prog 207 #[.agg #[], .slice (some ⟨b, off, none⟩) len cap] w fun e w' => e = .returned (.int .u16 (be16 x0 x1)) ∧ ∃ n, w' = (w.alloc (.cells #[] 212)).drewN n := by
  have i0 : 0 < len := by omega
  have i1 : (1 : Int) < len := by omega
  go_enter Tryd.func207, Tryd.ntmps207
  go_wp2
  go_quiet (fail)
  go_wp2
  go_ret
  exact ⟨rfl, _, rfl⟩

/-- the number that 4 octets spell, the highest first, as the code reckons it -/
def be32 (x0 x1 x2 x3 : UInt8) : Int := (bits BinOp.or IntKind.u32 (bits BinOp.or IntKind.u32 (bits BinOp.or IntKind.u32 ((x3.toNat : Int) % 4294967296) (((x2.toNat : Int) % 4294967296) * 256 % 4294967296)) (((x1.toNat : Int) % 4294967296) * 65536 % 4294967296)) (((x0.toNat : Int) % 4294967296) * 16777216 % 4294967296))

set_option maxHeartbeats 4000000 in
set_option maxRecDepth 100000 in
theorem go_be32 (b off len cap : Nat) (x0 x1 x2 x3 : UInt8) (w : World) (hn : 4 ≤ len) (hb : b < w.heap.size) (c0 : w.cell? ⟨b, off, none⟩ = some (.int .u8 x0.toNat)) (c1 : w.cell? ⟨b, off + 1, none⟩ = some (.int .u8 x1.toNat)) (c2 : w.cell? ⟨b, off + 2, none⟩ = some (.int .u8 x2.toNat)) (c3 : w.cell? ⟨b, off + 3, none⟩ = some (.int .u8 x3.toNat)) :
    Calls Tryd.prog 205 #[.agg #[], .slice (some ⟨b, off, none⟩) len cap] w fun e w' => e = .returned (.int .u32 (be32 x0 x1 x2 x3)) ∧ ∃ n, w' = (w.alloc (.cells #[] 212)).drewN n := by
  have i0 : 0 < len := by omega
  have i1 : (1 : Int) < len := by omega
  have i2 : (2 : Int) < len := by omega
  have i3 : (3 : Int) < len := by omega
  go_enter Tryd.func205, Tryd.ntmps205
  go_wp2
  go_quiet (fail)
  go_wp2
  go_ret
  exact ⟨rfl, _, rfl⟩

/-- the number that 8 octets spell, the highest first, as the code reckons it -/
def be64 (x0 x1 x2 x3 x4 x5 x6 x7 : UInt8) : Int := (bits BinOp.or IntKind.u64 (bits BinOp.or IntKind.u64 (bits BinOp.or IntKind.u64 (bits BinOp.or IntKind.u64 (bits BinOp.or IntKind.u64 (bits BinOp.or IntKind.u64 (bits BinOp.or IntKind.u64 ((x7.toNat : Int) % 18446744073709551616) (((x6.toNat : Int) % 18446744073709551616) * 256 % 18446744073709551616)) (((x5.toNat : Int) % 18446744073709551616) * 65536 % 18446744073709551616)) (((x4.toNat : Int) % 18446744073709551616) * 16777216 % 18446744073709551616)) (((x3.toNat : Int) % 18446744073709551616) * 4294967296 % 18446744073709551616)) (((x2.toNat : Int) % 18446744073709551616) * 1099511627776 % 18446744073709551616)) (((x1.toNat : Int) % 18446744073709551616) * 281474976710656 % 18446744073709551616)) (((x0.toNat : Int) % 18446744073709551616) * 72057594037927936 % 18446744073709551616))

set_option maxHeartbeats 4000000 in
set_option maxRecDepth 100000 in
theorem go_be64 (b off len cap : Nat) (x0 x1 x2 x3 x4 x5 x6 x7 : UInt8) (w : World) (hn : 8 ≤ len) (hb : b < w.heap.size) (c0 : w.cell? ⟨b, off, none⟩ = some (.int .u8 x0.toNat)) (c1 : w.cell? ⟨b, off + 1, none⟩ = some (.int .u8 x1.toNat)) (c2 : w.cell? ⟨b, off + 2, none⟩ = some (.int .u8 x2.toNat)) (c3 : w.cell? ⟨b, off + 3, none⟩ = some (.int .u8 x3.toNat)) (c4 : w.cell? ⟨b, off + 4, none⟩ = some (.int .u8 x4.toNat)) (c5 : w.cell? ⟨b, off + 5, none⟩ = some (.int .u8 x5.toNat)) (c6 : w.cell? ⟨b, off + 6, none⟩ = some (.int .u8 x6.toNat)) (c7 : w.cell? ⟨b, off + 7, none⟩ = some (.int .u8 x7.toNat)) :
    Calls Tryd.prog 243 #[.agg #[], .slice (some ⟨b, off, none⟩) len cap] w fun e w' => e = .returned (.int .u64 (be64 x0 x1 x2 x3 x4 x5 x6 x7)) ∧ ∃ n, w' = (w.alloc (.cells #[] 212)).drewN n := by
  have i0 : 0 < len := by omega
  have i1 : (1 : Int) < len := by omega
  have i2 : (2 : Int) < len := by omega
  have i3 : (3 : Int) < len := by omega
  have i4 : (4 : Int) < len := by omega
  have i5 : (5 : Int) < len := by omega
  have i6 : (6 : Int) < len := by omega
  have i7 : (7 : Int) < len := by omega
  go_enter Tryd.func243, Tryd.ntmps243
  go_wp2
  go_quiet (fail)
  go_wp2
  go_ret
  exact ⟨rfl, _, rfl⟩

def rdBool (s : RS) : Bool × RS := match s.bs with
  | x0 :: r => (((x0.toNat : Int)) != 0, ⟨r, s.nil, s.bad⟩)
  | _ => (false, RS.fail)

set_option maxHeartbeats 4000000 in
set_option maxRecDepth 100000 in
theorem rd_Bool {w : World} {rb sb : Nat} {s : RS} (h : Rd w rb sb s) : Calls Tryd.prog 183 #[.pointer (some ⟨rb, 0, none⟩)] w fun e w' =>
    e = .returned (.bool (rdBool s).1) ∧ Rd w' rb sb (rdBool s).2 ∧ Mod (only rb) w w' := by
  by_cases hs : s.bs.length < 1
  · obtain ⟨ao, cap, hl, hc, h0, h1, f0, f1, K⟩ := h.short
    have hi : (s.bs.length : Int) < 1 := by omega
    have e : rdBool s = (false, RS.fail) := by
      rcases s with ⟨_ | ⟨x0, r⟩, nl, bd⟩
      · rfl
      · simp at hs
    rw [e]
    clear e h
    go_enter Tryd.func183, Tryd.ntmps183
    go_wp2
    go_ret
    exact ⟨rfl, K.out _ (Mod.refl _)⟩
  · obtain ⟨off, cap, n, hnl, hn, hl, hb, hc, hm, h0, f0, hcs, K⟩ := h.long 0 (by omega)
    rcases s with ⟨_ | ⟨x0, r⟩, nl, bd⟩
    · simp at hs
    simp only [List.drop_succ_cons, List.drop_zero] at *
    have c0 := hcs 0 (by simp)
    simp only [Nat.add_zero, List.getElem_cons_zero, List.getElem_cons_succ] at c0
    have hi : 1 ≤ (n : Int) := by simp at hn; omega
    have hi0 : 0 < n := by omega
    have hi1 : 1 ≤ n := by omega
    have hi2 : (1 : Int) ≤ (cap : Int) := by omega
    have HN := Lib.hid hn
    clear hn hnl hcs h hs
    unfold rdBool
    simp only []
    go_enter Tryd.func183, Tryd.ntmps183
    go_wp2
    all_goals go_ret
    all_goals exact ⟨rfl, K.out 1 _ (by first | exact Mod.refl _ | exact ((Mod.refl _).alloc _).drewN _) _ _ (by omega) (by omega) (by omega)⟩

def rdInt8 (s : RS) : Int × RS := match s.bs with
  | x0 :: r => (IntKind.i8.wrap (x0.toNat : Int), ⟨r, s.nil, s.bad⟩)
  | _ => (0, RS.fail)

set_option maxHeartbeats 4000000 in
set_option maxRecDepth 100000 in
theorem rd_Int8 {w : World} {rb sb : Nat} {s : RS} (h : Rd w rb sb s) : Calls Tryd.prog 186 #[.pointer (some ⟨rb, 0, none⟩)] w fun e w' =>
    e = .returned (.int .i8 (rdInt8 s).1) ∧ Rd w' rb sb (rdInt8 s).2 ∧ Mod (only rb) w w' := by
  by_cases hs : s.bs.length < 1
  · obtain ⟨ao, cap, hl, hc, h0, h1, f0, f1, K⟩ := h.short
    have hi : (s.bs.length : Int) < 1 := by omega
    have e : rdInt8 s = (0, RS.fail) := by
      rcases s with ⟨_ | ⟨x0, r⟩, nl, bd⟩
      · rfl
      · simp at hs
    rw [e]
    clear e h
    go_enter Tryd.func186, Tryd.ntmps186
    go_wp2
    go_ret
    exact ⟨rfl, K.out _ (Mod.refl _)⟩
  · obtain ⟨off, cap, n, hnl, hn, hl, hb, hc, hm, h0, f0, hcs, K⟩ := h.long 0 (by omega)
    rcases s with ⟨_ | ⟨x0, r⟩, nl, bd⟩
    · simp at hs
    simp only [List.drop_succ_cons, List.drop_zero] at *
    have c0 := hcs 0 (by simp)
    simp only [Nat.add_zero, List.getElem_cons_zero, List.getElem_cons_succ] at c0
    have hi : 1 ≤ (n : Int) := by simp at hn; omega
    have hi0 : 0 < n := by omega
    have hi1 : 1 ≤ n := by omega
    have hi2 : (1 : Int) ≤ (cap : Int) := by omega
    have HN := Lib.hid hn
    clear hn hnl hcs h hs
    unfold rdInt8
    simp only []
    go_enter Tryd.func186, Tryd.ntmps186
    go_wp2
    all_goals go_ret
    all_goals exact ⟨rfl, K.out 1 _ (by first | exact Mod.refl _ | exact ((Mod.refl _).alloc _).drewN _) _ _ (by omega) (by omega) (by omega)⟩

def rdInt16 (s : RS) : Int × RS := match s.bs with
  | x0 :: x1 :: r => (IntKind.i16.wrap (be16 x0 x1), ⟨r, s.nil, s.bad⟩)
  | _ => (0, RS.fail)

set_option maxHeartbeats 4000000 in
set_option maxRecDepth 100000 in
theorem rd_Int16 {w : World} {rb sb : Nat} {s : RS} (h : Rd w rb sb s) : Calls Tryd.prog 161 #[.pointer (some ⟨rb, 0, none⟩)] w fun e w' =>
    e = .returned (.int .i16 (rdInt16 s).1) ∧ Rd w' rb sb (rdInt16 s).2 ∧ Mod (only rb) w w' := by
  by_cases hs : s.bs.length < 2
  · obtain ⟨ao, cap, hl, hc, h0, h1, f0, f1, K⟩ := h.short
    have hi : (s.bs.length : Int) < 2 := by omega
    have e : rdInt16 s = (0, RS.fail) := by
      rcases s with ⟨_ | ⟨x0, _ | ⟨x1, r⟩⟩, nl, bd⟩
      · rfl
      · rfl
      · simp at hs; omega
    rw [e]
    clear e h
    go_enter Tryd.func161, Tryd.ntmps161
    go_wp2
    go_ret
    exact ⟨rfl, K.out _ (Mod.refl _)⟩
  · obtain ⟨off, cap, n, hnl, hn, hl, hb, hc, hm, h0, f0, hcs, K⟩ := h.long 0 (by omega)
    rcases s with ⟨_ | ⟨x0, _ | ⟨x1, r⟩⟩, nl, bd⟩
    · simp at hs
    · simp at hs
    simp only [List.drop_succ_cons, List.drop_zero] at *
    have c0 := hcs 0 (by simp)
    have c1 := hcs 1 (by simp)
    simp only [Nat.add_zero, List.getElem_cons_zero, List.getElem_cons_succ] at c0 c1
    have hi : 2 ≤ (n : Int) := by simp at hn; omega
    have hi0 : 0 < n := by omega
    have hi1 : 2 ≤ n := by omega
    have hi2 : (2 : Int) ≤ (cap : Int) := by omega
    have HN := Lib.hid hn
    clear hn hnl hcs h hs
    unfold rdInt16
    simp only []
    go_enter Tryd.func161, Tryd.ntmps161
    go_wp2
    go_still_tail 5, (by kernel_rfl)
    have b0 := go_be16 sb off n cap x0 x1 w.drew hi1 (by simpa using hb) c0 c1
    go_wp2_with (go_at_call 207; refine b0.mono ?_; rintro e w' ⟨rfl, nq, rfl⟩)
    all_goals go_ret
    all_goals exact ⟨rfl, K.out 2 _ (by first | exact Mod.refl _ | exact ((Mod.refl _).alloc _).drewN _) _ _ (by omega) (by omega) (by omega)⟩

def rdUint16 (s : RS) : Int × RS := match s.bs with
  | x0 :: x1 :: r => (be16 x0 x1, ⟨r, s.nil, s.bad⟩)
  | _ => (0, RS.fail)


def rdInt32 (s : RS) : Int × RS := match s.bs with
  | x0 :: x1 :: x2 :: x3 :: r => (wrap32 (be32 x0 x1 x2 x3), ⟨r, s.nil, s.bad⟩)
  | _ => (0, RS.fail)

set_option maxHeartbeats 4000000 in
set_option maxRecDepth 100000 in
theorem rd_Int32 {w : World} {rb sb : Nat} {s : RS} (h : Rd w rb sb s) : Calls Tryd.prog 151 #[.pointer (some ⟨rb, 0, none⟩)] w fun e w' =>
    e = .returned (.int .i32 (rdInt32 s).1) ∧ Rd w' rb sb (rdInt32 s).2 ∧ Mod (only rb) w w' := by
  by_cases hs : s.bs.length < 4
  · obtain ⟨ao, cap, hl, hc, h0, h1, f0, f1, K⟩ := h.short
    have hi : (s.bs.length : Int) < 4 := by omega
    have e : rdInt32 s = (0, RS.fail) := by
      rcases s with ⟨_ | ⟨x0, _ | ⟨x1, _ | ⟨x2, _ | ⟨x3, r⟩⟩⟩⟩, nl, bd⟩
      · rfl
      · rfl
      · rfl
      · rfl
      · simp at hs; omega
    rw [e]
    clear e h
    go_enter Tryd.func151, Tryd.ntmps151
    go_wp2
    go_ret
    exact ⟨rfl, K.out _ (Mod.refl _)⟩
  · obtain ⟨off, cap, n, hnl, hn, hl, hb, hc, hm, h0, f0, hcs, K⟩ := h.long 0 (by omega)
    rcases s with ⟨_ | ⟨x0, _ | ⟨x1, _ | ⟨x2, _ | ⟨x3, r⟩⟩⟩⟩, nl, bd⟩
    · simp at hs
    · simp at hs
    · simp at hs
    · simp at hs
    simp only [List.drop_succ_cons, List.drop_zero] at *
    have c0 := hcs 0 (by simp)
    have c1 := hcs 1 (by simp)
    have c2 := hcs 2 (by simp)
    have c3 := hcs 3 (by simp)
    simp only [Nat.add_zero, List.getElem_cons_zero, List.getElem_cons_succ] at c0 c1 c2 c3
    have hi : 4 ≤ (n : Int) := by simp at hn; omega
    have hi0 : 0 < n := by omega
    have hi1 : 4 ≤ n := by omega
    have hi2 : (4 : Int) ≤ (cap : Int) := by omega
    have HN := Lib.hid hn
    clear hn hnl hcs h hs
    unfold rdInt32
    simp only []
    go_enter Tryd.func151, Tryd.ntmps151
    go_wp2
    go_still_tail 5, (by kernel_rfl)
    have b0 := go_be32 sb off n cap x0 x1 x2 x3 w.drew hi1 (by simpa using hb) c0 c1 c2 c3
    go_wp2_with (go_at_call 205; refine b0.mono ?_; rintro e w' ⟨rfl, nq, rfl⟩)
    all_goals go_ret
    all_goals exact ⟨rfl, K.out 4 _ (by first | exact Mod.refl _ | exact ((Mod.refl _).alloc _).drewN _) _ _ (by omega) (by omega) (by omega)⟩

def rdreadUint64 (s : RS) : Int × RS := match s.bs with
  | x0 :: x1 :: x2 :: x3 :: x4 :: x5 :: x6 :: x7 :: r => (be64 x0 x1 x2 x3 x4 x5 x6 x7, ⟨r, s.nil, s.bad⟩)
  | _ => (0, RS.fail)

set_option maxHeartbeats 4000000 in
set_option maxRecDepth 100000 in
theorem rd_readUint64 {w : World} {rb sb : Nat} {s : RS} (h : Rd w rb sb s) : Calls Tryd.prog 219 #[.pointer (some ⟨rb, 0, none⟩)] w fun e w' =>
    e = .returned (.int .u64 (rdreadUint64 s).1) ∧ Rd w' rb sb (rdreadUint64 s).2 ∧ Mod (only rb) w w' := by
  by_cases hs : s.bs.length < 8
  · obtain ⟨ao, cap, hl, hc, h0, h1, f0, f1, K⟩ := h.short
    have hi : (s.bs.length : Int) < 8 := by omega
    have e : rdreadUint64 s = (0, RS.fail) := by
      rcases s with ⟨_ | ⟨x0, _ | ⟨x1, _ | ⟨x2, _ | ⟨x3, _ | ⟨x4, _ | ⟨x5, _ | ⟨x6, _ | ⟨x7, r⟩⟩⟩⟩⟩⟩⟩⟩, nl, bd⟩
      · rfl
      · rfl
      · rfl
      · rfl
      · rfl
      · rfl
      · rfl
      · rfl
      · simp at hs; omega
    rw [e]
    clear e h
    go_enter Tryd.func219, Tryd.ntmps219
    go_wp2
    go_ret
    exact ⟨rfl, K.out _ (Mod.refl _)⟩
  · obtain ⟨off, cap, n, hnl, hn, hl, hb, hc, hm, h0, f0, hcs, K⟩ := h.long 0 (by omega)
    rcases s with ⟨_ | ⟨x0, _ | ⟨x1, _ | ⟨x2, _ | ⟨x3, _ | ⟨x4, _ | ⟨x5, _ | ⟨x6, _ | ⟨x7, r⟩⟩⟩⟩⟩⟩⟩⟩, nl, bd⟩
    · simp at hs
    · simp at hs
    · simp at hs
    · simp at hs
    · simp at hs
    · simp at hs
    · simp at hs
    · simp at hs
    simp only [List.drop_succ_cons, List.drop_zero] at *
    have c0 := hcs 0 (by simp)
    have c1 := hcs 1 (by simp)
    have c2 := hcs 2 (by simp)
    have c3 := hcs 3 (by simp)
    have c4 := hcs 4 (by simp)
    have c5 := hcs 5 (by simp)
    have c6 := hcs 6 (by simp)
    have c7 := hcs 7 (by simp)
    simp only [Nat.add_zero, List.getElem_cons_zero, List.getElem_cons_succ] at c0 c1 c2 c3 c4 c5 c6 c7
    have hi : 8 ≤ (n : Int) := by simp at hn; omega
    have hi0 : 0 < n := by omega
    have hi1 : 8 ≤ n := by omega
    have hi2 : (8 : Int) ≤ (cap : Int) := by omega
    have HN := Lib.hid hn
    clear hn hnl hcs h hs
    unfold rdreadUint64
    simp only []
    go_enter Tryd.func219, Tryd.ntmps219
    go_wp2
    go_still_tail 5, (by kernel_rfl)
    have b0 := go_be64 sb off n cap x0 x1 x2 x3 x4 x5 x6 x7 w.drew hi1 (by simpa using hb) c0 c1 c2 c3 c4 c5 c6 c7
    go_wp2_with (go_at_call 243; refine b0.mono ?_; rintro e w' ⟨rfl, nq, rfl⟩)
    all_goals go_ret
    all_goals exact ⟨rfl, K.out 8 _ (by first | exact Mod.refl _ | exact ((Mod.refl _).alloc _).drewN _) _ _ (by omega) (by omega) (by omega)⟩

def rdInt64 (s : RS) : Int × RS := (wrap64 (rdreadUint64 s).1, (rdreadUint64 s).2)

set_option maxHeartbeats 4000000 in
theorem rd_Int64 {w : World} {rb sb : Nat} {s : RS} (h : Rd w rb sb s) : Calls Tryd.prog 195 #[.pointer (some ⟨rb, 0, none⟩)] w fun e w' =>
    e = .returned (.int .i64 (rdInt64 s).1) ∧ Rd w' rb sb (rdInt64 s).2 ∧ Mod (only rb) w w' := by
  have K := Lib.hid (rd_readUint64 h)
  unfold rdInt64
  go_enter Tryd.func195, Tryd.ntmps195
  go_wp2_with (go_at_call 219; refine K.out.mono ?_; rintro e w' ⟨rfl, h1, h2⟩)
  go_ret
  exact ⟨rfl, h1, h2⟩

end Go.Proofs.YtadfbhmpehnkeaaDoor
