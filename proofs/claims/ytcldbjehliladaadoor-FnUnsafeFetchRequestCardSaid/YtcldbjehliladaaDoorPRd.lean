/-
  The contracts of package kbin's reader: what each method of it answers, and what it leaves to be read. First: binary.BigEndian, Bool, Int8, Int16, Int32, readUint64, Int64, Span.
  The contracts of package kbin's reader, second part: Uvarint, Span, texts, octets, lengths of lists, Complete, Ok.
  The contracts of package kbin's reader, third part: Span, texts, octets, lengths of lists, Ok, Complete.
-/
import Derived.Test.YtcldbjehliladaaDoorChecked
import Derived.WalkKit
import Derived.ProofKit
import Derived.OpenShut
import Derived.Deep.QuietTactic
import Derived.BigQuiet
import Derived.RegionCalls
import Derived.Deep.RegionWith
import Derived.StillTailTactics
import Derived.Lib.Hide
import Derived.ScopeJumps
import Derived.Lib.VarintBits
import Derived.Laws.BytesArg
import Derived.Test.YtcldbjehliladaaDoorPBase
set_option linter.unusedSimpArgs false
set_option linter.unusedVariables false
namespace Go.Proofs.YtcldbjehliladaaDoor
open Go Go.RowKit
/-- a reader laid open for a walk -/
theorem Rd.long {w : World} {rb sb : Nat} {s : RS} (h : Rd w rb sb s) (k : Nat) (hk : k < s.bs.length) : ∃ off cap n, s.nil = false /\ n = s.bs.length /\ rb < w.heap.size /\ sb < w.heap.size /\ n <= cap /\ cap <= 9223372036854775807 /\
  w.cell? ⟨rb, 0, none⟩ = some (.slice (some ⟨sb, off, none⟩) n cap) /\ w.frozen? ⟨rb, 0, none⟩ = false /\
  (∀ i (hi : i < s.bs.length), w.cell? ⟨sb, off + i, none⟩ = some (.int .u8 (s.bs[i]).toNat)) /\
  Hid (∀ m W, Mod none' w W -> ∀ off' cap', (off' = off + m \/ n = m) -> n - m <= cap' -> cap' <= 9223372036854775807 ->
   Rd (W.setCell ⟨rb, 0, none⟩ (.slice (some ⟨sb, off', none⟩) (n - m) cap')) rb sb ⟨s.bs.drop m, s.nil, s.bad⟩ /\
   Mod (only rb) w (W.setCell ⟨rb, 0, none⟩ (.slice (some ⟨sb, off', none⟩) (n - m) cap'))) := by
 obtain ⟨hl, hn, ao, cap, t, hb, hlc, hcm, hnil, hsome⟩ := h.open
 cases ao with
 | none => have := (hnil rfl).2.1; rw [this] at hk; simp at hk
 | some a =>
  obtain ⟨h1, h2, h3, h4, h5⟩ := hsome a rfl
  obtain ⟨b, off, spot⟩ := a
  simp only at h2 h3 h5
  subst h2 h3
  have hlt : b < w.heap.size := by obtain ⟨c, t, fr, h4⟩ := h4; exact lt_of_block h4
  refine ⟨off, cap, s.bs.length, h1, rfl, hl, hlt, hlc, hcm, Zc hb, Zz hb, h5, ?_⟩
  intro m W hm off' cap' ho hc hx
  rw [h1]
  exact h.put hm (Src.drop hm h4 h5 ho hc hx)
theorem Rd.short {w : World} {rb sb : Nat} {s : RS} (h : Rd w rb sb s) : ∃ ao cap, rb < w.heap.size /\ s.bs.length <= cap /\ w.cell? ⟨rb, 0, none⟩ = some (.slice ao s.bs.length cap) /\ w.cell? ⟨rb, 1, none⟩ = some (.bool s.bad) /\
  w.frozen? ⟨rb, 0, none⟩ = false /\ w.frozen? ⟨rb, 1, none⟩ = false /\ Hid (∀ W, Mod none' w W -> Rd ((W.setCell ⟨rb, 1, none⟩ (.bool true)).setCell ⟨rb, 0, none⟩ (.slice none 0 0)) rb sb RS.fail /\
  Mod (only rb) w ((W.setCell ⟨rb, 1, none⟩ (.bool true)).setCell ⟨rb, 0, none⟩ (.slice none 0 0))) := by
 obtain ⟨hl, hn, ao, cap, t, hb, hlc, hcm, hnil, hsome⟩ := h.open
 exact ⟨ao, cap, hl, hlc, Zc hb, Zc hb, Zz hb, Zz hb, fun W hm => h.fail hm⟩
/-- the number that 2 octets spell, the highest first, as the code reckons it -/
def be16 (x0 x1 : UInt8) : Int := (bits BinOp.or IntKind.u16 ((x1.toNat : Int) % 65536) (((x0.toNat : Int) % 65536) * 256 % 65536))
set_option maxHeartbeats 4000000 in
set_option maxRecDepth 100000 in
theorem go_be16 (b off len cap : Nat) (x0 x1 : UInt8) (w : World) (hn : 2 <= len) (hb : b < w.heap.size) (c0 : w.cell? ⟨b, off, none⟩ = some (.int .u8 x0.toNat)) (c1 : w.cell? ⟨b, off + 1, none⟩ = some (.int .u8 x1.toNat)) :
  Calls Tryd.prog 96 #[.agg #[], .slice (some ⟨b, off, none⟩) len cap] w fun e w' => e = .returned (.int .u16 (be16 x0 x1)) /\ ∃ n, w' = (w.alloc (.cells #[] 139)).drewN n := by
 have i0 : 0 < len := by omega
 have i1 : (1 : Int) < len := by omega
 go_enter Tryd.func96, Tryd.ntmps96
 go_wp2
 go_quiet (fail)
 go_wp2
 go_ret
 exact ⟨rfl, _, rfl⟩
/-- the number that 4 octets spell, the highest first, as the code reckons it -/
def be32 (x0 x1 x2 x3 : UInt8) : Int := (bits BinOp.or IntKind.u32 (bits BinOp.or IntKind.u32 (bits BinOp.or IntKind.u32 ((x3.toNat : Int) % 4294967296) (((x2.toNat : Int) % 4294967296) * 256 % 4294967296)) (((x1.toNat : Int) % 4294967296) * 65536 % 4294967296)) (((x0.toNat : Int) % 4294967296) * 16777216 % 4294967296))
set_option maxHeartbeats 4000000 in
set_option maxRecDepth 100000 in
theorem go_be32 (b off len cap : Nat) (x0 x1 x2 x3 : UInt8) (w : World) (hn : 4 <= len) (hb : b < w.heap.size) (c0 : w.cell? ⟨b, off, none⟩ = some (.int .u8 x0.toNat)) (c1 : w.cell? ⟨b, off + 1, none⟩ = some (.int .u8 x1.toNat)) (c2 : w.cell? ⟨b, off + 2, none⟩ = some (.int .u8 x2.toNat)) (c3 : w.cell? ⟨b, off + 3, none⟩ = some (.int .u8 x3.toNat)) :
  Calls Tryd.prog 104 #[.agg #[], .slice (some ⟨b, off, none⟩) len cap] w fun e w' => e = .returned (.int .u32 (be32 x0 x1 x2 x3)) /\ ∃ n, w' = (w.alloc (.cells #[] 139)).drewN n := by
 have i0 : 0 < len := by omega
 have i1 : (1 : Int) < len := by omega
 have i2 : (2 : Int) < len := by omega
 have i3 : (3 : Int) < len := by omega
 go_enter Tryd.func104, Tryd.ntmps104
 go_wp2
 go_quiet (fail)
 go_wp2
 go_ret
 exact ⟨rfl, _, rfl⟩
/-- the number that 8 octets spell, the highest first, as the code reckons it -/
def be64 (x0 x1 x2 x3 x4 x5 x6 x7 : UInt8) : Int := (bits BinOp.or IntKind.u64 (bits BinOp.or IntKind.u64 (bits BinOp.or IntKind.u64 (bits BinOp.or IntKind.u64 (bits BinOp.or IntKind.u64 (bits BinOp.or IntKind.u64 (bits BinOp.or IntKind.u64 ((x7.toNat : Int) % 18446744073709551616) (((x6.toNat : Int) % 18446744073709551616) * 256 % 18446744073709551616)) (((x5.toNat : Int) % 18446744073709551616) * 65536 % 18446744073709551616)) (((x4.toNat : Int) % 18446744073709551616) * 16777216 % 18446744073709551616)) (((x3.toNat : Int) % 18446744073709551616) * 4294967296 % 18446744073709551616)) (((x2.toNat : Int) % 18446744073709551616) * 1099511627776 % 18446744073709551616)) (((x1.toNat : Int) % 18446744073709551616) * 281474976710656 % 18446744073709551616)) (((x0.toNat : Int) % 18446744073709551616) * 72057594037927936 % 18446744073709551616))
set_option maxHeartbeats 4000000 in
set_option maxRecDepth 100000 in
theorem go_be64 (b off len cap : Nat) (x0 x1 x2 x3 x4 x5 x6 x7 : UInt8) (w : World) (hn : 8 <= len) (hb : b < w.heap.size) (c0 : w.cell? ⟨b, off, none⟩ = some (.int .u8 x0.toNat)) (c1 : w.cell? ⟨b, off + 1, none⟩ = some (.int .u8 x1.toNat)) (c2 : w.cell? ⟨b, off + 2, none⟩ = some (.int .u8 x2.toNat)) (c3 : w.cell? ⟨b, off + 3, none⟩ = some (.int .u8 x3.toNat)) (c4 : w.cell? ⟨b, off + 4, none⟩ = some (.int .u8 x4.toNat)) (c5 : w.cell? ⟨b, off + 5, none⟩ = some (.int .u8 x5.toNat)) (c6 : w.cell? ⟨b, off + 6, none⟩ = some (.int .u8 x6.toNat)) (c7 : w.cell? ⟨b, off + 7, none⟩ = some (.int .u8 x7.toNat)) :
  Calls Tryd.prog 112 #[.agg #[], .slice (some ⟨b, off, none⟩) len cap] w fun e w' => e = .returned (.int .u64 (be64 x0 x1 x2 x3 x4 x5 x6 x7)) /\ ∃ n, w' = (w.alloc (.cells #[] 139)).drewN n := by
 have i0 : 0 < len := by omega
 have i1 : (1 : Int) < len := by omega
 have i2 : (2 : Int) < len := by omega
 have i3 : (3 : Int) < len := by omega
 have i4 : (4 : Int) < len := by omega
 have i5 : (5 : Int) < len := by omega
 have i6 : (6 : Int) < len := by omega
 have i7 : (7 : Int) < len := by omega
 go_enter Tryd.func112, Tryd.ntmps112
 go_wp2
 go_quiet (fail)
 go_wp2
 go_ret
 exact ⟨rfl, _, rfl⟩
def rdInt8 (s : RS) : Int × RS := match s.bs with
 | x0 :: r => (IntKind.i8.wrap (x0.toNat : Int), ⟨r, s.nil, s.bad⟩)
 | _ => (0, RS.fail)
set_option maxHeartbeats 4000000 in
set_option maxRecDepth 100000 in
theorem rd_Int8 {w : World} {rb sb : Nat} {s : RS} (h : Rd w rb sb s) : Calls Tryd.prog 80 #[.pointer (some ⟨rb, 0, none⟩)] w fun e w' =>
  e = .returned (.int .i8 (rdInt8 s).1) /\ Rd w' rb sb (rdInt8 s).2 /\ Mod (only rb) w w' := by
 by_cases hs : s.bs.length < 1
 ·obtain ⟨ao, cap, hl, hc, h0, h1, f0, f1, K⟩ := h.short
  have hi : (s.bs.length : Int) < 1 := by omega
  have e : rdInt8 s = (0, RS.fail) := by
   rcases s with ⟨_ | ⟨x0, r⟩, nl, bd⟩
   ·rfl
   ·simp at hs
  rw [e]
  clear e h
  go_enter Tryd.func80, Tryd.ntmps80
  go_wp2
  go_ret
  exact ⟨rfl, K.out _ (Mod.refl _)⟩
 ·obtain ⟨off, cap, n, hnl, hn, hl, hb, hc, hm, h0, f0, hcs, K⟩ := h.long 0 (by omega)
  rcases s with ⟨_ | ⟨x0, r⟩, nl, bd⟩
  ·simp at hs
  simp only [List.drop_succ_cons, List.drop_zero] at *
  have c0 := hcs 0 (by simp)
  simp only [Nat.add_zero, List.getElem_cons_zero, List.getElem_cons_succ] at c0
  have hi : 1 <= (n : Int) := by simp at hn; omega
  have hi0 : 0 < n := by omega
  have hi1 : 1 <= n := by omega
  have hi2 : (1 : Int) <= (cap : Int) := by omega
  have HN := Lib.hid hn
  clear hn hnl hcs h hs
  unfold rdInt8
  simp only []
  go_enter Tryd.func80, Tryd.ntmps80
  go_wp2
  all_goals go_ret
  all_goals exact ⟨rfl, K.out 1 _ (by first | exact Mod.refl _ | exact ((Mod.refl _).alloc _).drewN _) _ _ (by omega) (by omega) (by omega)⟩
def rdInt16 (s : RS) : Int × RS := match s.bs with
 | x0 :: x1 :: r => (IntKind.i16.wrap (be16 x0 x1), ⟨r, s.nil, s.bad⟩)
 | _ => (0, RS.fail)
set_option maxHeartbeats 4000000 in
set_option maxRecDepth 100000 in
theorem rd_Int16 {w : World} {rb sb : Nat} {s : RS} (h : Rd w rb sb s) : Calls Tryd.prog 55 #[.pointer (some ⟨rb, 0, none⟩)] w fun e w' =>
  e = .returned (.int .i16 (rdInt16 s).1) /\ Rd w' rb sb (rdInt16 s).2 /\ Mod (only rb) w w' := by
 by_cases hs : s.bs.length < 2
 ·obtain ⟨ao, cap, hl, hc, h0, h1, f0, f1, K⟩ := h.short
  have hi : (s.bs.length : Int) < 2 := by omega
  have e : rdInt16 s = (0, RS.fail) := by
   rcases s with ⟨_ | ⟨x0, _ | ⟨x1, r⟩⟩, nl, bd⟩
   ·rfl
   ·rfl
   ·simp at hs; omega
  rw [e]
  clear e h
  go_enter Tryd.func55, Tryd.ntmps55
  go_wp2
  go_ret
  exact ⟨rfl, K.out _ (Mod.refl _)⟩
 ·obtain ⟨off, cap, n, hnl, hn, hl, hb, hc, hm, h0, f0, hcs, K⟩ := h.long 0 (by omega)
  rcases s with ⟨_ | ⟨x0, _ | ⟨x1, r⟩⟩, nl, bd⟩
  ·simp at hs
  ·simp at hs
  simp only [List.drop_succ_cons, List.drop_zero] at *
  have c0 := hcs 0 (by simp)
  have c1 := hcs 1 (by simp)
  simp only [Nat.add_zero, List.getElem_cons_zero, List.getElem_cons_succ] at c0 c1
  have hi : 2 <= (n : Int) := by simp at hn; omega
  have hi0 : 0 < n := by omega
  have hi1 : 2 <= n := by omega
  have hi2 : (2 : Int) <= (cap : Int) := by omega
  have HN := Lib.hid hn
  clear hn hnl hcs h hs
  unfold rdInt16
  simp only []
  go_enter Tryd.func55, Tryd.ntmps55
  go_wp2
  go_still_tail 5, (by kernel_rfl)
  have b0 := go_be16 sb off n cap x0 x1 w.drew hi1 (by simpa using hb) c0 c1
  go_wp2_with (go_at_call 96; refine b0.mono ?_; rintro e w' ⟨rfl, nq, rfl⟩)
  all_goals go_ret
  all_goals exact ⟨rfl, K.out 2 _ (by first | exact Mod.refl _ | exact ((Mod.refl _).alloc _).drewN _) _ _ (by omega) (by omega) (by omega)⟩
def rdInt32 (s : RS) : Int × RS := match s.bs with
 | x0 :: x1 :: x2 :: x3 :: r => (wrap32 (be32 x0 x1 x2 x3), ⟨r, s.nil, s.bad⟩)
 | _ => (0, RS.fail)
set_option maxHeartbeats 4000000 in
set_option maxRecDepth 100000 in
theorem rd_Int32 {w : World} {rb sb : Nat} {s : RS} (h : Rd w rb sb s) : Calls Tryd.prog 69 #[.pointer (some ⟨rb, 0, none⟩)] w fun e w' =>
  e = .returned (.int .i32 (rdInt32 s).1) /\ Rd w' rb sb (rdInt32 s).2 /\ Mod (only rb) w w' := by
 by_cases hs : s.bs.length < 4
 ·obtain ⟨ao, cap, hl, hc, h0, h1, f0, f1, K⟩ := h.short
  have hi : (s.bs.length : Int) < 4 := by omega
  have e : rdInt32 s = (0, RS.fail) := by
   rcases s with ⟨_ | ⟨x0, _ | ⟨x1, _ | ⟨x2, _ | ⟨x3, r⟩⟩⟩⟩, nl, bd⟩
   ·rfl
   ·rfl
   ·rfl
   ·rfl
   ·simp at hs; omega
  rw [e]
  clear e h
  go_enter Tryd.func69, Tryd.ntmps69
  go_wp2
  go_ret
  exact ⟨rfl, K.out _ (Mod.refl _)⟩
 ·obtain ⟨off, cap, n, hnl, hn, hl, hb, hc, hm, h0, f0, hcs, K⟩ := h.long 0 (by omega)
  rcases s with ⟨_ | ⟨x0, _ | ⟨x1, _ | ⟨x2, _ | ⟨x3, r⟩⟩⟩⟩, nl, bd⟩
  ·simp at hs
  ·simp at hs
  ·simp at hs
  ·simp at hs
  simp only [List.drop_succ_cons, List.drop_zero] at *
  have c0 := hcs 0 (by simp)
  have c1 := hcs 1 (by simp)
  have c2 := hcs 2 (by simp)
  have c3 := hcs 3 (by simp)
  simp only [Nat.add_zero, List.getElem_cons_zero, List.getElem_cons_succ] at c0 c1 c2 c3
  have hi : 4 <= (n : Int) := by simp at hn; omega
  have hi0 : 0 < n := by omega
  have hi1 : 4 <= n := by omega
  have hi2 : (4 : Int) <= (cap : Int) := by omega
  have HN := Lib.hid hn
  clear hn hnl hcs h hs
  unfold rdInt32
  simp only []
  go_enter Tryd.func69, Tryd.ntmps69
  go_wp2
  go_still_tail 5, (by kernel_rfl)
  have b0 := go_be32 sb off n cap x0 x1 x2 x3 w.drew hi1 (by simpa using hb) c0 c1 c2 c3
  go_wp2_with (go_at_call 104; refine b0.mono ?_; rintro e w' ⟨rfl, nq, rfl⟩)
  all_goals go_ret
  all_goals exact ⟨rfl, K.out 4 _ (by first | exact Mod.refl _ | exact ((Mod.refl _).alloc _).drewN _) _ _ (by omega) (by omega) (by omega)⟩
def rdreadUint64 (s : RS) : Int × RS := match s.bs with
 | x0 :: x1 :: x2 :: x3 :: x4 :: x5 :: x6 :: x7 :: r => (be64 x0 x1 x2 x3 x4 x5 x6 x7, ⟨r, s.nil, s.bad⟩)
 | _ => (0, RS.fail)
set_option maxHeartbeats 4000000 in
set_option maxRecDepth 100000 in
theorem rd_readUint64 {w : World} {rb sb : Nat} {s : RS} (h : Rd w rb sb s) : Calls Tryd.prog 98 #[.pointer (some ⟨rb, 0, none⟩)] w fun e w' =>
  e = .returned (.int .u64 (rdreadUint64 s).1) /\ Rd w' rb sb (rdreadUint64 s).2 /\ Mod (only rb) w w' := by
 by_cases hs : s.bs.length < 8
 ·obtain ⟨ao, cap, hl, hc, h0, h1, f0, f1, K⟩ := h.short
  have hi : (s.bs.length : Int) < 8 := by omega
  have e : rdreadUint64 s = (0, RS.fail) := by
   rcases s with ⟨_ | ⟨x0, _ | ⟨x1, _ | ⟨x2, _ | ⟨x3, _ | ⟨x4, _ | ⟨x5, _ | ⟨x6, _ | ⟨x7, r⟩⟩⟩⟩⟩⟩⟩⟩, nl, bd⟩
   ·rfl
   ·rfl
   ·rfl
   ·rfl
   ·rfl
   ·rfl
   ·rfl
   ·rfl
   ·simp at hs; omega
  rw [e]
  clear e h
  go_enter Tryd.func98, Tryd.ntmps98
  go_wp2
  go_ret
  exact ⟨rfl, K.out _ (Mod.refl _)⟩
 ·obtain ⟨off, cap, n, hnl, hn, hl, hb, hc, hm, h0, f0, hcs, K⟩ := h.long 0 (by omega)
  rcases s with ⟨_ | ⟨x0, _ | ⟨x1, _ | ⟨x2, _ | ⟨x3, _ | ⟨x4, _ | ⟨x5, _ | ⟨x6, _ | ⟨x7, r⟩⟩⟩⟩⟩⟩⟩⟩, nl, bd⟩
  ·simp at hs
  ·simp at hs
  ·simp at hs
  ·simp at hs
  ·simp at hs
  ·simp at hs
  ·simp at hs
  ·simp at hs
  simp only [List.drop_succ_cons, List.drop_zero] at *
  have c0 := hcs 0 (by simp)
  have c1 := hcs 1 (by simp)
  have c2 := hcs 2 (by simp)
  have c3 := hcs 3 (by simp)
  have c4 := hcs 4 (by simp)
  have c5 := hcs 5 (by simp)
  have c6 := hcs 6 (by simp)
  have c7 := hcs 7 (by simp)
  simp only [Nat.add_zero, List.getElem_cons_zero, List.getElem_cons_succ] at c0 c1 c2 c3 c4 c5 c6 c7
  have hi : 8 <= (n : Int) := by simp at hn; omega
  have hi0 : 0 < n := by omega
  have hi1 : 8 <= n := by omega
  have hi2 : (8 : Int) <= (cap : Int) := by omega
  have HN := Lib.hid hn
  clear hn hnl hcs h hs
  unfold rdreadUint64
  simp only []
  go_enter Tryd.func98, Tryd.ntmps98
  go_wp2
  go_still_tail 5, (by kernel_rfl)
  have b0 := go_be64 sb off n cap x0 x1 x2 x3 x4 x5 x6 x7 w.drew hi1 (by simpa using hb) c0 c1 c2 c3 c4 c5 c6 c7
  go_wp2_with (go_at_call 112; refine b0.mono ?_; rintro e w' ⟨rfl, nq, rfl⟩)
  all_goals go_ret
  all_goals exact ⟨rfl, K.out 8 _ (by first | exact Mod.refl _ | exact ((Mod.refl _).alloc _).drewN _) _ _ (by omega) (by omega) (by omega)⟩
def rdInt64 (s : RS) : Int × RS := (wrap64 (rdreadUint64 s).1, (rdreadUint64 s).2)
set_option maxHeartbeats 4000000 in
theorem rd_Int64 {w : World} {rb sb : Nat} {s : RS} (h : Rd w rb sb s) : Calls Tryd.prog 58 #[.pointer (some ⟨rb, 0, none⟩)] w fun e w' =>
  e = .returned (.int .i64 (rdInt64 s).1) /\ Rd w' rb sb (rdInt64 s).2 /\ Mod (only rb) w w' := by
 have K := Lib.hid (rd_readUint64 h)
 unfold rdInt64
 go_enter Tryd.func58, Tryd.ntmps58
 go_wp2_with (go_at_call 98; refine K.out.mono ?_; rintro e w' ⟨rfl, h1, h2⟩)
 go_ret
 exact ⟨rfl, h1, h2⟩
end Go.Proofs.YtcldbjehliladaaDoor
set_option linter.unusedSimpArgs false
set_option linter.unusedVariables false
namespace Go.Proofs.YtcldbjehliladaaDoor
open Go Go.RowKit
theorem wp_scope_jump1 {P : Program} {a : Act} {w : World} {Q : Exit -> Act -> World -> Prop} {c rest : Code} (l : Nat) (A : Act) (W : World) (hf : findLabel c l = some rest)
  (first : c.wp P (Exit.jump l (fun a' w' => a' = A /\ w' = W) Q) a w) (pass : rest.wp P (Exit.noGoto Q) A W) : (Code.scope c).wp P Q a w :=
 wp_scope_jumps l (fun a' w' => a' = A /\ w' = W) (fun _ _ => 0) hf first (by
  rintro _ _ ⟨rfl, rfl⟩
  refine wp_mono pass ?_
  intro e a w h
  cases e <;> first | exact h | exact h.elim)
/-- the highest bit of an octet -/
def hi7 (x : UInt8) : Int := bits BinOp.and IntKind.u8 (x.toNat : Int) 128
def lo7 (x : UInt8) : Int := bits BinOp.and IntKind.u8 (x.toNat : Int) 127 % 4294967296
def uv1 (x0 : UInt8) : Int := lo7 x0
def uv2 (x0 x1 : UInt8) : Int := bits BinOp.or IntKind.u32 (uv1 x0) (lo7 x1 * 128 % 4294967296)
def uv3 (x0 x1 x2 : UInt8) : Int := bits BinOp.or IntKind.u32 (uv2 x0 x1) (lo7 x2 * 16384 % 4294967296)
def uv4 (x0 x1 x2 x3 : UInt8) : Int := bits BinOp.or IntKind.u32 (uv3 x0 x1 x2) (lo7 x3 * 2097152 % 4294967296)
def uv5 (x0 x1 x2 x3 x4 : UInt8) : Int := bits BinOp.or IntKind.u32 (uv4 x0 x1 x2 x3) ((x4.toNat : Int) * 268435456)
/-- a number in groups of seven bits, and how many octets it takes (none: 0, or -5) -/
def uvDec : List UInt8 -> Int × Int
 | [] => (0, 0)
 | x0 :: r0 => if hi7 x0 = 0 then (uv1 x0, 1) else match r0 with
  | [] => (0, 0)
  | x1 :: r1 => if hi7 x1 = 0 then (uv2 x0 x1, 2) else match r1 with
   | [] => (0, 0)
   | x2 :: r2 => if hi7 x2 = 0 then (uv3 x0 x1 x2, 3) else match r2 with
    | [] => (0, 0)
    | x3 :: r3 => if hi7 x3 = 0 then (uv4 x0 x1 x2 x3, 4) else match r3 with
     | [] => (0, 0)
     | x4 :: _ => if (x4.toNat : Int) <= 15 then (uv5 x0 x1 x2 x3 x4, 5) else (0, -5)
set_option maxHeartbeats 4000000 in
set_option maxRecDepth 100000 in
theorem uvF0 (w : World) (cap : Nat) (ao : Option Addr) : Calls Tryd.prog 105 #[.slice ao 0 cap] w fun e w' => e = .returned (.tuple #[.int .u32 (0), .int .i64 (0)]) /\ w = w' := by
 go_enter Tryd.func105, Tryd.ntmps105
 go_wp2
 apply wp_scope_jump1 0 (hf := rfl)
 case first =>
  go_wp2
  go_step3
  simp only [Exit.then, Exit.inBlock, Exit.jump]
  exact ⟨rfl, rfl, rfl⟩
 case pass =>
  go_wp2
  try rw [Exit.noGoto_ret]
  go_ret2
  exact ⟨rfl, rfl⟩
set_option maxHeartbeats 4000000 in
set_option maxRecDepth 100000 in
theorem uvF1 (w : World) (b off : Nat) (x0 : UInt8) (c0 : w.cell? ⟨b, off, none⟩ = some (.int .u8 x0.toNat)) (cap : Nat) (h0 : (bits BinOp.and IntKind.u8 (x0.toNat : Int) 128 == 0) = false) : Calls Tryd.prog 105 #[.slice (some ⟨b, off, none⟩) 1 cap] w fun e w' => e = .returned (.tuple #[.int .u32 (0), .int .i64 (0)]) /\ w = w' := by
 go_enter Tryd.func105, Tryd.ntmps105
 go_wp2
 apply wp_scope_jump1 0 (hf := rfl)
 case first =>
  go_wp2
  go_step3
  simp only [Exit.then, Exit.inBlock, Exit.jump]
  exact ⟨rfl, rfl, rfl⟩
 case pass =>
  go_wp2
  try rw [Exit.noGoto_ret]
  go_ret2
  exact ⟨rfl, rfl⟩
set_option maxHeartbeats 4000000 in
set_option maxRecDepth 100000 in
theorem uvF2 (w : World) (b off : Nat) (x0 x1 : UInt8) (c0 : w.cell? ⟨b, off, none⟩ = some (.int .u8 x0.toNat)) (c1 : w.cell? ⟨b, off + 1, none⟩ = some (.int .u8 x1.toNat)) (cap : Nat) (h0 : (bits BinOp.and IntKind.u8 (x0.toNat : Int) 128 == 0) = false) (h1 : (bits BinOp.and IntKind.u8 (x1.toNat : Int) 128 == 0) = false) : Calls Tryd.prog 105 #[.slice (some ⟨b, off, none⟩) 2 cap] w fun e w' => e = .returned (.tuple #[.int .u32 (0), .int .i64 (0)]) /\ w = w' := by
 go_enter Tryd.func105, Tryd.ntmps105
 go_wp2
 apply wp_scope_jump1 0 (hf := rfl)
 case first =>
  go_wp2
  go_step3
  simp only [Exit.then, Exit.inBlock, Exit.jump]
  exact ⟨rfl, rfl, rfl⟩
 case pass =>
  go_wp2
  try rw [Exit.noGoto_ret]
  go_ret2
  exact ⟨rfl, rfl⟩
set_option maxHeartbeats 4000000 in
set_option maxRecDepth 100000 in
theorem uvF3 (w : World) (b off : Nat) (x0 x1 x2 : UInt8) (c0 : w.cell? ⟨b, off, none⟩ = some (.int .u8 x0.toNat)) (c1 : w.cell? ⟨b, off + 1, none⟩ = some (.int .u8 x1.toNat)) (c2 : w.cell? ⟨b, off + 2, none⟩ = some (.int .u8 x2.toNat)) (cap : Nat) (h0 : (bits BinOp.and IntKind.u8 (x0.toNat : Int) 128 == 0) = false) (h1 : (bits BinOp.and IntKind.u8 (x1.toNat : Int) 128 == 0) = false) (h2 : (bits BinOp.and IntKind.u8 (x2.toNat : Int) 128 == 0) = false) : Calls Tryd.prog 105 #[.slice (some ⟨b, off, none⟩) 3 cap] w fun e w' => e = .returned (.tuple #[.int .u32 (0), .int .i64 (0)]) /\ w = w' := by
 go_enter Tryd.func105, Tryd.ntmps105
 go_wp2
 apply wp_scope_jump1 0 (hf := rfl)
 case first =>
  go_wp2
  go_step3
  simp only [Exit.then, Exit.inBlock, Exit.jump]
  exact ⟨rfl, rfl, rfl⟩
 case pass =>
  go_wp2
  try rw [Exit.noGoto_ret]
  go_ret2
  exact ⟨rfl, rfl⟩
set_option maxHeartbeats 4000000 in
set_option maxRecDepth 100000 in
theorem uvF4 (w : World) (b off : Nat) (x0 x1 x2 x3 : UInt8) (c0 : w.cell? ⟨b, off, none⟩ = some (.int .u8 x0.toNat)) (c1 : w.cell? ⟨b, off + 1, none⟩ = some (.int .u8 x1.toNat)) (c2 : w.cell? ⟨b, off + 2, none⟩ = some (.int .u8 x2.toNat)) (c3 : w.cell? ⟨b, off + 3, none⟩ = some (.int .u8 x3.toNat)) (cap : Nat) (h0 : (bits BinOp.and IntKind.u8 (x0.toNat : Int) 128 == 0) = false) (h1 : (bits BinOp.and IntKind.u8 (x1.toNat : Int) 128 == 0) = false) (h2 : (bits BinOp.and IntKind.u8 (x2.toNat : Int) 128 == 0) = false) (h3 : (bits BinOp.and IntKind.u8 (x3.toNat : Int) 128 == 0) = false) : Calls Tryd.prog 105 #[.slice (some ⟨b, off, none⟩) 4 cap] w fun e w' => e = .returned (.tuple #[.int .u32 (0), .int .i64 (0)]) /\ w = w' := by
 go_enter Tryd.func105, Tryd.ntmps105
 go_wp2
 apply wp_scope_jump1 0 (hf := rfl)
 case first =>
  go_wp2
  go_step3
  simp only [Exit.then, Exit.inBlock, Exit.jump]
  exact ⟨rfl, rfl, rfl⟩
 case pass =>
  go_wp2
  try rw [Exit.noGoto_ret]
  go_ret2
  exact ⟨rfl, rfl⟩
set_option maxHeartbeats 4000000 in
set_option maxRecDepth 100000 in
theorem uvS1 (w : World) (b off : Nat) (x0 : UInt8) (c0 : w.cell? ⟨b, off, none⟩ = some (.int .u8 x0.toNat)) (n cap : Nat) (hn : 1 <= (n : Int)) (h0 : (bits BinOp.and IntKind.u8 (x0.toNat : Int) 128 == 0) = true) : Calls Tryd.prog 105 #[.slice (some ⟨b, off, none⟩) n cap] w fun e w' => e = .returned (.tuple #[.int .u32 (uv1 x0), .int .i64 (1)]) /\ w = w' := by
 have i0 : 0 < n := by omega
 go_enter Tryd.func105, Tryd.ntmps105
 go_wp2
 go_step3
 go_wp2
 rw [Exit.noGoto_ret]
 go_ret2
 exact ⟨rfl, rfl⟩
set_option maxHeartbeats 4000000 in
set_option maxRecDepth 100000 in
theorem uvS2 (w : World) (b off : Nat) (x0 x1 : UInt8) (c0 : w.cell? ⟨b, off, none⟩ = some (.int .u8 x0.toNat)) (c1 : w.cell? ⟨b, off + 1, none⟩ = some (.int .u8 x1.toNat)) (n cap : Nat) (hn : 2 <= (n : Int)) (h0 : (bits BinOp.and IntKind.u8 (x0.toNat : Int) 128 == 0) = false) (h1 : (bits BinOp.and IntKind.u8 (x1.toNat : Int) 128 == 0) = true) : Calls Tryd.prog 105 #[.slice (some ⟨b, off, none⟩) n cap] w fun e w' => e = .returned (.tuple #[.int .u32 (uv2 x0 x1), .int .i64 (2)]) /\ w = w' := by
 have i0 : 0 < n := by omega
 have i1 : (1 : Int) < n := by omega
 go_enter Tryd.func105, Tryd.ntmps105
 go_wp2
 go_step3
 go_wp2
 rw [Exit.noGoto_ret]
 go_ret2
 exact ⟨rfl, rfl⟩
set_option maxHeartbeats 4000000 in
set_option maxRecDepth 100000 in
theorem uvS3 (w : World) (b off : Nat) (x0 x1 x2 : UInt8) (c0 : w.cell? ⟨b, off, none⟩ = some (.int .u8 x0.toNat)) (c1 : w.cell? ⟨b, off + 1, none⟩ = some (.int .u8 x1.toNat)) (c2 : w.cell? ⟨b, off + 2, none⟩ = some (.int .u8 x2.toNat)) (n cap : Nat) (hn : 3 <= (n : Int)) (h0 : (bits BinOp.and IntKind.u8 (x0.toNat : Int) 128 == 0) = false) (h1 : (bits BinOp.and IntKind.u8 (x1.toNat : Int) 128 == 0) = false) (h2 : (bits BinOp.and IntKind.u8 (x2.toNat : Int) 128 == 0) = true) : Calls Tryd.prog 105 #[.slice (some ⟨b, off, none⟩) n cap] w fun e w' => e = .returned (.tuple #[.int .u32 (uv3 x0 x1 x2), .int .i64 (3)]) /\ w = w' := by
 have i0 : 0 < n := by omega
 have i1 : (1 : Int) < n := by omega
 have i2 : (2 : Int) < n := by omega
 go_enter Tryd.func105, Tryd.ntmps105
 go_wp2
 go_step3
 go_wp2
 rw [Exit.noGoto_ret]
 go_ret2
 exact ⟨rfl, rfl⟩
set_option maxHeartbeats 4000000 in
set_option maxRecDepth 100000 in
theorem uvS4 (w : World) (b off : Nat) (x0 x1 x2 x3 : UInt8) (c0 : w.cell? ⟨b, off, none⟩ = some (.int .u8 x0.toNat)) (c1 : w.cell? ⟨b, off + 1, none⟩ = some (.int .u8 x1.toNat)) (c2 : w.cell? ⟨b, off + 2, none⟩ = some (.int .u8 x2.toNat)) (c3 : w.cell? ⟨b, off + 3, none⟩ = some (.int .u8 x3.toNat)) (n cap : Nat) (hn : 4 <= (n : Int)) (h0 : (bits BinOp.and IntKind.u8 (x0.toNat : Int) 128 == 0) = false) (h1 : (bits BinOp.and IntKind.u8 (x1.toNat : Int) 128 == 0) = false) (h2 : (bits BinOp.and IntKind.u8 (x2.toNat : Int) 128 == 0) = false) (h3 : (bits BinOp.and IntKind.u8 (x3.toNat : Int) 128 == 0) = true) : Calls Tryd.prog 105 #[.slice (some ⟨b, off, none⟩) n cap] w fun e w' => e = .returned (.tuple #[.int .u32 (uv4 x0 x1 x2 x3), .int .i64 (4)]) /\ w = w' := by
 have i0 : 0 < n := by omega
 have i1 : (1 : Int) < n := by omega
 have i2 : (2 : Int) < n := by omega
 have i3 : (3 : Int) < n := by omega
 go_enter Tryd.func105, Tryd.ntmps105
 go_wp2
 go_step3
 go_wp2
 rw [Exit.noGoto_ret]
 go_ret2
 exact ⟨rfl, rfl⟩
set_option maxHeartbeats 4000000 in
set_option maxRecDepth 100000 in
theorem uvS5 (w : World) (b off : Nat) (x0 x1 x2 x3 x4 : UInt8) (c0 : w.cell? ⟨b, off, none⟩ = some (.int .u8 x0.toNat)) (c1 : w.cell? ⟨b, off + 1, none⟩ = some (.int .u8 x1.toNat)) (c2 : w.cell? ⟨b, off + 2, none⟩ = some (.int .u8 x2.toNat)) (c3 : w.cell? ⟨b, off + 3, none⟩ = some (.int .u8 x3.toNat)) (c4 : w.cell? ⟨b, off + 4, none⟩ = some (.int .u8 x4.toNat)) (n cap : Nat) (hn : 5 <= (n : Int)) (h0 : (bits BinOp.and IntKind.u8 (x0.toNat : Int) 128 == 0) = false) (h1 : (bits BinOp.and IntKind.u8 (x1.toNat : Int) 128 == 0) = false) (h2 : (bits BinOp.and IntKind.u8 (x2.toNat : Int) 128 == 0) = false) (h3 : (bits BinOp.and IntKind.u8 (x3.toNat : Int) 128 == 0) = false) (h4 : (x4.toNat : Int) <= 15) : Calls Tryd.prog 105 #[.slice (some ⟨b, off, none⟩) n cap] w fun e w' => e = .returned (.tuple #[.int .u32 (uv5 x0 x1 x2 x3 x4), .int .i64 (5)]) /\ w = w' := by
 have i0 : 0 < n := by omega
 have i1 : (1 : Int) < n := by omega
 have i2 : (2 : Int) < n := by omega
 have i3 : (3 : Int) < n := by omega
 have i4 : (4 : Int) < n := by omega
 go_enter Tryd.func105, Tryd.ntmps105
 go_wp2
 go_step3
 go_wp2
 rw [Exit.noGoto_ret]
 go_ret2
 exact ⟨rfl, rfl⟩
set_option maxHeartbeats 4000000 in
set_option maxRecDepth 100000 in
theorem uvF5 (w : World) (b off : Nat) (x0 x1 x2 x3 x4 : UInt8) (c0 : w.cell? ⟨b, off, none⟩ = some (.int .u8 x0.toNat)) (c1 : w.cell? ⟨b, off + 1, none⟩ = some (.int .u8 x1.toNat)) (c2 : w.cell? ⟨b, off + 2, none⟩ = some (.int .u8 x2.toNat)) (c3 : w.cell? ⟨b, off + 3, none⟩ = some (.int .u8 x3.toNat)) (c4 : w.cell? ⟨b, off + 4, none⟩ = some (.int .u8 x4.toNat)) (n cap : Nat) (hn : 5 <= (n : Int)) (h0 : (bits BinOp.and IntKind.u8 (x0.toNat : Int) 128 == 0) = false) (h1 : (bits BinOp.and IntKind.u8 (x1.toNat : Int) 128 == 0) = false) (h2 : (bits BinOp.and IntKind.u8 (x2.toNat : Int) 128 == 0) = false) (h3 : (bits BinOp.and IntKind.u8 (x3.toNat : Int) 128 == 0) = false) (h4 : 15 < (x4.toNat : Int)) : Calls Tryd.prog 105 #[.slice (some ⟨b, off, none⟩) n cap] w fun e w' => e = .returned (.tuple #[.int .u32 (0), .int .i64 (-5)]) /\ w = w' := by
 have i0 : 0 < n := by omega
 have i1 : (1 : Int) < n := by omega
 have i2 : (2 : Int) < n := by omega
 have i3 : (3 : Int) < n := by omega
 have i4 : (4 : Int) < n := by omega
 have h5 : ¬ (x4.toNat : Int) <= 15 := by omega
 go_enter Tryd.func105, Tryd.ntmps105
 go_wp2
 go_step3
 go_wp2
 go_step3
 go_wp2
 rw [Exit.noGoto_ret]
 go_ret2
 exact ⟨rfl, rfl⟩
theorem lo7_eq (x : UInt8) : lo7 x = (x.toNat : Int) % 128 := by
 have h := x.toNat_lt
 unfold lo7
 rw [u8_and127 _ (by omega) (by omega)]
 omega
theorem u32_orv (i : Nat) (y x : Int) (hi : i <= 32) (hy₀ : 0 <= y) (hy : y < 2 ^ i) (hy₁ : y < 4294967296) (hx₀ : 0 <= x) (hx : x % 2 ^ i = 0) (hx₁ : x < 4294967296) : bits .or .u32 y x = y + x :=
 bits_join_low .u32 32 (by decide) wraps_u32 i y x hy₀ hy hy₁ hx₀ hx hx₁
theorem uv1_eq (x0 : UInt8) : uv1 x0 = x0.toNat % 128 := lo7_eq x0
theorem uv2_eq (x0 x1 : UInt8) : uv2 x0 x1 = x0.toNat % 128 + (x1.toNat : Int) % 128 * 128 := by
 unfold uv2
 rw [uv1_eq, lo7_eq, u32_orv 7 _ _ (by omega) (by omega) (by omega) (by omega) (by omega) (by omega) (by omega)]
 omega
theorem uv3_eq (x0 x1 x2 : UInt8) : uv3 x0 x1 x2 = x0.toNat % 128 + (x1.toNat : Int) % 128 * 128 + (x2.toNat : Int) % 128 * 16384 := by
 unfold uv3
 rw [uv2_eq, lo7_eq, u32_orv 14 _ _ (by omega) (by omega) (by omega) (by omega) (by omega) (by omega) (by omega)]
 omega
theorem uv4_eq (x0 x1 x2 x3 : UInt8) : uv4 x0 x1 x2 x3 = x0.toNat % 128 + (x1.toNat : Int) % 128 * 128 + (x2.toNat : Int) % 128 * 16384 + (x3.toNat : Int) % 128 * 2097152 := by
 unfold uv4
 rw [uv3_eq, lo7_eq, u32_orv 21 _ _ (by omega) (by omega) (by omega) (by omega) (by omega) (by omega) (by omega)]
 omega
theorem uv5_eq (x0 x1 x2 x3 x4 : UInt8) (h : (x4.toNat : Int) <= 15) : uv5 x0 x1 x2 x3 x4 = x0.toNat % 128 + (x1.toNat : Int) % 128 * 128 + (x2.toNat : Int) % 128 * 16384 + (x3.toNat : Int) % 128 * 2097152 + (x4.toNat : Int) * 268435456 := by
 unfold uv5
 rw [uv4_eq, u32_orv 28 _ _ (by omega) (by omega) (by omega) (by omega) (by omega) (by omega) (by omega)]
theorem uv_any {w : World} {v : Value} {sb : Nat} {bs : List UInt8} {nil : Bool} (h : Src w v sb bs nil) : Calls Tryd.prog 105 #[v] w fun e w' =>
  e = .returned (.tuple #[.int .u32 (uvDec bs).1, .int .i64 (uvDec bs).2]) /\ w = w' := by
 rcases h with ⟨_, rfl, rfl⟩ | ⟨_, off, cap, c, t, fr, rfl, _, _, h5, h6⟩
 ·exact uvF0 w 0 none
 have hc : ∀ i (hi : i < bs.length), w.cell? ⟨sb, off + i, none⟩ = some (.int .u8 (bs[i]).toNat) := fun i hi => by rw [Zc h5]; exact h6 i hi
 clear h5 h6
 rcases bs with _ | ⟨x0, r0⟩
 ·simp only [uvDec]; exact uvF0 w  cap (some ⟨sb, off, none⟩)
 have c0 := hc 0 (by simp)
 simp only [Nat.add_zero, List.getElem_cons_zero, List.getElem_cons_succ] at c0
 by_cases e0 : hi7 x0 = 0
 ·simp only [uvDec, if_pos e0]
  exact uvS1 w sb off x0 c0 _ cap (by simp <;> omega) (by rw [beq_iff_eq]; exact e0)
 have e0' : (bits BinOp.and IntKind.u8 (x0.toNat : Int) 128 == 0) = false := by rw [beq_eq_false_iff_ne]; exact e0
 rcases r0 with _ | ⟨x1, r1⟩
 ·simp only [uvDec, if_neg e0]; exact uvF1 w sb off x0 c0 cap e0'
 have c1 := hc 1 (by simp)
 simp only [Nat.add_zero, List.getElem_cons_zero, List.getElem_cons_succ] at c1
 by_cases e1 : hi7 x1 = 0
 ·simp only [uvDec, if_neg e0, if_pos e1]
  exact uvS2 w sb off x0 x1 c0 c1 _ cap (by simp <;> omega) e0' (by rw [beq_iff_eq]; exact e1)
 have e1' : (bits BinOp.and IntKind.u8 (x1.toNat : Int) 128 == 0) = false := by rw [beq_eq_false_iff_ne]; exact e1
 rcases r1 with _ | ⟨x2, r2⟩
 ·simp only [uvDec, if_neg e0, if_neg e1]; exact uvF2 w sb off x0 x1 c0 c1 cap e0' e1'
 have c2 := hc 2 (by simp)
 simp only [Nat.add_zero, List.getElem_cons_zero, List.getElem_cons_succ] at c2
 by_cases e2 : hi7 x2 = 0
 ·simp only [uvDec, if_neg e0, if_neg e1, if_pos e2]
  exact uvS3 w sb off x0 x1 x2 c0 c1 c2 _ cap (by simp <;> omega) e0' e1' (by rw [beq_iff_eq]; exact e2)
 have e2' : (bits BinOp.and IntKind.u8 (x2.toNat : Int) 128 == 0) = false := by rw [beq_eq_false_iff_ne]; exact e2
 rcases r2 with _ | ⟨x3, r3⟩
 ·simp only [uvDec, if_neg e0, if_neg e1, if_neg e2]; exact uvF3 w sb off x0 x1 x2 c0 c1 c2 cap e0' e1' e2'
 have c3 := hc 3 (by simp)
 simp only [Nat.add_zero, List.getElem_cons_zero, List.getElem_cons_succ] at c3
 by_cases e3 : hi7 x3 = 0
 ·simp only [uvDec, if_neg e0, if_neg e1, if_neg e2, if_pos e3]
  exact uvS4 w sb off x0 x1 x2 x3 c0 c1 c2 c3 _ cap (by simp <;> omega) e0' e1' e2' (by rw [beq_iff_eq]; exact e3)
 have e3' : (bits BinOp.and IntKind.u8 (x3.toNat : Int) 128 == 0) = false := by rw [beq_eq_false_iff_ne]; exact e3
 rcases r3 with _ | ⟨x4, r4⟩
 ·simp only [uvDec, if_neg e0, if_neg e1, if_neg e2, if_neg e3]; exact uvF4 w sb off x0 x1 x2 x3 c0 c1 c2 c3 cap e0' e1' e2' e3'
 have c4 := hc 4 (by simp)
 simp only [Nat.add_zero, List.getElem_cons_zero, List.getElem_cons_succ] at c4
 by_cases e4 : (x4.toNat : Int) <= 15
 ·simp only [uvDec, if_neg e0, if_neg e1, if_neg e2, if_neg e3, if_pos e4]
  exact uvS5 w sb off x0 x1 x2 x3 x4 c0 c1 c2 c3 c4 _ cap (by simp <;> omega) e0' e1' e2' e3' e4
 ·simp only [uvDec, if_neg e0, if_neg e1, if_neg e2, if_neg e3, if_neg e4]
  exact uvF5 w sb off x0 x1 x2 x3 x4 c0 c1 c2 c3 c4 _ cap (by simp <;> omega) e0' e1' e2' e3' (by omega)
theorem uvDec_in (bs : List UInt8) : 0 <= (uvDec bs).1 /\ (uvDec bs).1 < 4294967296 /\ (uvDec bs).2 <= bs.length /\ ((uvDec bs).2 <= 0 \/ (0 < (uvDec bs).2 /\ (uvDec bs).2 <= 5)) := by
 rcases bs with _ | ⟨x0, r0⟩
 ·simp only [uvDec]; simp <;> omega
 by_cases e0 : hi7 x0 = 0
 ·simp only [uvDec, if_pos e0]; refine ⟨?_, ?_, by simp <;> omega, Or.inr ⟨by omega, by omega⟩⟩ <;> (rw [uv1_eq]; omega)
 rcases r0 with _ | ⟨x1, r1⟩
 ·simp only [uvDec, if_neg e0]; simp <;> omega
 by_cases e1 : hi7 x1 = 0
 ·simp only [uvDec, if_neg e0, if_pos e1]; refine ⟨?_, ?_, by simp <;> omega, Or.inr ⟨by omega, by omega⟩⟩ <;> (rw [uv2_eq]; omega)
 rcases r1 with _ | ⟨x2, r2⟩
 ·simp only [uvDec, if_neg e0, if_neg e1]; simp <;> omega
 by_cases e2 : hi7 x2 = 0
 ·simp only [uvDec, if_neg e0, if_neg e1, if_pos e2]; refine ⟨?_, ?_, by simp <;> omega, Or.inr ⟨by omega, by omega⟩⟩ <;> (rw [uv3_eq]; omega)
 rcases r2 with _ | ⟨x3, r3⟩
 ·simp only [uvDec, if_neg e0, if_neg e1, if_neg e2]; simp <;> omega
 by_cases e3 : hi7 x3 = 0
 ·simp only [uvDec, if_neg e0, if_neg e1, if_neg e2, if_pos e3]; refine ⟨?_, ?_, by simp <;> omega, Or.inr ⟨by omega, by omega⟩⟩ <;> (rw [uv4_eq]; omega)
 rcases r3 with _ | ⟨x4, r4⟩
 ·simp only [uvDec, if_neg e0, if_neg e1, if_neg e2, if_neg e3]; simp <;> omega
 by_cases e4 : (x4.toNat : Int) <= 15
 ·simp only [uvDec, if_neg e0, if_neg e1, if_neg e2, if_neg e3, if_pos e4]; refine ⟨?_, ?_, by simp <;> omega, Or.inr ⟨by omega, by omega⟩⟩ <;> (rw [uv5_eq _ _ _ _ _ e4]; omega)
 ·simp only [uvDec, if_neg e0, if_neg e1, if_neg e2, if_neg e3, if_neg e4]; simp <;> omega
/-- a number in groups of seven bits -/
def rdUvarint (s : RS) : Int × RS := if (uvDec s.bs).2 <= 0 then (0, RS.fail) else ((uvDec s.bs).1, s.skip (uvDec s.bs).2.toNat)
theorem rdUvarint_in (s : RS) : 0 <= (rdUvarint s).1 /\ (rdUvarint s).1 < 4294967296 := by
 have h := uvDec_in s.bs
 unfold rdUvarint
 split
 ·simp
 ·exact ⟨h.1, h.2.1⟩
set_option maxHeartbeats 4000000 in
set_option maxRecDepth 100000 in
theorem rd_Uvarint {w : World} {rb sb : Nat} {s : RS} (h : Rd w rb sb s) : Calls Tryd.prog 71 #[.pointer (some ⟨rb, 0, none⟩)] w fun e w' =>
  e = .returned (.int .u32 (rdUvarint s).1) /\ Rd w' rb sb (rdUvarint s).2 /\ Mod (only rb) w w' := by
 have hin := uvDec_in s.bs
 by_cases hd : (uvDec s.bs).2 <= 0
 ·have e : rdUvarint s = (0, RS.fail) := if_pos hd
  rw [e]
  obtain ⟨hl, hn, src, t, hb, hs⟩ := h
  have U := Lib.hid (uv_any hs)
  have K : Hid _ := fun W hm => Rd.fail (s := s) (W := W) ⟨hl, hn, src, t, hb, hs⟩ hm
  have h0 : w.cell? ⟨rb, 0, none⟩ = some src := Zc hb
  have h1 : w.cell? ⟨rb, 1, none⟩ = some (.bool s.bad) := Zc hb
  have f0 : w.frozen? ⟨rb, 0, none⟩ = false := Zz hb
  have f1 : w.frozen? ⟨rb, 1, none⟩ = false := Zz hb
  clear e hb hs
  go_enter Tryd.func71, Tryd.ntmps71
  go_wp2_with (go_at_call 105; refine U.out.mono ?_; rintro e w' ⟨rfl, rfl⟩)
  go_ret
  exact ⟨rfl, K.out _ (Mod.refl _)⟩
 ·have e : rdUvarint s = ((uvDec s.bs).1, s.skip (uvDec s.bs).2.toNat) := if_neg hd
  rw [e]
  have hp : 0 < (uvDec s.bs).2 := by omega
  obtain ⟨off, cap, n, hnl, hn, hl, hb, hc, hm, h0, f0, hcs, K⟩ := h.long 0 (by omega)
  have U : Hid (Calls Tryd.prog 105 #[.slice (some ⟨sb, off, none⟩) n cap] w fun e w' => e = .returned (.tuple #[.int .u32 (uvDec s.bs).1, .int .i64 (uvDec s.bs).2]) /\ w = w') := by
   obtain ⟨hl, hn', src, t, hb, hs⟩ := h
   have : src = .slice (some ⟨sb, off, none⟩) n cap := by have := (Zc (i := 0) hb).symm.trans h0; simpa using this
   rw [<- this]
   exact uv_any hs
  unfold RS.skip
  clear h e hcs hnl
  generalize hk : (uvDec s.bs).2 = k at *
  have hk' : k.toNat <= n := by omega
  have hk2 : k <= (n : Int) := by omega
  have hk3 : 0 <= k := by omega
  generalize (uvDec s.bs).1 = v at *
  clear hin hk hn
  have hd' : decide (k <= 0) = false := by simpa using hd
  go_enter Tryd.func71, Tryd.ntmps71
  go_wp2_with (go_at_call 105; refine U.out.mono ?_; rintro e w' ⟨rfl, rfl⟩)
  all_goals go_ret
  all_goals exact ⟨rfl, K.out _ _ (Mod.refl _) _ _ (by omega) (by omega) (by omega)⟩
end Go.Proofs.YtcldbjehliladaaDoor
set_option linter.unusedSimpArgs false
set_option linter.unusedVariables false
namespace Go.Proofs.YtcldbjehliladaaDoor
open Go Go.RowKit
theorem fin3 {A A' B C : Prop} (h : A /\ B /\ C) (f : A -> A') : A' /\ B /\ C := ⟨f h.1, h.2⟩
def rdSpan (l : Int) (s : RS) : (List UInt8 × Bool) × RS := if (s.bs.length : Int) < l \/ l < 0 then (([], true), RS.fail) else ((s.bs.take l.toNat, s.nil), s.skip l.toNat)
theorem Src.take {w W : World} {sb off n cap : Nat} {bs : List UInt8} (hm : Mod none' w W) (hl : ∃ c t fr, w.heap[sb]? = some (.cells c t fr))
  (h : ∀ i (hi : i < bs.length), w.cell? ⟨sb, off + i, none⟩ = some (.int .u8 (bs[i]).toNat)) (hn : n <= bs.length) (hcap : n <= cap) (hmx : cap <= maxLen) :
  Src W (.slice (some ⟨sb, off, none⟩) n cap) sb (bs.take n) false := by
 obtain ⟨c, t, fr, hb⟩ := hl
 refine Src.mk (by simp; omega) hcap hmx ⟨c, t, fr, hm.some hb (fun f => f)⟩ fun i hi => ?_
 simp only [List.length_take] at hi
 have := h i (by omega)
 rw [Zc hb] at this
 rw [Zc (hm.some hb (fun f => f)), List.getElem_take]
 exact this
theorem Src.live {w : World} {v : Value} {sb : Nat} {bs : List UInt8} (h : Src w v sb bs false) : ∃ c t fr, w.heap[sb]? = some (.cells c t fr) := by
 rcases h with ⟨h, _⟩ | ⟨_, _, _, c, t, fr, _, _, _, h, _⟩
 ·cases h
 ·exact ⟨c, t, fr, h⟩
set_option maxHeartbeats 4000000 in
set_option maxRecDepth 100000 in
theorem rd_Span {w : World} {rb sb : Nat} {s : RS} (l : Int) (h : Rd w rb sb s) : Calls Tryd.prog 73 #[.pointer (some ⟨rb, 0, none⟩), .int .i64 l] w fun e w' =>
  (∃ v, e = .returned v /\ Src w' v sb (rdSpan l s).1.1 (rdSpan l s).1.2) /\ Rd w' rb sb (rdSpan l s).2 /\ Mod (only rb) w w' := by
 by_cases hs : (s.bs.length : Int) < l \/ l < 0
 ·have e : rdSpan l s = (([], true), RS.fail) := if_pos hs
  rw [e]
  obtain ⟨ao, cap, hl, hc, h0, h1, f0, f1, K⟩ := h.short
  clear e h
  by_cases h2 : (s.bs.length : Int) < l
  ·clear hs
   go_enter Tryd.func73, Tryd.ntmps73
   go_wp2
   go_ret
   exact ⟨⟨_, rfl, .inl ⟨rfl, rfl, rfl⟩⟩, K.out _ (Mod.refl _)⟩
  ·have h3 : l < 0 := by omega
   have h2' : l <= (s.bs.length : Int) := by omega
   clear hs h2
   go_enter Tryd.func73, Tryd.ntmps73
   go_wp2
   go_ret
   exact ⟨⟨_, rfl, .inl ⟨rfl, rfl, rfl⟩⟩, K.out _ (Mod.refl _)⟩
 ·have e : rdSpan l s = ((s.bs.take l.toNat, s.nil), s.skip l.toNat) := if_neg hs
  rw [e]
  have g1 : 0 <= l := by omega
  have g2 : l <= (s.bs.length : Int) := by omega
  have g3 : ¬ (s.bs.length : Int) < l := by omega
  clear e hs
  unfold RS.skip
  simp only []
  have hh := h
  obtain ⟨hl, hn, src, t, hb, hs⟩ := hh
  have h0 : w.cell? ⟨rb, 0, none⟩ = some src := Zc hb
  have f0 : w.frozen? ⟨rb, 0, none⟩ = false := Zz hb
  rcases hs with ⟨n1, rfl, n3⟩ | ⟨n1, off, cap, c, t', fr, rfl, n4, n5, n6, n7⟩
  ·rw [n3] at g2 g3
   have hl0 : l = 0 := by simp at g2; omega
   subst hl0
   have K := Lib.hid (h.put (Mod.refl w) (v := .slice none 0 0) (bs := []) (nil := true) (.inl ⟨rfl, rfl, rfl⟩))
   rw [n3, n1]
   clear n3 n1 h hb
   go_enter Tryd.func73, Tryd.ntmps73
   go_wp2
   go_ret
   exact ⟨⟨_, rfl, .inl ⟨rfl, rfl, rfl⟩⟩, K.out⟩
  ·have hcs : ∀ i (hi : i < s.bs.length), w.cell? ⟨sb, off + i, none⟩ = some (.int .u8 (s.bs[i]).toNat) := fun i hi => by rw [Zc n6]; exact n7 i hi
   have hlive : ∃ c t fr, w.heap[sb]? = some (.cells c t fr) := ⟨c, t', fr, n6⟩
   have K : Hid (∀ off' cap', (off' = off + l.toNat \/ s.bs.length = l.toNat) -> s.bs.length - l.toNat <= cap' -> cap' <= 9223372036854775807 ->
     Src (w.setCell ⟨rb, 0, none⟩ (.slice (some ⟨sb, off', none⟩) (s.bs.length - l.toNat) cap')) (.slice (some ⟨sb, off, none⟩) l.toNat l.toNat) sb (s.bs.take l.toNat) s.nil /\ Rd (w.setCell ⟨rb, 0, none⟩ (.slice (some ⟨sb, off', none⟩) (s.bs.length - l.toNat) cap')) rb sb ⟨s.bs.drop l.toNat, s.nil, s.bad⟩ /\
     Mod (only rb) w (w.setCell ⟨rb, 0, none⟩ (.slice (some ⟨sb, off', none⟩) (s.bs.length - l.toNat) cap'))) := by
    intro off' cap' ho hc hx
    rw [n1]
    have P := h.put (Mod.refl w) (Src.drop (Mod.refl w) hlive hcs ho hc hx)
    exact ⟨(Src.take (Mod.refl w) hlive hcs (by omega) (Nat.le_refl _) (by unfold maxLen at *; omega)).mod P.2 (fun e => hn e.symm), P⟩
   have n5' : cap <= 9223372036854775807 := n5
   clear hcs hlive n6 n7 n1 h hb
   generalize hq : s.bs.length = n at *
   have hk' : l.toNat <= n := by omega
   clear hq
   go_enter Tryd.func73, Tryd.ntmps73
   go_wp2
   all_goals go_ret
   all_goals exact fin3 (K.out _ _ (by omega) (by omega) (by omega)) (fun h => ⟨_, rfl, h⟩)
/-- a string of the octets -/
def str (bs : List UInt8) : ByteArray := ⟨bs.toArray⟩
theorem str_size (bs : List UInt8) : (str bs).size = bs.length := rfl
theorem conv_src {w : World} {v : Value} {sb : Nat} {bs : List UInt8} {nil : Bool} (h : Src w v sb bs nil) : (convert 22 9 v).run Tryd.prog w = .ok (.string (str bs)) w := by
 rcases h with ⟨_, rfl, rfl⟩ | ⟨_, off, cap, c, t, fr, rfl, h3, h4, h5, h6⟩
 ·exact run_convert_bytes_nil w _ 5 Tryd.underlying22 Tryd.underlying5 _ _ _ Tryd.underlying9
 ·have := run_convert_bytes_arg w 22 5 Tryd.underlying22 Tryd.underlying5 sb off bs.length cap (bs.map fun x => (x.toNat : Int)) (by simp)
   (fun i hi => by rw [Zc h5, h6 i hi]; simp [hi]) _ Tryd.underlying9
  rw [this]
  simp [strOfNums, str, Function.comp_def]
/-- a pointer to a text, in a block of F; or none -/
def PStr (w : World) (F : Nat -> Prop) (v : Value) : Option (List UInt8) -> Prop
 | none => v = .pointer none
 | some bs => ∃ k t, F k /\ v = .pointer (some ⟨k, 0, none⟩) /\ w.heap[k]? = some (.cells #[.string (str bs)] t (0, 0))
/-- octets in a block of F, or nil, or none of any address -/
def Oct (w : World) (F : Nat -> Prop) (v : Value) (bs : List UInt8) (nil : Bool) : Prop := (∃ sb, (nil = true \/ F sb) /\ Src w v sb bs nil) \/ (bs = [] /\ ∃ ao cap, v = .slice ao 0 cap /\ nil = ao.isNone)
abbrev From (w : World) : Nat -> Prop := fun k => w.heap.size <= k
theorem rdInt16_in (s : RS) : -32768 <= (rdInt16 s).1 /\ (rdInt16 s).1 <= 32767 := by
 unfold rdInt16
 split
 ·simp only [IntKind.wrap, IntKind.bits, IntKind.signed]
  generalize be16 _ _ = x
  simp
  split <;> omega
 ·simp
theorem rdInt32_in (s : RS) : -2147483648 <= (rdInt32 s).1 /\ (rdInt32 s).1 <= 2147483647 := by
 unfold rdInt32
 split
 ·simp only [wrap32]
  generalize be32 _ _ _ _ = x
  omega
 ·simp
def rdStr (s : RS) : List UInt8 × RS := ((rdSpan (rdInt16 s).1 (rdInt16 s).2).1.1, (rdSpan (rdInt16 s).1 (rdInt16 s).2).2)
def rdCStr (s : RS) : List UInt8 × RS := ((rdSpan ((rdUvarint s).1 - 1) (rdUvarint s).2).1.1, (rdSpan ((rdUvarint s).1 - 1) (rdUvarint s).2).2)
def rdNStr (s : RS) : Option (List UInt8) × RS := if (rdInt16 s).1 < 0 then (none, (rdInt16 s).2) else (some (rdStr s).1, (rdStr s).2)
def rdCNStr (s : RS) : Option (List UInt8) × RS := if (rdUvarint s).1 - 1 < 0 then (none, (rdUvarint s).2) else (some (rdCStr s).1, (rdCStr s).2)
def lenOr (r : Int) (s : RS) : Int × RS := if (s.bs.length : Int) < r then (0, RS.fail) else (r, s)
def rdALen (s : RS) : Int × RS := lenOr (rdInt32 s).1 (rdInt32 s).2
def rdCALen (s : RS) : Int × RS := lenOr (wrap32 (wrap32 (rdUvarint s).1 - 1)) (rdUvarint s).2
theorem go_UnsafeString {w : World} {v : Value} {sb : Nat} {bs : List UInt8} {nil : Bool} (h : Src w v sb bs nil) : Calls Tryd.prog 97 #[v] w fun e w' => e = .returned (.string (str bs)) /\ w = w' := by
 have hc := conv_src h
 clear h
 go_enter Tryd.func97, Tryd.ntmps97
 go_wp2
 go_ret
 exact ⟨rfl, rfl⟩
set_option maxHeartbeats 4000000 in
set_option maxRecDepth 100000 in
theorem rd_String {w : World} {rb sb : Nat} {s : RS} (h : Rd w rb sb s) : Calls Tryd.prog 57 #[.pointer (some ⟨rb, 0, none⟩)] w fun e w' =>
  e = .returned (.string (str (rdStr s).1)) /\ Rd w' rb sb (rdStr s).2 /\ Mod (only rb) w w' := by
 have G := Lib.hid (rd_Int16 h)
 have hin := rdInt16_in s
 unfold rdStr
 generalize hr : rdInt16 s = r at *
 obtain ⟨l, s1⟩ := r
 simp only [] at *
 clear hr h
 have g1 := hin.1
 have g2 := hin.2
 clear hin
 go_enter Tryd.func57, Tryd.ntmps57
 go_wp2_with (first | (go_at_call 55; refine G.out.mono ?_; rintro e w1 ⟨rfl, h1, h2⟩) | (go_at_call 73; refine (rd_Span (l) h1).mono ?_; rintro e w2 ⟨⟨v, rfl, hv⟩, h3, h4⟩; have hc := conv_src hv))
 go_ret
 exact ⟨rfl, h3, h2.trans h4⟩
set_option maxHeartbeats 4000000 in
set_option maxRecDepth 100000 in
theorem rd_NullableString {w : World} {rb sb : Nat} {s : RS} (h : Rd w rb sb s) : Calls Tryd.prog 90 #[.pointer (some ⟨rb, 0, none⟩)] w fun e w' =>
  (∃ v, e = .returned v /\ PStr w' (From w) v (rdNStr s).1) /\ Rd w' rb sb (rdNStr s).2 /\ Mod (only rb) w w' := by
 have G := Lib.hid (rd_Int16 h)
 have hin := rdInt16_in s
 unfold rdNStr
 unfold rdStr
 generalize hr : rdInt16 s = r at *
 obtain ⟨l, s1⟩ := r
 simp only [] at *
 clear hr h
 have g1 := hin.1
 have g2 := hin.2
 clear hin
 by_cases hn : l < 0
 ·rw [if_pos hn]
  have hn' : decide (l < 0) = true := by simpa using hn
  go_enter Tryd.func90, Tryd.ntmps90
  go_wp2_with (first | (go_at_call 55; refine G.out.mono ?_; rintro e w1 ⟨rfl, h1, h2⟩) | (go_at_call 73; refine (rd_Span (l) h1).mono ?_; rintro e w2 ⟨⟨v, rfl, hv⟩, h3, h4⟩; have hc := conv_src hv))
  go_ret
  exact ⟨⟨_, rfl, rfl⟩, h1, h2⟩
 ·rw [if_neg hn]
  have hn' : decide (l < 0) = false := by simpa using hn
  have g4 : 0 <= l := by omega
  go_enter Tryd.func90, Tryd.ntmps90
  go_wp2_with (first | (go_at_call 55; refine G.out.mono ?_; rintro e w1 ⟨rfl, h1, h2⟩) | (go_at_call 73; refine (rd_Span (l) h1).mono ?_; rintro e w2 ⟨⟨v, rfl, hv⟩, h3, h4⟩; have hc := conv_src hv))
  go_ret
  have g6 : w.heap.size <= w2.heap.size := Nat.le_trans h2.size h4.size
  refine ⟨⟨_, rfl, w2.heap.size, 9, g6, rfl, Zh _ _⟩, h3.mod ((Mod.refl (S := none') w2).alloc _) (fun f => f) (fun f => f), (h2.trans h4).alloc _⟩
set_option maxHeartbeats 4000000 in
set_option maxRecDepth 100000 in
theorem rd_UnsafeString {w : World} {rb sb : Nat} {s : RS} (h : Rd w rb sb s) : Calls Tryd.prog 56 #[.pointer (some ⟨rb, 0, none⟩)] w fun e w' =>
  e = .returned (.string (str (rdStr s).1)) /\ Rd w' rb sb (rdStr s).2 /\ Mod (only rb) w w' := by
 have G := Lib.hid (rd_Int16 h)
 have hin := rdInt16_in s
 unfold rdStr
 generalize hr : rdInt16 s = r at *
 obtain ⟨l, s1⟩ := r
 simp only [] at *
 clear hr h
 have g1 := hin.1
 have g2 := hin.2
 clear hin
 go_enter Tryd.func56, Tryd.ntmps56
 go_wp2_with (first | (go_at_call 55; refine G.out.mono ?_; rintro e w1 ⟨rfl, h1, h2⟩) | (go_at_call 73; refine (rd_Span (l) h1).mono ?_; rintro e w2 ⟨⟨v, rfl, hv⟩, h3, h4⟩) | (go_at_call 97; refine (go_UnsafeString hv).mono ?_; rintro e w3 ⟨rfl, rfl⟩))
 go_ret
 exact ⟨rfl, h3, h2.trans h4⟩
set_option maxHeartbeats 4000000 in
set_option maxRecDepth 100000 in
theorem rd_UnsafeNullableString {w : World} {rb sb : Nat} {s : RS} (h : Rd w rb sb s) : Calls Tryd.prog 89 #[.pointer (some ⟨rb, 0, none⟩)] w fun e w' =>
  (∃ v, e = .returned v /\ PStr w' (From w) v (rdNStr s).1) /\ Rd w' rb sb (rdNStr s).2 /\ Mod (only rb) w w' := by
 have G := Lib.hid (rd_Int16 h)
 have hin := rdInt16_in s
 unfold rdNStr
 unfold rdStr
 generalize hr : rdInt16 s = r at *
 obtain ⟨l, s1⟩ := r
 simp only [] at *
 clear hr h
 have g1 := hin.1
 have g2 := hin.2
 clear hin
 by_cases hn : l < 0
 ·rw [if_pos hn]
  have hn' : decide (l < 0) = true := by simpa using hn
  go_enter Tryd.func89, Tryd.ntmps89
  go_wp2_with (first | (go_at_call 55; refine G.out.mono ?_; rintro e w1 ⟨rfl, h1, h2⟩) | (go_at_call 73; refine (rd_Span (l) h1).mono ?_; rintro e w2 ⟨⟨v, rfl, hv⟩, h3, h4⟩) | (go_at_call 97; refine (go_UnsafeString hv).mono ?_; rintro e w3 ⟨rfl, rfl⟩))
  go_ret
  exact ⟨⟨_, rfl, rfl⟩, h1, h2⟩
 ·rw [if_neg hn]
  have hn' : decide (l < 0) = false := by simpa using hn
  have g4 : 0 <= l := by omega
  go_enter Tryd.func89, Tryd.ntmps89
  go_wp2_with (first | (go_at_call 55; refine G.out.mono ?_; rintro e w1 ⟨rfl, h1, h2⟩) | (go_at_call 73; refine (rd_Span (l) h1).mono ?_; rintro e w2 ⟨⟨v, rfl, hv⟩, h3, h4⟩) | (go_at_call 97; refine (go_UnsafeString hv).mono ?_; rintro e w3 ⟨rfl, rfl⟩))
  go_ret
  have g6 : w.heap.size <= w2.heap.size := Nat.le_trans h2.size h4.size
  refine ⟨⟨_, rfl, w2.heap.size, 9, g6, rfl, Zh _ _⟩, h3.mod ((Mod.refl (S := none') w2).alloc _) (fun f => f) (fun f => f), (h2.trans h4).alloc _⟩
set_option maxHeartbeats 4000000 in
set_option maxRecDepth 100000 in
theorem rd_CompactString {w : World} {rb sb : Nat} {s : RS} (h : Rd w rb sb s) : Calls Tryd.prog 83 #[.pointer (some ⟨rb, 0, none⟩)] w fun e w' =>
  e = .returned (.string (str (rdCStr s).1)) /\ Rd w' rb sb (rdCStr s).2 /\ Mod (only rb) w w' := by
 have G := Lib.hid (rd_Uvarint h)
 have hin := rdUvarint_in s
 unfold rdCStr
 generalize hr : rdUvarint s = r at *
 obtain ⟨l, s1⟩ := r
 simp only [] at *
 clear hr h
 have g1 := hin.1
 have g2 := hin.2
 clear hin
 have g3 : l <= 4294967295 := by omega
 go_enter Tryd.func83, Tryd.ntmps83
 go_wp2_with (first | (go_at_call 71; refine G.out.mono ?_; rintro e w1 ⟨rfl, h1, h2⟩) | (go_at_call 73; refine (rd_Span ((l - 1)) h1).mono ?_; rintro e w2 ⟨⟨v, rfl, hv⟩, h3, h4⟩; have hc := conv_src hv))
 go_ret
 exact ⟨rfl, h3, h2.trans h4⟩
set_option maxHeartbeats 4000000 in
set_option maxRecDepth 100000 in
theorem rd_CompactNullableString {w : World} {rb sb : Nat} {s : RS} (h : Rd w rb sb s) : Calls Tryd.prog 88 #[.pointer (some ⟨rb, 0, none⟩)] w fun e w' =>
  (∃ v, e = .returned v /\ PStr w' (From w) v (rdCNStr s).1) /\ Rd w' rb sb (rdCNStr s).2 /\ Mod (only rb) w w' := by
 have G := Lib.hid (rd_Uvarint h)
 have hin := rdUvarint_in s
 unfold rdCNStr
 unfold rdCStr
 generalize hr : rdUvarint s = r at *
 obtain ⟨l, s1⟩ := r
 simp only [] at *
 clear hr h
 have g1 := hin.1
 have g2 := hin.2
 clear hin
 have g3 : l <= 4294967295 := by omega
 by_cases hn : l - 1 < 0
 ·rw [if_pos hn]
  have hn' : decide (l - 1 < 0) = true := by simpa using hn
  obtain rfl : l = 0 := by omega
  clear hn hn'
  go_enter Tryd.func88, Tryd.ntmps88
  go_wp2_with (first | (go_at_call 71; refine G.out.mono ?_; rintro e w1 ⟨rfl, h1, h2⟩) | (go_at_call 73; refine (rd_Span ((l - 1)) h1).mono ?_; rintro e w2 ⟨⟨v, rfl, hv⟩, h3, h4⟩; have hc := conv_src hv))
  go_ret
  exact ⟨⟨_, rfl, rfl⟩, h1, h2⟩
 ·rw [if_neg hn]
  have hn' : decide (l - 1 < 0) = false := by simpa using hn
  have g4 : 0 <= l - 1 := by omega
  have g5 : 1 <= l := by omega
  go_enter Tryd.func88, Tryd.ntmps88
  go_wp2_with (first | (go_at_call 71; refine G.out.mono ?_; rintro e w1 ⟨rfl, h1, h2⟩) | (go_at_call 73; refine (rd_Span ((l - 1)) h1).mono ?_; rintro e w2 ⟨⟨v, rfl, hv⟩, h3, h4⟩; have hc := conv_src hv))
  go_ret
  have g6 : w.heap.size <= w2.heap.size := Nat.le_trans h2.size h4.size
  refine ⟨⟨_, rfl, w2.heap.size, 9, g6, rfl, Zh _ _⟩, h3.mod ((Mod.refl (S := none') w2).alloc _) (fun f => f) (fun f => f), (h2.trans h4).alloc _⟩
set_option maxHeartbeats 4000000 in
set_option maxRecDepth 100000 in
theorem rd_UnsafeCompactString {w : World} {rb sb : Nat} {s : RS} (h : Rd w rb sb s) : Calls Tryd.prog 82 #[.pointer (some ⟨rb, 0, none⟩)] w fun e w' =>
  e = .returned (.string (str (rdCStr s).1)) /\ Rd w' rb sb (rdCStr s).2 /\ Mod (only rb) w w' := by
 have G := Lib.hid (rd_Uvarint h)
 have hin := rdUvarint_in s
 unfold rdCStr
 generalize hr : rdUvarint s = r at *
 obtain ⟨l, s1⟩ := r
 simp only [] at *
 clear hr h
 have g1 := hin.1
 have g2 := hin.2
 clear hin
 have g3 : l <= 4294967295 := by omega
 go_enter Tryd.func82, Tryd.ntmps82
 go_wp2_with (first | (go_at_call 71; refine G.out.mono ?_; rintro e w1 ⟨rfl, h1, h2⟩) | (go_at_call 73; refine (rd_Span ((l - 1)) h1).mono ?_; rintro e w2 ⟨⟨v, rfl, hv⟩, h3, h4⟩) | (go_at_call 97; refine (go_UnsafeString hv).mono ?_; rintro e w3 ⟨rfl, rfl⟩))
 go_ret
 exact ⟨rfl, h3, h2.trans h4⟩
set_option maxHeartbeats 4000000 in
set_option maxRecDepth 100000 in
theorem rd_UnsafeCompactNullableString {w : World} {rb sb : Nat} {s : RS} (h : Rd w rb sb s) : Calls Tryd.prog 87 #[.pointer (some ⟨rb, 0, none⟩)] w fun e w' =>
  (∃ v, e = .returned v /\ PStr w' (From w) v (rdCNStr s).1) /\ Rd w' rb sb (rdCNStr s).2 /\ Mod (only rb) w w' := by
 have G := Lib.hid (rd_Uvarint h)
 have hin := rdUvarint_in s
 unfold rdCNStr
 unfold rdCStr
 generalize hr : rdUvarint s = r at *
 obtain ⟨l, s1⟩ := r
 simp only [] at *
 clear hr h
 have g1 := hin.1
 have g2 := hin.2
 clear hin
 have g3 : l <= 4294967295 := by omega
 by_cases hn : l - 1 < 0
 ·rw [if_pos hn]
  have hn' : decide (l - 1 < 0) = true := by simpa using hn
  obtain rfl : l = 0 := by omega
  clear hn hn'
  go_enter Tryd.func87, Tryd.ntmps87
  go_wp2_with (first | (go_at_call 71; refine G.out.mono ?_; rintro e w1 ⟨rfl, h1, h2⟩) | (go_at_call 73; refine (rd_Span ((l - 1)) h1).mono ?_; rintro e w2 ⟨⟨v, rfl, hv⟩, h3, h4⟩) | (go_at_call 97; refine (go_UnsafeString hv).mono ?_; rintro e w3 ⟨rfl, rfl⟩))
  go_ret
  exact ⟨⟨_, rfl, rfl⟩, h1, h2⟩
 ·rw [if_neg hn]
  have hn' : decide (l - 1 < 0) = false := by simpa using hn
  have g4 : 0 <= l - 1 := by omega
  have g5 : 1 <= l := by omega
  go_enter Tryd.func87, Tryd.ntmps87
  go_wp2_with (first | (go_at_call 71; refine G.out.mono ?_; rintro e w1 ⟨rfl, h1, h2⟩) | (go_at_call 73; refine (rd_Span ((l - 1)) h1).mono ?_; rintro e w2 ⟨⟨v, rfl, hv⟩, h3, h4⟩) | (go_at_call 97; refine (go_UnsafeString hv).mono ?_; rintro e w3 ⟨rfl, rfl⟩))
  go_ret
  have g6 : w.heap.size <= w2.heap.size := Nat.le_trans h2.size h4.size
  refine ⟨⟨_, rfl, w2.heap.size, 9, g6, rfl, Zh _ _⟩, h3.mod ((Mod.refl (S := none') w2).alloc _) (fun f => f) (fun f => f), (h2.trans h4).alloc _⟩
set_option maxHeartbeats 4000000 in
set_option maxRecDepth 100000 in
theorem rd_ArrayLen {w : World} {rb sb : Nat} {s : RS} (h : Rd w rb sb s) : Calls Tryd.prog 75 #[.pointer (some ⟨rb, 0, none⟩)] w fun e w' =>
  e = .returned (.int .i32 (rdALen s).1) /\ Rd w' rb sb (rdALen s).2 /\ Mod (only rb) w w' := by
 have G := Lib.hid (rd_Int32 h)
 have hin := rdInt32_in s
 unfold rdALen lenOr
 generalize hr : rdInt32 s = r at *
 obtain ⟨l, s1⟩ := r
 simp only [] at *
 clear hr h
 have g1 := hin.1
 have g2 := hin.2
 clear hin
 by_cases hn : (s1.bs.length : Int) < l
 ·rw [if_pos hn]
  go_enter Tryd.func75, Tryd.ntmps75
  go_wp2_with (first | (go_at_call 69; refine G.out.mono ?_; rintro e w1 ⟨rfl, h1, h2⟩; obtain ⟨ao, cap, hl, hc, i0, i1, f0, f1, K⟩ := h1.short))
  go_ret
  have KK := K.out _ (Mod.refl _)
  exact ⟨rfl, KK.1, h2.trans KK.2⟩
 ·rw [if_neg hn]
  have hn' : l <= (s1.bs.length : Int) := by omega
  go_enter Tryd.func75, Tryd.ntmps75
  go_wp2_with (first | (go_at_call 69; refine G.out.mono ?_; rintro e w1 ⟨rfl, h1, h2⟩; obtain ⟨ao, cap, hl, hc, i0, i1, f0, f1, K⟩ := h1.short))
  go_ret
  exact ⟨rfl, h1, h2⟩
set_option maxHeartbeats 4000000 in
set_option maxRecDepth 100000 in
theorem rd_CompactArrayLen {w : World} {rb sb : Nat} {s : RS} (h : Rd w rb sb s) : Calls Tryd.prog 74 #[.pointer (some ⟨rb, 0, none⟩)] w fun e w' =>
  e = .returned (.int .i32 (rdCALen s).1) /\ Rd w' rb sb (rdCALen s).2 /\ Mod (only rb) w w' := by
 have G := Lib.hid (rd_Uvarint h)
 have hin := rdUvarint_in s
 unfold rdCALen lenOr
 generalize hr : rdUvarint s = r at *
 obtain ⟨l, s1⟩ := r
 simp only [] at *
 clear hr h
 have g1 := hin.1
 have g2 := hin.2
 clear hin
 have g4 : -2147483648 <= wrap32 (wrap32 l - 1) /\ wrap32 (wrap32 l - 1) <= 2147483647 := by unfold wrap32; omega
 have g7 : wrap64 (wrap32 (wrap32 l - 1)) = wrap32 (wrap32 l - 1) := by unfold wrap64; omega
 have g5 := g4.1
 have g6 := g4.2
 clear g4
 by_cases hn : (s1.bs.length : Int) < (wrap32 (wrap32 l - 1))
 ·rw [if_pos hn]
  go_enter Tryd.func74, Tryd.ntmps74
  go_wp2_with (first | (go_at_call 71; refine G.out.mono ?_; rintro e w1 ⟨rfl, h1, h2⟩; obtain ⟨ao, cap, hl, hc, i0, i1, f0, f1, K⟩ := h1.short))
  go_ret
  have KK := K.out _ (Mod.refl _)
  exact ⟨rfl, KK.1, h2.trans KK.2⟩
 ·rw [if_neg hn]
  have hn' : (wrap32 (wrap32 l - 1)) <= (s1.bs.length : Int) := by omega
  go_enter Tryd.func74, Tryd.ntmps74
  go_wp2_with (first | (go_at_call 71; refine G.out.mono ?_; rintro e w1 ⟨rfl, h1, h2⟩; obtain ⟨ao, cap, hl, hc, i0, i1, f0, f1, K⟩ := h1.short))
  go_ret
  exact ⟨rfl, h1, h2⟩
theorem rd_Ok {w : World} {rb sb : Nat} {s : RS} (h : Rd w rb sb s) : Calls Tryd.prog 76 #[.pointer (some ⟨rb, 0, none⟩)] w fun e w' => e = .returned (.bool (!s.bad)) /\ w = w' := by
 obtain ⟨ao, cap, hl, hc, h0, h1, f0, f1, K⟩ := h.short
 clear h
 go_enter Tryd.func76, Tryd.ntmps76
 go_wp2
 go_ret
 exact ⟨rfl, rfl⟩
/-- what the program's one error holds: an interface value that is not nil -/
def ErrIs (w : World) (ev : Value) : Prop := w.cell? ⟨1, 0, none⟩ = some ev /\ ∃ tx vx, ev = .iface tx vx
/-- what Complete answers -/
def endErr (ev : Value) (bad : Bool) : Value := if bad then ev else .nilIface
theorem rd_Complete {w : World} {rb sb : Nat} {s : RS} {ev : Value} (hg : ErrIs w ev) (h : Rd w rb sb s) : Calls Tryd.prog 60 #[.pointer (some ⟨rb, 0, none⟩)] w fun e w' => e = .returned (endErr ev s.bad) /\ w = w' := by
 obtain ⟨ao, cap, hl, hc, h0, h1, f0, f1, K⟩ := h.short
 unfold ErrIs at hg
 replace hg := hg.1
 unfold endErr
 clear h
 cases hb : s.bad
 ·rw [hb] at h1
  go_enter Tryd.func60, Tryd.ntmps60
  go_wp2
  go_ret
  exact ⟨rfl, rfl⟩
 ·rw [hb] at h1
  go_enter Tryd.func60, Tryd.ntmps60
  go_wp2
  go_ret
  exact ⟨rfl, rfl⟩
end Go.Proofs.YtcldbjehliladaaDoor
