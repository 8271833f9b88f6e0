/-
  The contracts of package kbin's reader: what each method of it answers, and what it leaves to be read. First: binary.BigEndian, Bool, Int8, Int16, Int32, readUint64, Int64, Span.
  The contracts of package kbin's reader, second part: Uvarint, Span, texts, octets, lengths of lists, Complete, Ok.
  The contracts of package kbin's reader, third part: Span, texts, octets, lengths of lists, Ok, Complete.
-/
import Derived.Test.YtcldbjehliladaaDoorChecked
import Derived.WalkKit
import Derived.ProofKit
import Derived.OpenShut
import Derived.Deep.QuietTactic
import Derived.BigQuiet
import Derived.RegionCalls
import Derived.Deep.RegionWith
import Derived.StillTailTactics
import Derived.Lib.Hide
import Derived.ScopeJumps
import Derived.Lib.VarintBits
import Derived.Laws.BytesArg
import Derived.Test.YtcldbjehliladaaDoorPBase
set_option linter.unusedSimpArgs false
set_option linter.unusedVariables false
namespace Go.Proofs.YtcldbjehliladaaDoor
open Go Go.RowKit
/-- a reader laid open for a walk -/
theorem Rd.long {w : World} {rb sb : Nat} {s : RS} (h : Rd w rb sb s) (k : Nat) (hk : k < s.bs.length) : ∃ off cap n, s.nil = false /\ n = s.bs.length /\ rb < w.heap.size /\ sb < w.heap.size /\ n <= cap /\ cap <= 9223372036854775807 /\
  w.cell? ⟨rb, 0, none⟩ = some (.slice (some ⟨sb, off, none⟩) n cap) /\ w.frozen? ⟨rb, 0, none⟩ = false /\
  (∀ i (hi : i < s.bs.length), w.cell? ⟨sb, off + i, none⟩ = some (.int .u8 (s.bs[i]).toNat)) /\
  Hid (∀ m W, Mod none' w W -> ∀ off' cap', (off' = off + m \/ n = m) -> n - m <= cap' -> cap' <= 9223372036854775807 ->
   Rd (W.setCell ⟨rb, 0, none⟩ (.slice (some ⟨sb, off', none⟩) (n - m) cap')) rb sb ⟨s.bs.drop m, s.nil, s.bad⟩ /\
   Mod (only rb) w (W.setCell ⟨rb, 0, none⟩ (.slice (some ⟨sb, off', none⟩) (n - m) cap'))) := by
 obtain ⟨hl, hn, ao, cap, t, hb, hlc, hcm, hnil, hsome⟩ := h.open
 cases ao with
 | none => have := (hnil rfl).2.1; rw [this] at hk; simp at hk
 | some a =>
  obtain ⟨h1, h2, h3, h4, h5⟩ := hsome a rfl
  obtain ⟨b, off, spot⟩ := a
  simp only at h2 h3 h5
  subst h2 h3
  have hlt : b < w.heap.size := by obtain ⟨c, t, fr, h4⟩ := h4; exact lt_of_block h4
  refine ⟨off, cap, s.bs.length, h1, rfl, hl, hlt, hlc, hcm, Zc hb, Zz hb, h5, ?_⟩
  intro m W hm off' cap' ho hc hx
  rw [h1]
  exact h.put hm (Src.drop hm h4 h5 ho hc hx)
theorem Rd.short {w : World} {rb sb : Nat} {s : RS} (h : Rd w rb sb s) : ∃ ao cap, rb < w.heap.size /\ s.bs.length <= cap /\ w.cell? ⟨rb, 0, none⟩ = some (.slice ao s.bs.length cap) /\ w.cell? ⟨rb, 1, none⟩ = some (.bool s.bad) /\
  w.frozen? ⟨rb, 0, none⟩ = false /\ w.frozen? ⟨rb, 1, none⟩ = false /\ Hid (∀ W, Mod none' w W -> Rd ((W.setCell ⟨rb, 1, none⟩ (.bool true)).setCell ⟨rb, 0, none⟩ (.slice none 0 0)) rb sb RS.fail /\
  Mod (only rb) w ((W.setCell ⟨rb, 1, none⟩ (.bool true)).setCell ⟨rb, 0, none⟩ (.slice none 0 0))) := by
 obtain ⟨hl, hn, ao, cap, t, hb, hlc, hcm, hnil, hsome⟩ := h.open
 exact ⟨ao, cap, hl, hlc, Zc hb, Zc hb, Zz hb, Zz hb, fun W hm => h.fail hm⟩
/-- the number that 2 octets spell, the highest first, as the code reckons it -/
def be16 (x0 x1 : UInt8) : Int := (bits BinOp.or IntKind.u16 ((x1.toNat : Int) % 65536) (((x0.toNat : Int) % 65536) * 256 % 65536))
set_option maxHeartbeats 4000000 in
set_option maxRecDepth 100000 in
theorem go_be16 (b off len cap : Nat) (x0 x1 : UInt8) (w : World) (hn : 2 <= len) (hb : b < w.heap.size) (c0 : w.cell? ⟨b, off, none⟩ = some (.int .u8 x0.toNat)) (c1 : w.cell? ⟨b, off + 1, none⟩ = some (.int .u8 x1.toNat)) :
  Calls Tryd.prog 96 #[.agg #[], .slice (some ⟨b, off, none⟩) len cap] w fun e w' => e = .returned (.int .u16 (be16 x0 x1)) /\ ∃ n, w' = (w.alloc (.cells #[] 139)).drewN n := by
 have i0 : 0 < len := by omega
 have i1 : (1 : Int) < len := by omega
 go_enter Tryd.func96, Tryd.ntmps96
 go_wp2
 go_quiet (fail)
 go_wp2
 go_ret
 exact ⟨rfl, _, rfl⟩
/-- the number that 4 octets spell, the highest first, as the code reckons it -/
def be32 (x0 x1 x2 x3 : UInt8) : Int := (bits BinOp.or IntKind.u32 (bits BinOp.or IntKind.u32 (bits BinOp.or IntKind.u32 ((x3.toNat : Int) % 4294967296) (((x2.toNat : Int) % 4294967296) * 256 % 4294967296)) (((x1.toNat : Int) % 4294967296) * 65536 % 4294967296)) (((x0.toNat : Int) % 4294967296) * 16777216 % 4294967296))
set_option maxHeartbeats 4000000 in
set_option maxRecDepth 100000 in
theorem go_be32 (b off len cap : Nat) (x0 x1 x2 x3 : UInt8) (w : World) (hn : 4 <= len) (hb : b < w.heap.size) (c0 : w.cell? ⟨b, off, none⟩ = some (.int .u8 x0.toNat)) (c1 : w.cell? ⟨b, off + 1, none⟩ = some (.int .u8 x1.toNat)) (c2 : w.cell? ⟨b, off + 2, none⟩ = some (.int .u8 x2.toNat)) (c3 : w.cell? ⟨b, off + 3, none⟩ = some (.int .u8 x3.toNat)) :
  Calls Tryd.prog 104 #[.agg #[], .slice (some ⟨b, off, none⟩) len cap] w fun e w' => e = .returned (.int .u32 (be32 x0 x1 x2 x3)) /\ ∃ n, w' = (w.alloc (.cells #[] 139)).drewN n := by
 have i0 : 0 < len := by omega
 have i1 : (1 : Int) < len := by omega
 have i2 : (2 : Int) < len := by omega
 have i3 : (3 : Int) < len := by omega
 go_enter Tryd.func104, Tryd.ntmps104
 go_wp2
 go_quiet (fail)
 go_wp2
 go_ret
 exact ⟨rfl, _, rfl⟩
/-- the number that 8 octets spell, the highest first, as the code reckons it -/
def be64 (x0 x1 x2 x3 x4 x5 x6 x7 : UInt8) : Int := (bits BinOp.or IntKind.u64 (bits BinOp.or IntKind.u64 (bits BinOp.or IntKind.u64 (bits BinOp.or IntKind.u64 (bits BinOp.or IntKind.u64 (bits BinOp.or IntKind.u64 (bits BinOp.or IntKind.u64 ((x7.toNat : Int) % 18446744073709551616) (((x6.toNat : Int) % 18446744073709551616) * 256 % 18446744073709551616)) (((x5.toNat : Int) % 18446744073709551616) * 65536 % 18446744073709551616)) (((x4.toNat : Int) % 18446744073709551616) * 16777216 % 18446744073709551616)) (((x3.toNat : Int) % 18446744073709551616) * 4294967296 % 18446744073709551616)) (((x2.toNat : Int) % 18446744073709551616) * 1099511627776 % 18446744073709551616)) (((x1.toNat : Int) % 18446744073709551616) * 281474976710656 % 18446744073709551616)) (((x0.toNat : Int) % 18446744073709551616) * 72057594037927936 % 18446744073709551616))
set_option maxHeartbeats 4000000 in
set_option maxRecDepth 100000 in
theorem go_be64 (b off len cap : Nat) (x0 x1 x2 x3 x4 x5 x6 x7 : UInt8) (w : World) (hn : 8 <= len) (hb : b < w.heap.size) (c0 : w.cell? ⟨b, off, none⟩ = some (.int .u8 x0.toNat)) (c1 : w.cell? ⟨b, off + 1, none⟩ = some (.int .u8 x1.toNat)) (c2 : w.cell? ⟨b, off + 2, none⟩ = some (.int .u8 x2.toNat)) (c3 : w.cell? ⟨b, off + 3, none⟩ = some (.int .u8 x3.toNat)) (c4 : w.cell? ⟨b, off + 4, none⟩ = some (.int .u8 x4.toNat)) (c5 : w.cell? ⟨b, off + 5, none⟩ = some (.int .u8 x5.toNat)) (c6 : w.cell? ⟨b, off + 6, none⟩ = some (.int .u8 x6.toNat)) (c7 : w.cell? ⟨b, off + 7, none⟩ = some (.int .u8 x7.toNat)) :
  Calls Tryd.prog 112 #[.agg #[], .slice (some ⟨b, off, none⟩) len cap] w fun e w' => e = .returned (.int .u64 (be64 x0 x1 x2 x3 x4 x5 x6 x7)) /\ ∃ n, w' = (w.alloc (.cells #[] 139)).drewN n := by
 have i0 : 0 < len := by omega
 have i1 : (1 : Int) < len := by omega
 have i2 : (2 : Int) < len := by omega
 have i3 : (3 : Int) < len := by omega
 have i4 : (4 : Int) < len := by omega
 have i5 : (5 : Int) < len := by omega
 have i6 : (6 : Int) < len := by omega
 have i7 : (7 : Int) < len := by omega
 go_enter Tryd.func112, Tryd.ntmps112
 go_wp2
 go_quiet (fail)
 go_wp2
 go_ret
 exact ⟨rfl, _, rfl⟩
def rdInt16 (s : RS) : Int × RS := match s.bs with
 | x0 :: x1 :: r => (IntKind.i16.wrap (be16 x0 x1), ⟨r, s.nil, s.bad⟩)
 | _ => (0, RS.fail)
set_option maxHeartbeats 4000000 in
set_option maxRecDepth 100000 in
theorem rd_Int16 {w : World} {rb sb : Nat} {s : RS} (h : Rd w rb sb s) : Calls Tryd.prog 55 #[.pointer (some ⟨rb, 0, none⟩)] w fun e w' =>
  e = .returned (.int .i16 (rdInt16 s).1) /\ Rd w' rb sb (rdInt16 s).2 /\ Mod (only rb) w w' := by
 by_cases hs : s.bs.length < 2
 ·obtain ⟨ao, cap, hl, hc, h0, h1, f0, f1, K⟩ := h.short
  have hi : (s.bs.length : Int) < 2 := by omega
  have e : rdInt16 s = (0, RS.fail) := by
   rcases s with ⟨_ | ⟨x0, _ | ⟨x1, r⟩⟩, nl, bd⟩
   ·rfl
   ·rfl
   ·simp at hs; omega
  rw [e]
  clear e h
  go_enter Tryd.func55, Tryd.ntmps55
  go_wp2
  go_ret
  exact ⟨rfl, K.out _ (Mod.refl _)⟩
 ·obtain ⟨off, cap, n, hnl, hn, hl, hb, hc, hm, h0, f0, hcs, K⟩ := h.long 0 (by omega)
  rcases s with ⟨_ | ⟨x0, _ | ⟨x1, r⟩⟩, nl, bd⟩
  ·simp at hs
  ·simp at hs
  simp only [List.drop_succ_cons, List.drop_zero] at *
  have c0 := hcs 0 (by simp)
  have c1 := hcs 1 (by simp)
  simp only [Nat.add_zero, List.getElem_cons_zero, List.getElem_cons_succ] at c0 c1
  have hi : 2 <= (n : Int) := by simp at hn; omega
  have hi0 : 0 < n := by omega
  have hi1 : 2 <= n := by omega
  have hi2 : (2 : Int) <= (cap : Int) := by omega
  have HN := Lib.hid hn
  clear hn hnl hcs h hs
  unfold rdInt16
  simp only []
  go_enter Tryd.func55, Tryd.ntmps55
  go_wp2
  go_still_tail 5, (by kernel_rfl)
  have b0 := go_be16 sb off n cap x0 x1 w.drew hi1 (by simpa using hb) c0 c1
  go_wp2_with (go_at_call 96; refine b0.mono ?_; rintro e w' ⟨rfl, nq, rfl⟩)
  all_goals go_ret
  all_goals exact ⟨rfl, K.out 2 _ (by first | exact Mod.refl _ | exact ((Mod.refl _).alloc _).drewN _) _ _ (by omega) (by omega) (by omega)⟩
def rdInt32 (s : RS) : Int × RS := match s.bs with
 | x0 :: x1 :: x2 :: x3 :: r => (wrap32 (be32 x0 x1 x2 x3), ⟨r, s.nil, s.bad⟩)
 | _ => (0, RS.fail)
set_option maxHeartbeats 4000000 in
set_option maxRecDepth 100000 in
theorem rd_Int32 {w : World} {rb sb : Nat} {s : RS} (h : Rd w rb sb s) : Calls Tryd.prog 69 #[.pointer (some ⟨rb, 0, none⟩)] w fun e w' =>
  e = .returned (.int .i32 (rdInt32 s).1) /\ Rd w' rb sb (rdInt32 s).2 /\ Mod (only rb) w w' := by
 by_cases hs : s.bs.length < 4
 ·obtain ⟨ao, cap, hl, hc, h0, h1, f0, f1, K⟩ := h.short
  have hi : (s.bs.length : Int) < 4 := by omega
  have e : rdInt32 s = (0, RS.fail) := by
   rcases s with ⟨_ | ⟨x0, _ | ⟨x1, _ | ⟨x2, _ | ⟨x3, r⟩⟩⟩⟩, nl, bd⟩
   ·rfl
   ·rfl
   ·rfl
   ·rfl
   ·simp at hs; omega
  rw [e]
  clear e h
  go_enter Tryd.func69, Tryd.ntmps69
  go_wp2
  go_ret
  exact ⟨rfl, K.out _ (Mod.refl _)⟩
 ·obtain ⟨off, cap, n, hnl, hn, hl, hb, hc, hm, h0, f0, hcs, K⟩ := h.long 0 (by omega)
  rcases s with ⟨_ | ⟨x0, _ | ⟨x1, _ | ⟨x2, _ | ⟨x3, r⟩⟩⟩⟩, nl, bd⟩
  ·simp at hs
  ·simp at hs
  ·simp at hs
  ·simp at hs
  simp only [List.drop_succ_cons, List.drop_zero] at *
  have c0 := hcs 0 (by simp)
  have c1 := hcs 1 (by simp)
  have c2 := hcs 2 (by simp)
  have c3 := hcs 3 (by simp)
  simp only [Nat.add_zero, List.getElem_cons_zero, List.getElem_cons_succ] at c0 c1 c2 c3
  have hi : 4 <= (n : Int) := by simp at hn; omega
  have hi0 : 0 < n := by omega
  have hi1 : 4 <= n := by omega
  have hi2 : (4 : Int) <= (cap : Int) := by omega
  have HN := Lib.hid hn
  clear hn hnl hcs h hs
  unfold rdInt32
  simp only []
  go_enter Tryd.func69, Tryd.ntmps69
  go_wp2
  go_still_tail 5, (by kernel_rfl)
  have b0 := go_be32 sb off n cap x0 x1 x2 x3 w.drew hi1 (by simpa using hb) c0 c1 c2 c3
  go_wp2_with (go_at_call 104; refine b0.mono ?_; rintro e w' ⟨rfl, nq, rfl⟩)
  all_goals go_ret
  all_goals exact ⟨rfl, K.out 4 _ (by first | exact Mod.refl _ | exact ((Mod.refl _).alloc _).drewN _) _ _ (by omega) (by omega) (by omega)⟩
def rdreadUint64 (s : RS) : Int × RS := match s.bs with
 | x0 :: x1 :: x2 :: x3 :: x4 :: x5 :: x6 :: x7 :: r => (be64 x0 x1 x2 x3 x4 x5 x6 x7, ⟨r, s.nil, s.bad⟩)
 | _ => (0, RS.fail)
set_option maxHeartbeats 4000000 in
set_option maxRecDepth 100000 in
theorem rd_readUint64 {w : World} {rb sb : Nat} {s : RS} (h : Rd w rb sb s) : Calls Tryd.prog 98 #[.pointer (some ⟨rb, 0, none⟩)] w fun e w' =>
  e = .returned (.int .u64 (rdreadUint64 s).1) /\ Rd w' rb sb (rdreadUint64 s).2 /\ Mod (only rb) w w' := by
 by_cases hs : s.bs.length < 8
 ·obtain ⟨ao, cap, hl, hc, h0, h1, f0, f1, K⟩ := h.short
  have hi : (s.bs.length : Int) < 8 := by omega
  have e : rdreadUint64 s = (0, RS.fail) := by
   rcases s with ⟨_ | ⟨x0, _ | ⟨x1, _ | ⟨x2, _ | ⟨x3, _ | ⟨x4, _ | ⟨x5, _ | ⟨x6, _ | ⟨x7, r⟩⟩⟩⟩⟩⟩⟩⟩, nl, bd⟩
   ·rfl
   ·rfl
   ·rfl
   ·rfl
   ·rfl
   ·rfl
   ·rfl
   ·rfl
   ·simp at hs; omega
  rw [e]
  clear e h
  go_enter Tryd.func98, Tryd.ntmps98
  go_wp2
  go_ret
  exact ⟨rfl, K.out _ (Mod.refl _)⟩
 ·obtain ⟨off, cap, n, hnl, hn, hl, hb, hc, hm, h0, f0, hcs, K⟩ := h.long 0 (by omega)
  rcases s with ⟨_ | ⟨x0, _ | ⟨x1, _ | ⟨x2, _ | ⟨x3, _ | ⟨x4, _ | ⟨x5, _ | ⟨x6, _ | ⟨x7, r⟩⟩⟩⟩⟩⟩⟩⟩, nl, bd⟩
  ·simp at hs
  ·simp at hs
  ·simp at hs
  ·simp at hs
  ·simp at hs
  ·simp at hs
  ·simp at hs
  ·simp at hs
  simp only [List.drop_succ_cons, List.drop_zero] at *
  have c0 := hcs 0 (by simp)
  have c1 := hcs 1 (by simp)
  have c2 := hcs 2 (by simp)
  have c3 := hcs 3 (by simp)
  have c4 := hcs 4 (by simp)
  have c5 := hcs 5 (by simp)
  have c6 := hcs 6 (by simp)
  have c7 := hcs 7 (by simp)
  simp only [Nat.add_zero, List.getElem_cons_zero, List.getElem_cons_succ] at c0 c1 c2 c3 c4 c5 c6 c7
  have hi : 8 <= (n : Int) := by simp at hn; omega
  have hi0 : 0 < n := by omega
  have hi1 : 8 <= n := by omega
  have hi2 : (8 : Int) <= (cap : Int) := by omega
  have HN := Lib.hid hn
  clear hn hnl hcs h hs
  unfold rdreadUint64
  simp only []
  go_enter Tryd.func98, Tryd.ntmps98
  go_wp2
  go_still_tail 5, (by kernel_rfl)
  have b0 := go_be64 sb off n cap x0 x1 x2 x3 x4 x5 x6 x7 w.drew hi1 (by simpa using hb) c0 c1 c2 c3 c4 c5 c6 c7
  go_wp2_with (go_at_call 112; refine b0.mono ?_; rintro e w' ⟨rfl, nq, rfl⟩)
  all_goals go_ret
  all_goals exact ⟨rfl, K.out 8 _ (by first | exact Mod.refl _ | exact ((Mod.refl _).alloc _).drewN _) _ _ (by omega) (by omega) (by omega)⟩
def rdInt64 (s : RS) : Int × RS := (wrap64 (rdreadUint64 s).1, (rdreadUint64 s).2)
set_option maxHeartbeats 4000000 in
theorem rd_Int64 {w : World} {rb sb : Nat} {s : RS} (h : Rd w rb sb s) : Calls Tryd.prog 58 #[.pointer (some ⟨rb, 0, none⟩)] w fun e w' =>
  e = .returned (.int .i64 (rdInt64 s).1) /\ Rd w' rb sb (rdInt64 s).2 /\ Mod (only rb) w w' := by
 have K := Lib.hid (rd_readUint64 h)
 unfold rdInt64
 go_enter Tryd.func58, Tryd.ntmps58
 go_wp2_with (go_at_call 98; refine K.out.mono ?_; rintro e w' ⟨rfl, h1, h2⟩)
 go_ret
 exact ⟨rfl, h1, h2⟩
end Go.Proofs.YtcldbjehliladaaDoor
set_option linter.unusedSimpArgs false
set_option linter.unusedVariables false
namespace Go.Proofs.YtcldbjehliladaaDoor
open Go Go.RowKit
/-- the highest bit of an octet -/
def hi7 (x : UInt8) : Int := bits BinOp.and IntKind.u8 (x.toNat : Int) 128
def lo7 (x : UInt8) : Int := bits BinOp.and IntKind.u8 (x.toNat : Int) 127 % 4294967296
def uv1 (x0 : UInt8) : Int := lo7 x0
def uv2 (x0 x1 : UInt8) : Int := bits BinOp.or IntKind.u32 (uv1 x0) (lo7 x1 * 128 % 4294967296)
def uv3 (x0 x1 x2 : UInt8) : Int := bits BinOp.or IntKind.u32 (uv2 x0 x1) (lo7 x2 * 16384 % 4294967296)
def uv4 (x0 x1 x2 x3 : UInt8) : Int := bits BinOp.or IntKind.u32 (uv3 x0 x1 x2) (lo7 x3 * 2097152 % 4294967296)
def uv5 (x0 x1 x2 x3 x4 : UInt8) : Int := bits BinOp.or IntKind.u32 (uv4 x0 x1 x2 x3) ((x4.toNat : Int) * 268435456)
/-- a number in groups of seven bits, and how many octets it takes (none: 0, or -5) -/
def uvDec : List UInt8 -> Int × Int
 | [] => (0, 0)
 | x0 :: r0 => if hi7 x0 = 0 then (uv1 x0, 1) else match r0 with
  | [] => (0, 0)
  | x1 :: r1 => if hi7 x1 = 0 then (uv2 x0 x1, 2) else match r1 with
   | [] => (0, 0)
   | x2 :: r2 => if hi7 x2 = 0 then (uv3 x0 x1 x2, 3) else match r2 with
    | [] => (0, 0)
    | x3 :: r3 => if hi7 x3 = 0 then (uv4 x0 x1 x2 x3, 4) else match r3 with
     | [] => (0, 0)
     | x4 :: _ => if (x4.toNat : Int) <= 15 then (uv5 x0 x1 x2 x3 x4, 5) else (0, -5)
/-- a number in groups of seven bits -/
def rdUvarint (s : RS) : Int × RS := if (uvDec s.bs).2 <= 0 then (0, RS.fail) else ((uvDec s.bs).1, s.skip (uvDec s.bs).2.toNat)
end Go.Proofs.YtcldbjehliladaaDoor
set_option linter.unusedSimpArgs false
set_option linter.unusedVariables false
namespace Go.Proofs.YtcldbjehliladaaDoor
open Go Go.RowKit
theorem fin3 {A A' B C : Prop} (h : A /\ B /\ C) (f : A -> A') : A' /\ B /\ C := ⟨f h.1, h.2⟩
def rdSpan (l : Int) (s : RS) : (List UInt8 × Bool) × RS := if (s.bs.length : Int) < l \/ l < 0 then (([], true), RS.fail) else ((s.bs.take l.toNat, s.nil), s.skip l.toNat)
theorem Src.take {w W : World} {sb off n cap : Nat} {bs : List UInt8} (hm : Mod none' w W) (hl : ∃ c t fr, w.heap[sb]? = some (.cells c t fr))
  (h : ∀ i (hi : i < bs.length), w.cell? ⟨sb, off + i, none⟩ = some (.int .u8 (bs[i]).toNat)) (hn : n <= bs.length) (hcap : n <= cap) (hmx : cap <= maxLen) :
  Src W (.slice (some ⟨sb, off, none⟩) n cap) sb (bs.take n) false := by
 obtain ⟨c, t, fr, hb⟩ := hl
 refine Src.mk (by simp; omega) hcap hmx ⟨c, t, fr, hm.some hb (fun f => f)⟩ fun i hi => ?_
 simp only [List.length_take] at hi
 have := h i (by omega)
 rw [Zc hb] at this
 rw [Zc (hm.some hb (fun f => f)), List.getElem_take]
 exact this
set_option maxHeartbeats 4000000 in
set_option maxRecDepth 100000 in
theorem rd_Span {w : World} {rb sb : Nat} {s : RS} (l : Int) (h : Rd w rb sb s) : Calls Tryd.prog 73 #[.pointer (some ⟨rb, 0, none⟩), .int .i64 l] w fun e w' =>
  (∃ v, e = .returned v /\ Src w' v sb (rdSpan l s).1.1 (rdSpan l s).1.2) /\ Rd w' rb sb (rdSpan l s).2 /\ Mod (only rb) w w' := by
 by_cases hs : (s.bs.length : Int) < l \/ l < 0
 ·have e : rdSpan l s = (([], true), RS.fail) := if_pos hs
  rw [e]
  obtain ⟨ao, cap, hl, hc, h0, h1, f0, f1, K⟩ := h.short
  clear e h
  by_cases h2 : (s.bs.length : Int) < l
  ·clear hs
   go_enter Tryd.func73, Tryd.ntmps73
   go_wp2
   go_ret
   exact ⟨⟨_, rfl, .inl ⟨rfl, rfl, rfl⟩⟩, K.out _ (Mod.refl _)⟩
  ·have h3 : l < 0 := by omega
   have h2' : l <= (s.bs.length : Int) := by omega
   clear hs h2
   go_enter Tryd.func73, Tryd.ntmps73
   go_wp2
   go_ret
   exact ⟨⟨_, rfl, .inl ⟨rfl, rfl, rfl⟩⟩, K.out _ (Mod.refl _)⟩
 ·have e : rdSpan l s = ((s.bs.take l.toNat, s.nil), s.skip l.toNat) := if_neg hs
  rw [e]
  have g1 : 0 <= l := by omega
  have g2 : l <= (s.bs.length : Int) := by omega
  have g3 : ¬ (s.bs.length : Int) < l := by omega
  clear e hs
  unfold RS.skip
  simp only []
  have hh := h
  obtain ⟨hl, hn, src, t, hb, hs⟩ := hh
  have h0 : w.cell? ⟨rb, 0, none⟩ = some src := Zc hb
  have f0 : w.frozen? ⟨rb, 0, none⟩ = false := Zz hb
  rcases hs with ⟨n1, rfl, n3⟩ | ⟨n1, off, cap, c, t', fr, rfl, n4, n5, n6, n7⟩
  ·rw [n3] at g2 g3
   have hl0 : l = 0 := by simp at g2; omega
   subst hl0
   have K := Lib.hid (h.put (Mod.refl w) (v := .slice none 0 0) (bs := []) (nil := true) (.inl ⟨rfl, rfl, rfl⟩))
   rw [n3, n1]
   clear n3 n1 h hb
   go_enter Tryd.func73, Tryd.ntmps73
   go_wp2
   go_ret
   exact ⟨⟨_, rfl, .inl ⟨rfl, rfl, rfl⟩⟩, K.out⟩
  ·have hcs : ∀ i (hi : i < s.bs.length), w.cell? ⟨sb, off + i, none⟩ = some (.int .u8 (s.bs[i]).toNat) := fun i hi => by rw [Zc n6]; exact n7 i hi
   have hlive : ∃ c t fr, w.heap[sb]? = some (.cells c t fr) := ⟨c, t', fr, n6⟩
   have K : Hid (∀ off' cap', (off' = off + l.toNat \/ s.bs.length = l.toNat) -> s.bs.length - l.toNat <= cap' -> cap' <= 9223372036854775807 ->
     Src (w.setCell ⟨rb, 0, none⟩ (.slice (some ⟨sb, off', none⟩) (s.bs.length - l.toNat) cap')) (.slice (some ⟨sb, off, none⟩) l.toNat l.toNat) sb (s.bs.take l.toNat) s.nil /\ Rd (w.setCell ⟨rb, 0, none⟩ (.slice (some ⟨sb, off', none⟩) (s.bs.length - l.toNat) cap')) rb sb ⟨s.bs.drop l.toNat, s.nil, s.bad⟩ /\
     Mod (only rb) w (w.setCell ⟨rb, 0, none⟩ (.slice (some ⟨sb, off', none⟩) (s.bs.length - l.toNat) cap'))) := by
    intro off' cap' ho hc hx
    rw [n1]
    have P := h.put (Mod.refl w) (Src.drop (Mod.refl w) hlive hcs ho hc hx)
    exact ⟨(Src.take (Mod.refl w) hlive hcs (by omega) (Nat.le_refl _) (by unfold maxLen at *; omega)).mod P.2 (fun e => hn e.symm), P⟩
   have n5' : cap <= 9223372036854775807 := n5
   clear hcs hlive n6 n7 n1 h hb
   generalize hq : s.bs.length = n at *
   have hk' : l.toNat <= n := by omega
   clear hq
   go_enter Tryd.func73, Tryd.ntmps73
   go_wp2
   all_goals go_ret
   all_goals exact fin3 (K.out _ _ (by omega) (by omega) (by omega)) (fun h => ⟨_, rfl, h⟩)
/-- a string of the octets -/
def str (bs : List UInt8) : ByteArray := ⟨bs.toArray⟩
theorem str_size (bs : List UInt8) : (str bs).size = bs.length := rfl
theorem conv_src {w : World} {v : Value} {sb : Nat} {bs : List UInt8} {nil : Bool} (h : Src w v sb bs nil) : (convert 22 9 v).run Tryd.prog w = .ok (.string (str bs)) w := by
 rcases h with ⟨_, rfl, rfl⟩ | ⟨_, off, cap, c, t, fr, rfl, h3, h4, h5, h6⟩
 ·exact run_convert_bytes_nil w _ 5 Tryd.underlying22 Tryd.underlying5 _ _ _ Tryd.underlying9
 ·have := run_convert_bytes_arg w 22 5 Tryd.underlying22 Tryd.underlying5 sb off bs.length cap (bs.map fun x => (x.toNat : Int)) (by simp)
   (fun i hi => by rw [Zc h5, h6 i hi]; simp [hi]) _ Tryd.underlying9
  rw [this]
  simp [strOfNums, str, Function.comp_def]
/-- a pointer to a text, in a block of F; or none -/
def PStr (w : World) (F : Nat -> Prop) (v : Value) : Option (List UInt8) -> Prop
 | none => v = .pointer none
 | some bs => ∃ k t, F k /\ v = .pointer (some ⟨k, 0, none⟩) /\ w.heap[k]? = some (.cells #[.string (str bs)] t (0, 0))
/-- octets in a block of F, or nil, or none of any address -/
def Oct (w : World) (F : Nat -> Prop) (v : Value) (bs : List UInt8) (nil : Bool) : Prop := (∃ sb, (nil = true \/ F sb) /\ Src w v sb bs nil) \/ (bs = [] /\ ∃ ao cap, v = .slice ao 0 cap /\ nil = ao.isNone)
abbrev From (w : World) : Nat -> Prop := fun k => w.heap.size <= k
theorem rdInt16_in (s : RS) : -32768 <= (rdInt16 s).1 /\ (rdInt16 s).1 <= 32767 := by
 unfold rdInt16
 split
 ·simp only [IntKind.wrap, IntKind.bits, IntKind.signed]
  generalize be16 _ _ = x
  simp
  split <;> omega
 ·simp
theorem rdInt32_in (s : RS) : -2147483648 <= (rdInt32 s).1 /\ (rdInt32 s).1 <= 2147483647 := by
 unfold rdInt32
 split
 ·simp only [wrap32]
  generalize be32 _ _ _ _ = x
  omega
 ·simp
def rdStr (s : RS) : List UInt8 × RS := ((rdSpan (rdInt16 s).1 (rdInt16 s).2).1.1, (rdSpan (rdInt16 s).1 (rdInt16 s).2).2)
def rdCStr (s : RS) : List UInt8 × RS := ((rdSpan ((rdUvarint s).1 - 1) (rdUvarint s).2).1.1, (rdSpan ((rdUvarint s).1 - 1) (rdUvarint s).2).2)
def rdNStr (s : RS) : Option (List UInt8) × RS := if (rdInt16 s).1 < 0 then (none, (rdInt16 s).2) else (some (rdStr s).1, (rdStr s).2)
def rdCNStr (s : RS) : Option (List UInt8) × RS := if (rdUvarint s).1 - 1 < 0 then (none, (rdUvarint s).2) else (some (rdCStr s).1, (rdCStr s).2)
/-- octets, and whether they are nil -/
def rdNBytes (s : RS) : (List UInt8 × Bool) × RS := if (rdInt32 s).1 < 0 then (([], true), (rdInt32 s).2) else rdSpan (rdInt32 s).1 (rdInt32 s).2
def rdCNBytes (s : RS) : (List UInt8 × Bool) × RS := if (rdUvarint s).1 - 1 < 0 then (([], true), (rdUvarint s).2) else rdSpan ((rdUvarint s).1 - 1) (rdUvarint s).2
def rdBytes (s : RS) : (List UInt8 × Bool) × RS := if (rdInt32 s).1 = -1 then (([], false), (rdInt32 s).2) else rdSpan (rdInt32 s).1 (rdInt32 s).2
def rdCBytes (s : RS) : (List UInt8 × Bool) × RS := if (rdUvarint s).1 - 1 = -1 then (([], false), (rdUvarint s).2) else rdSpan ((rdUvarint s).1 - 1) (rdUvarint s).2
theorem go_UnsafeString {w : World} {v : Value} {sb : Nat} {bs : List UInt8} {nil : Bool} (h : Src w v sb bs nil) : Calls Tryd.prog 97 #[v] w fun e w' => e = .returned (.string (str bs)) /\ w = w' := by
 have hc := conv_src h
 clear h
 go_enter Tryd.func97, Tryd.ntmps97
 go_wp2
 go_ret
 exact ⟨rfl, rfl⟩
set_option maxHeartbeats 4000000 in
set_option maxRecDepth 100000 in
theorem rd_String {w : World} {rb sb : Nat} {s : RS} (h : Rd w rb sb s) : Calls Tryd.prog 57 #[.pointer (some ⟨rb, 0, none⟩)] w fun e w' =>
  e = .returned (.string (str (rdStr s).1)) /\ Rd w' rb sb (rdStr s).2 /\ Mod (only rb) w w' := by
 have G := Lib.hid (rd_Int16 h)
 have hin := rdInt16_in s
 unfold rdStr
 generalize hr : rdInt16 s = r at *
 obtain ⟨l, s1⟩ := r
 simp only [] at *
 clear hr h
 have g1 := hin.1
 have g2 := hin.2
 clear hin
 go_enter Tryd.func57, Tryd.ntmps57
 go_wp2_with (first | (go_at_call 55; refine G.out.mono ?_; rintro e w1 ⟨rfl, h1, h2⟩) | (go_at_call 73; refine (rd_Span (l) h1).mono ?_; rintro e w2 ⟨⟨v, rfl, hv⟩, h3, h4⟩; have hc := conv_src hv))
 go_ret
 exact ⟨rfl, h3, h2.trans h4⟩
set_option maxHeartbeats 4000000 in
set_option maxRecDepth 100000 in
theorem rd_UnsafeString {w : World} {rb sb : Nat} {s : RS} (h : Rd w rb sb s) : Calls Tryd.prog 56 #[.pointer (some ⟨rb, 0, none⟩)] w fun e w' =>
  e = .returned (.string (str (rdStr s).1)) /\ Rd w' rb sb (rdStr s).2 /\ Mod (only rb) w w' := by
 have G := Lib.hid (rd_Int16 h)
 have hin := rdInt16_in s
 unfold rdStr
 generalize hr : rdInt16 s = r at *
 obtain ⟨l, s1⟩ := r
 simp only [] at *
 clear hr h
 have g1 := hin.1
 have g2 := hin.2
 clear hin
 go_enter Tryd.func56, Tryd.ntmps56
 go_wp2_with (first | (go_at_call 55; refine G.out.mono ?_; rintro e w1 ⟨rfl, h1, h2⟩) | (go_at_call 73; refine (rd_Span (l) h1).mono ?_; rintro e w2 ⟨⟨v, rfl, hv⟩, h3, h4⟩) | (go_at_call 97; refine (go_UnsafeString hv).mono ?_; rintro e w3 ⟨rfl, rfl⟩))
 go_ret
 exact ⟨rfl, h3, h2.trans h4⟩
set_option maxHeartbeats 4000000 in
set_option maxRecDepth 100000 in
theorem rd_NullableBytes {w : World} {rb sb : Nat} {s : RS} (h : Rd w rb sb s) : Calls Tryd.prog 59 #[.pointer (some ⟨rb, 0, none⟩)] w fun e w' =>
  (∃ v, e = .returned v /\ Oct w' (fun k => k = sb \/ w.heap.size <= k) v (rdNBytes s).1.1 (rdNBytes s).1.2) /\ Rd w' rb sb (rdNBytes s).2 /\ Mod (only rb) w w' := by
 have G := Lib.hid (rd_Int32 h)
 have hin := rdInt32_in s
 unfold rdNBytes
 generalize hr : rdInt32 s = r at *
 obtain ⟨l, s1⟩ := r
 simp only [] at *
 clear hr h
 have g1 := hin.1
 have g2 := hin.2
 clear hin
 by_cases hn : l < 0
 ·rw [if_pos hn]
  have hn' : decide (l < 0) = true := by simpa using hn
  go_enter Tryd.func59, Tryd.ntmps59
  go_wp2_with (first | (go_at_call 69; refine G.out.mono ?_; rintro e w1 ⟨rfl, h1, h2⟩) | (go_at_call 73; refine (rd_Span (l) h1).mono ?_; rintro e w2 ⟨⟨v, rfl, hv⟩, h3, h4⟩))
  go_ret
  exact ⟨⟨_, rfl, .inl ⟨0, .inl rfl, .inl ⟨rfl, rfl, rfl⟩⟩⟩, h1, h2⟩
 ·rw [if_neg hn]
  have hn' : decide (l < 0) = false := by simpa using hn
  have g4 : 0 <= l := by omega
  go_enter Tryd.func59, Tryd.ntmps59
  go_wp2_with (first | (go_at_call 69; refine G.out.mono ?_; rintro e w1 ⟨rfl, h1, h2⟩) | (go_at_call 73; refine (rd_Span (l) h1).mono ?_; rintro e w2 ⟨⟨v, rfl, hv⟩, h3, h4⟩))
  go_ret
  exact ⟨⟨_, rfl, .inl ⟨sb, .inr (.inl rfl), hv⟩⟩, h3, h2.trans h4⟩
/-- what the program's one error holds: an interface value that is not nil -/
def ErrIs (w : World) (ev : Value) : Prop := w.cell? ⟨1, 0, none⟩ = some ev
/-- what Complete answers -/
def endErr (ev : Value) (bad : Bool) : Value := if bad then ev else .nilIface
theorem rd_Complete {w : World} {rb sb : Nat} {s : RS} {ev : Value} (hg : ErrIs w ev) (h : Rd w rb sb s) : Calls Tryd.prog 60 #[.pointer (some ⟨rb, 0, none⟩)] w fun e w' => e = .returned (endErr ev s.bad) /\ w = w' := by
 obtain ⟨ao, cap, hl, hc, h0, h1, f0, f1, K⟩ := h.short
 unfold ErrIs at hg
 unfold endErr
 clear h
 cases hb : s.bad
 ·rw [hb] at h1
  go_enter Tryd.func60, Tryd.ntmps60
  go_wp2
  go_ret
  exact ⟨rfl, rfl⟩
 ·rw [hb] at h1
  go_enter Tryd.func60, Tryd.ntmps60
  go_wp2
  go_ret
  exact ⟨rfl, rfl⟩
end Go.Proofs.YtcldbjehliladaaDoor
