/-
  The contracts of package kbin's reader, third part: Span, texts, octets, lengths of lists, Ok, Complete.
-/
import Derived.Laws.BytesArg
import Derived.Test.YtadfbhmpehnkeaaDoorKRdb
set_option linter.unusedSimpArgs false
set_option linter.unusedVariables false
namespace Go.Proofs.YtadfbhmpehnkeaaDoor
open Go Go.RowKit

theorem fin3 {A A' B C : Prop} (h : A ∧ B ∧ C) (f : A → A') : A' ∧ B ∧ C := ⟨f h.1, h.2⟩

def rdSpan (l : Int) (s : RS) : (List UInt8 × Bool) × RS := if (s.bs.length : Int) < l ∨ l < 0 then (([], true), RS.fail) else ((s.bs.take l.toNat, s.nil), s.skip l.toNat)

theorem Src.take {w W : World} {sb off n cap : Nat} {bs : List UInt8} (hm : Mod none' w W) (hl : ∃ c t fr, w.heap[sb]? = some (.cells c t fr))
    (h : ∀ i (hi : i < bs.length), w.cell? ⟨sb, off + i, none⟩ = some (.int .u8 (bs[i]).toNat)) (hn : n ≤ bs.length) (hcap : n ≤ cap) (hmx : cap ≤ maxLen) :
    Src W (.slice (some ⟨sb, off, none⟩) n cap) sb (bs.take n) false := by
  obtain ⟨c, t, fr, hb⟩ := hl
  refine Src.mk (by simp; omega) hcap hmx ⟨c, t, fr, hm.some hb (fun f => f)⟩ fun i hi => ?_
  simp only [List.length_take] at hi
  have := h i (by omega)
  rw [cell_of_heap hb] at this
  rw [cell_of_heap (hm.some hb (fun f => f)), List.getElem_take]
  exact this

theorem Src.live {w : World} {v : Value} {sb : Nat} {bs : List UInt8} (h : Src w v sb bs false) : ∃ c t fr, w.heap[sb]? = some (.cells c t fr) := by
  rcases h with ⟨h, _⟩ | ⟨_, _, _, c, t, fr, _, _, _, h, _⟩
  · cases h
  · exact ⟨c, t, fr, h⟩

set_option maxHeartbeats 4000000 in
set_option maxRecDepth 100000 in
theorem rd_Span {w : World} {rb sb : Nat} {s : RS} (l : Int) (h : Rd w rb sb s) : Calls Tryd.prog 204 #[.pointer (some ⟨rb, 0, none⟩), .int .i64 l] w fun e w' =>
    (∃ v, e = .returned v ∧ Src w' v sb (rdSpan l s).1.1 (rdSpan l s).1.2) ∧ Rd w' rb sb (rdSpan l s).2 ∧ Mod (only rb) w w' := by
  by_cases hs : (s.bs.length : Int) < l ∨ l < 0
  · have e : rdSpan l s = (([], true), RS.fail) := if_pos hs
    rw [e]
    obtain ⟨ao, cap, hl, hc, h0, h1, f0, f1, K⟩ := h.short
    clear e h
    by_cases h2 : (s.bs.length : Int) < l
    · clear hs
      go_enter Tryd.func204, Tryd.ntmps204
      go_wp2
      go_ret
      exact ⟨⟨_, rfl, .inl ⟨rfl, rfl, rfl⟩⟩, K.out _ (Mod.refl _)⟩
    · have h3 : l < 0 := by omega
      have h2' : l ≤ (s.bs.length : Int) := by omega
      clear hs h2
      go_enter Tryd.func204, Tryd.ntmps204
      go_wp2
      go_ret
      exact ⟨⟨_, rfl, .inl ⟨rfl, rfl, rfl⟩⟩, K.out _ (Mod.refl _)⟩
  · have e : rdSpan l s = ((s.bs.take l.toNat, s.nil), s.skip l.toNat) := if_neg hs
    rw [e]
    have g1 : 0 ≤ l := by omega
    have g2 : l ≤ (s.bs.length : Int) := by omega
    have g3 : ¬ (s.bs.length : Int) < l := by omega
    clear e hs
    unfold RS.skip
    simp only []
    have hh := h
    obtain ⟨hl, hn, src, t, hb, hs⟩ := hh
    have h0 : w.cell? ⟨rb, 0, none⟩ = some src := cell_of_heap hb
    have f0 : w.frozen? ⟨rb, 0, none⟩ = false := frozen_of_heap hb
    rcases hs with ⟨n1, rfl, n3⟩ | ⟨n1, off, cap, c, t', fr, rfl, n4, n5, n6, n7⟩
    · rw [n3] at g2 g3
      have hl0 : l = 0 := by simp at g2; omega
      subst hl0
      have K := Lib.hid (h.put (Mod.refl w) (v := .slice none 0 0) (bs := []) (nil := true) (.inl ⟨rfl, rfl, rfl⟩))
      rw [n3, n1]
      clear n3 n1 h hb
      go_enter Tryd.func204, Tryd.ntmps204
      go_wp2
      go_ret
      exact ⟨⟨_, rfl, .inl ⟨rfl, rfl, rfl⟩⟩, K.out⟩
    · have hcs : ∀ i (hi : i < s.bs.length), w.cell? ⟨sb, off + i, none⟩ = some (.int .u8 (s.bs[i]).toNat) := fun i hi => by rw [cell_of_heap n6]; exact n7 i hi
      have hlive : ∃ c t fr, w.heap[sb]? = some (.cells c t fr) := ⟨c, t', fr, n6⟩
      have K : Hid (∀ off' cap', (off' = off + l.toNat ∨ s.bs.length = l.toNat) → s.bs.length - l.toNat ≤ cap' → cap' ≤ 9223372036854775807 →
          Src (w.setCell ⟨rb, 0, none⟩ (.slice (some ⟨sb, off', none⟩) (s.bs.length - l.toNat) cap')) (.slice (some ⟨sb, off, none⟩) l.toNat l.toNat) sb (s.bs.take l.toNat) s.nil ∧ Rd (w.setCell ⟨rb, 0, none⟩ (.slice (some ⟨sb, off', none⟩) (s.bs.length - l.toNat) cap')) rb sb ⟨s.bs.drop l.toNat, s.nil, s.bad⟩ ∧
          Mod (only rb) w (w.setCell ⟨rb, 0, none⟩ (.slice (some ⟨sb, off', none⟩) (s.bs.length - l.toNat) cap'))) := by
        intro off' cap' ho hc hx
        rw [n1]
        have P := h.put (Mod.refl w) (Src.drop (Mod.refl w) hlive hcs ho hc hx)
        exact ⟨(Src.take (Mod.refl w) hlive hcs (by omega) (Nat.le_refl _) (by unfold maxLen at *; omega)).mod P.2 (fun e => hn e.symm), P⟩
      have n5' : cap ≤ 9223372036854775807 := n5
      clear hcs hlive n6 n7 n1 h hb
      generalize hq : s.bs.length = n at *
      have hk' : l.toNat ≤ n := by omega
      clear hq
      go_enter Tryd.func204, Tryd.ntmps204
      go_wp2
      all_goals go_ret
      all_goals exact fin3 (K.out _ _ (by omega) (by omega) (by omega)) (fun h => ⟨_, rfl, h⟩)

/-- a string of the octets -/
def str (bs : List UInt8) : ByteArray := ⟨bs.toArray⟩
theorem str_list (bs : List UInt8) : (str bs).data.toList = bs := rfl
theorem str_size (bs : List UInt8) : (str bs).size = bs.length := rfl

theorem conv_src {w : World} {v : Value} {sb : Nat} {bs : List UInt8} {nil : Bool} (h : Src w v sb bs nil) : (convert 22 9 v).run Tryd.prog w = .ok (.string (str bs)) w := by
  rcases h with ⟨_, rfl, rfl⟩ | ⟨_, off, cap, c, t, fr, rfl, h3, h4, h5, h6⟩
  · exact run_convert_bytes_nil w _ 5 Tryd.underlying22 Tryd.underlying5 _ _ _ Tryd.underlying9
  · have := run_convert_bytes_arg w 22 5 Tryd.underlying22 Tryd.underlying5 sb off bs.length cap (bs.map fun x => (x.toNat : Int)) (by simp)
      (fun i hi => by rw [cell_of_heap h5, h6 i hi]; simp [hi]) _ Tryd.underlying9
    rw [this]
    simp [strOfNums, str, Function.comp_def]

/-- a pointer to a text, in a block of F; or none -/
def PStr (w : World) (F : Nat → Prop) (v : Value) : Option (List UInt8) → Prop
  | none => v = .pointer none
  | some bs => ∃ k t, F k ∧ v = .pointer (some ⟨k, 0, none⟩) ∧ w.heap[k]? = some (.cells #[.string (str bs)] t (0, 0))
/-- octets in a block of F, or nil -/
def Oct (w : World) (F : Nat → Prop) (v : Value) (bs : List UInt8) (nil : Bool) : Prop := ∃ sb, (nil = true ∨ F sb) ∧ Src w v sb bs nil
abbrev From (w : World) : Nat → Prop := fun k => w.heap.size ≤ k

theorem rdInt16_in (s : RS) : -32768 ≤ (rdInt16 s).1 ∧ (rdInt16 s).1 ≤ 32767 := by
  unfold rdInt16
  split
  · simp only [IntKind.wrap, IntKind.bits, IntKind.signed]
    generalize be16 _ _ = x
    simp
    split <;> omega
  · simp
theorem rdInt32_in (s : RS) : -2147483648 ≤ (rdInt32 s).1 ∧ (rdInt32 s).1 ≤ 2147483647 := by
  unfold rdInt32
  split
  · simp only [wrap32]
    generalize be32 _ _ _ _ = x
    omega
  · simp

def rdStr (s : RS) : List UInt8 × RS := ((rdSpan (rdInt16 s).1 (rdInt16 s).2).1.1, (rdSpan (rdInt16 s).1 (rdInt16 s).2).2)
def rdCStr (s : RS) : List UInt8 × RS := ((rdSpan ((rdUvarint s).1 - 1) (rdUvarint s).2).1.1, (rdSpan ((rdUvarint s).1 - 1) (rdUvarint s).2).2)
def rdNStr (s : RS) : Option (List UInt8) × RS := if (rdInt16 s).1 < 0 then (none, (rdInt16 s).2) else (some (rdStr s).1, (rdStr s).2)
def rdCNStr (s : RS) : Option (List UInt8) × RS := if (rdUvarint s).1 - 1 < 0 then (none, (rdUvarint s).2) else (some (rdCStr s).1, (rdCStr s).2)
/-- octets, and whether they are nil -/
def rdNBytes (s : RS) : (List UInt8 × Bool) × RS := if (rdInt32 s).1 < 0 then (([], true), (rdInt32 s).2) else rdSpan (rdInt32 s).1 (rdInt32 s).2
def rdCNBytes (s : RS) : (List UInt8 × Bool) × RS := if (rdUvarint s).1 - 1 < 0 then (([], true), (rdUvarint s).2) else rdSpan ((rdUvarint s).1 - 1) (rdUvarint s).2
def rdBytes (s : RS) : (List UInt8 × Bool) × RS := if (rdInt32 s).1 = -1 then (([], false), (rdInt32 s).2) else rdSpan (rdInt32 s).1 (rdInt32 s).2
def rdCBytes (s : RS) : (List UInt8 × Bool) × RS := if (rdUvarint s).1 - 1 = -1 then (([], false), (rdUvarint s).2) else rdSpan ((rdUvarint s).1 - 1) (rdUvarint s).2
def lenOr (r : Int) (s : RS) : Int × RS := if (s.bs.length : Int) < r then (0, RS.fail) else (r, s)
def rdALen (s : RS) : Int × RS := lenOr (rdInt32 s).1 (rdInt32 s).2
def rdCALen (s : RS) : Int × RS := lenOr (wrap32 (wrap32 (rdUvarint s).1 - 1)) (rdUvarint s).2

theorem go_UnsafeString {w : World} {v : Value} {sb : Nat} {bs : List UInt8} {nil : Bool} (h : Src w v sb bs nil) : Calls Tryd.prog 206 #[v] w fun e w' => e = .returned (.string (str bs)) ∧ w = w' := by
  have hc := conv_src h
  clear h
  go_enter Tryd.func206, Tryd.ntmps206
  go_wp2
  go_ret
  exact ⟨rfl, rfl⟩

set_option maxHeartbeats 4000000 in
set_option maxRecDepth 100000 in
theorem rd_String {w : World} {rb sb : Nat} {s : RS} (h : Rd w rb sb s) : Calls Tryd.prog 160 #[.pointer (some ⟨rb, 0, none⟩)] w fun e w' =>
    e = .returned (.string (str (rdStr s).1)) ∧ Rd w' rb sb (rdStr s).2 ∧ Mod (only rb) w w' := by
  have G := Lib.hid (rd_Int16 h)
  have hin := rdInt16_in s
  unfold rdStr
  generalize hr : rdInt16 s = r at *
  obtain ⟨l, s1⟩ := r
  simp only [] at *
  clear hr h
  have g1 := hin.1
  have g2 := hin.2
  clear hin
  go_enter Tryd.func160, Tryd.ntmps160
  go_wp2_with (first | (go_at_call 161; refine G.out.mono ?_; rintro e w1 ⟨rfl, h1, h2⟩) | (go_at_call 204; refine (rd_Span (l) h1).mono ?_; rintro e w2 ⟨⟨v, rfl, hv⟩, h3, h4⟩; have hc := conv_src hv))
  go_ret
  exact ⟨rfl, h3, h2.trans h4⟩

set_option maxHeartbeats 4000000 in
set_option maxRecDepth 100000 in
theorem rd_NullableString {w : World} {rb sb : Nat} {s : RS} (h : Rd w rb sb s) : Calls Tryd.prog 165 #[.pointer (some ⟨rb, 0, none⟩)] w fun e w' =>
    (∃ v, e = .returned v ∧ PStr w' (From w) v (rdNStr s).1) ∧ Rd w' rb sb (rdNStr s).2 ∧ Mod (only rb) w w' := by
  have G := Lib.hid (rd_Int16 h)
  have hin := rdInt16_in s
  unfold rdNStr
  unfold rdStr
  generalize hr : rdInt16 s = r at *
  obtain ⟨l, s1⟩ := r
  simp only [] at *
  clear hr h
  have g1 := hin.1
  have g2 := hin.2
  clear hin
  by_cases hn : l < 0
  · rw [if_pos hn]
    have hn' : decide (l < 0) = true := by simpa using hn
    go_enter Tryd.func165, Tryd.ntmps165
    go_wp2_with (first | (go_at_call 161; refine G.out.mono ?_; rintro e w1 ⟨rfl, h1, h2⟩) | (go_at_call 204; refine (rd_Span (l) h1).mono ?_; rintro e w2 ⟨⟨v, rfl, hv⟩, h3, h4⟩; have hc := conv_src hv))
    go_ret
    exact ⟨⟨_, rfl, rfl⟩, h1, h2⟩
  · rw [if_neg hn]
    have hn' : decide (l < 0) = false := by simpa using hn
    have g4 : 0 ≤ l := by omega
    go_enter Tryd.func165, Tryd.ntmps165
    go_wp2_with (first | (go_at_call 161; refine G.out.mono ?_; rintro e w1 ⟨rfl, h1, h2⟩) | (go_at_call 204; refine (rd_Span (l) h1).mono ?_; rintro e w2 ⟨⟨v, rfl, hv⟩, h3, h4⟩; have hc := conv_src hv))
    go_ret
    have g6 : w.heap.size ≤ w2.heap.size := Nat.le_trans h2.size h4.size
    refine ⟨⟨_, rfl, w2.heap.size, 9, g6, rfl, heap_alloc_new _ _⟩, h3.mod ((Mod.refl (S := none') w2).alloc _) (fun f => f) (fun f => f), (h2.trans h4).alloc _⟩

set_option maxHeartbeats 4000000 in
set_option maxRecDepth 100000 in
theorem rd_UnsafeString {w : World} {rb sb : Nat} {s : RS} (h : Rd w rb sb s) : Calls Tryd.prog 158 #[.pointer (some ⟨rb, 0, none⟩)] w fun e w' =>
    e = .returned (.string (str (rdStr s).1)) ∧ Rd w' rb sb (rdStr s).2 ∧ Mod (only rb) w w' := by
  have G := Lib.hid (rd_Int16 h)
  have hin := rdInt16_in s
  unfold rdStr
  generalize hr : rdInt16 s = r at *
  obtain ⟨l, s1⟩ := r
  simp only [] at *
  clear hr h
  have g1 := hin.1
  have g2 := hin.2
  clear hin
  go_enter Tryd.func158, Tryd.ntmps158
  go_wp2_with (first | (go_at_call 161; refine G.out.mono ?_; rintro e w1 ⟨rfl, h1, h2⟩) | (go_at_call 204; refine (rd_Span (l) h1).mono ?_; rintro e w2 ⟨⟨v, rfl, hv⟩, h3, h4⟩) | (go_at_call 206; refine (go_UnsafeString hv).mono ?_; rintro e w3 ⟨rfl, rfl⟩))
  go_ret
  exact ⟨rfl, h3, h2.trans h4⟩

set_option maxHeartbeats 4000000 in
set_option maxRecDepth 100000 in
theorem rd_UnsafeNullableString {w : World} {rb sb : Nat} {s : RS} (h : Rd w rb sb s) : Calls Tryd.prog 164 #[.pointer (some ⟨rb, 0, none⟩)] w fun e w' =>
    (∃ v, e = .returned v ∧ PStr w' (From w) v (rdNStr s).1) ∧ Rd w' rb sb (rdNStr s).2 ∧ Mod (only rb) w w' := by
  have G := Lib.hid (rd_Int16 h)
  have hin := rdInt16_in s
  unfold rdNStr
  unfold rdStr
  generalize hr : rdInt16 s = r at *
  obtain ⟨l, s1⟩ := r
  simp only [] at *
  clear hr h
  have g1 := hin.1
  have g2 := hin.2
  clear hin
  by_cases hn : l < 0
  · rw [if_pos hn]
    have hn' : decide (l < 0) = true := by simpa using hn
    go_enter Tryd.func164, Tryd.ntmps164
    go_wp2_with (first | (go_at_call 161; refine G.out.mono ?_; rintro e w1 ⟨rfl, h1, h2⟩) | (go_at_call 204; refine (rd_Span (l) h1).mono ?_; rintro e w2 ⟨⟨v, rfl, hv⟩, h3, h4⟩) | (go_at_call 206; refine (go_UnsafeString hv).mono ?_; rintro e w3 ⟨rfl, rfl⟩))
    go_ret
    exact ⟨⟨_, rfl, rfl⟩, h1, h2⟩
  · rw [if_neg hn]
    have hn' : decide (l < 0) = false := by simpa using hn
    have g4 : 0 ≤ l := by omega
    go_enter Tryd.func164, Tryd.ntmps164
    go_wp2_with (first | (go_at_call 161; refine G.out.mono ?_; rintro e w1 ⟨rfl, h1, h2⟩) | (go_at_call 204; refine (rd_Span (l) h1).mono ?_; rintro e w2 ⟨⟨v, rfl, hv⟩, h3, h4⟩) | (go_at_call 206; refine (go_UnsafeString hv).mono ?_; rintro e w3 ⟨rfl, rfl⟩))
    go_ret
    have g6 : w.heap.size ≤ w2.heap.size := Nat.le_trans h2.size h4.size
    refine ⟨⟨_, rfl, w2.heap.size, 9, g6, rfl, heap_alloc_new _ _⟩, h3.mod ((Mod.refl (S := none') w2).alloc _) (fun f => f) (fun f => f), (h2.trans h4).alloc _⟩

set_option maxHeartbeats 4000000 in
set_option maxRecDepth 100000 in
theorem rd_CompactString {w : World} {rb sb : Nat} {s : RS} (h : Rd w rb sb s) : Calls Tryd.prog 159 #[.pointer (some ⟨rb, 0, none⟩)] w fun e w' =>
    e = .returned (.string (str (rdCStr s).1)) ∧ Rd w' rb sb (rdCStr s).2 ∧ Mod (only rb) w w' := by
  have G := Lib.hid (rd_Uvarint h)
  have hin := rdUvarint_in s
  unfold rdCStr
  generalize hr : rdUvarint s = r at *
  obtain ⟨l, s1⟩ := r
  simp only [] at *
  clear hr h
  have g1 := hin.1
  have g2 := hin.2
  clear hin
  have g3 : l ≤ 4294967295 := by omega
  go_enter Tryd.func159, Tryd.ntmps159
  go_wp2_with (first | (go_at_call 202; refine G.out.mono ?_; rintro e w1 ⟨rfl, h1, h2⟩) | (go_at_call 204; refine (rd_Span ((l - 1)) h1).mono ?_; rintro e w2 ⟨⟨v, rfl, hv⟩, h3, h4⟩; have hc := conv_src hv))
  go_ret
  exact ⟨rfl, h3, h2.trans h4⟩

set_option maxHeartbeats 4000000 in
set_option maxRecDepth 100000 in
theorem rd_CompactNullableString {w : World} {rb sb : Nat} {s : RS} (h : Rd w rb sb s) : Calls Tryd.prog 163 #[.pointer (some ⟨rb, 0, none⟩)] w fun e w' =>
    (∃ v, e = .returned v ∧ PStr w' (From w) v (rdCNStr s).1) ∧ Rd w' rb sb (rdCNStr s).2 ∧ Mod (only rb) w w' := by
  have G := Lib.hid (rd_Uvarint h)
  have hin := rdUvarint_in s
  unfold rdCNStr
  unfold rdCStr
  generalize hr : rdUvarint s = r at *
  obtain ⟨l, s1⟩ := r
  simp only [] at *
  clear hr h
  have g1 := hin.1
  have g2 := hin.2
  clear hin
  have g3 : l ≤ 4294967295 := by omega
  by_cases hn : l - 1 < 0
  · rw [if_pos hn]
    have hn' : decide (l - 1 < 0) = true := by simpa using hn
    obtain rfl : l = 0 := by omega
    clear hn hn'
    go_enter Tryd.func163, Tryd.ntmps163
    go_wp2_with (first | (go_at_call 202; refine G.out.mono ?_; rintro e w1 ⟨rfl, h1, h2⟩) | (go_at_call 204; refine (rd_Span ((l - 1)) h1).mono ?_; rintro e w2 ⟨⟨v, rfl, hv⟩, h3, h4⟩; have hc := conv_src hv))
    go_ret
    exact ⟨⟨_, rfl, rfl⟩, h1, h2⟩
  · rw [if_neg hn]
    have hn' : decide (l - 1 < 0) = false := by simpa using hn
    have g4 : 0 ≤ l - 1 := by omega
    have g5 : 1 ≤ l := by omega
    go_enter Tryd.func163, Tryd.ntmps163
    go_wp2_with (first | (go_at_call 202; refine G.out.mono ?_; rintro e w1 ⟨rfl, h1, h2⟩) | (go_at_call 204; refine (rd_Span ((l - 1)) h1).mono ?_; rintro e w2 ⟨⟨v, rfl, hv⟩, h3, h4⟩; have hc := conv_src hv))
    go_ret
    have g6 : w.heap.size ≤ w2.heap.size := Nat.le_trans h2.size h4.size
    refine ⟨⟨_, rfl, w2.heap.size, 9, g6, rfl, heap_alloc_new _ _⟩, h3.mod ((Mod.refl (S := none') w2).alloc _) (fun f => f) (fun f => f), (h2.trans h4).alloc _⟩

set_option maxHeartbeats 4000000 in
set_option maxRecDepth 100000 in
theorem rd_UnsafeCompactString {w : World} {rb sb : Nat} {s : RS} (h : Rd w rb sb s) : Calls Tryd.prog 157 #[.pointer (some ⟨rb, 0, none⟩)] w fun e w' =>
    e = .returned (.string (str (rdCStr s).1)) ∧ Rd w' rb sb (rdCStr s).2 ∧ Mod (only rb) w w' := by
  have G := Lib.hid (rd_Uvarint h)
  have hin := rdUvarint_in s
  unfold rdCStr
  generalize hr : rdUvarint s = r at *
  obtain ⟨l, s1⟩ := r
  simp only [] at *
  clear hr h
  have g1 := hin.1
  have g2 := hin.2
  clear hin
  have g3 : l ≤ 4294967295 := by omega
  go_enter Tryd.func157, Tryd.ntmps157
  go_wp2_with (first | (go_at_call 202; refine G.out.mono ?_; rintro e w1 ⟨rfl, h1, h2⟩) | (go_at_call 204; refine (rd_Span ((l - 1)) h1).mono ?_; rintro e w2 ⟨⟨v, rfl, hv⟩, h3, h4⟩) | (go_at_call 206; refine (go_UnsafeString hv).mono ?_; rintro e w3 ⟨rfl, rfl⟩))
  go_ret
  exact ⟨rfl, h3, h2.trans h4⟩

set_option maxHeartbeats 4000000 in
set_option maxRecDepth 100000 in
theorem rd_UnsafeCompactNullableString {w : World} {rb sb : Nat} {s : RS} (h : Rd w rb sb s) : Calls Tryd.prog 162 #[.pointer (some ⟨rb, 0, none⟩)] w fun e w' =>
    (∃ v, e = .returned v ∧ PStr w' (From w) v (rdCNStr s).1) ∧ Rd w' rb sb (rdCNStr s).2 ∧ Mod (only rb) w w' := by
  have G := Lib.hid (rd_Uvarint h)
  have hin := rdUvarint_in s
  unfold rdCNStr
  unfold rdCStr
  generalize hr : rdUvarint s = r at *
  obtain ⟨l, s1⟩ := r
  simp only [] at *
  clear hr h
  have g1 := hin.1
  have g2 := hin.2
  clear hin
  have g3 : l ≤ 4294967295 := by omega
  by_cases hn : l - 1 < 0
  · rw [if_pos hn]
    have hn' : decide (l - 1 < 0) = true := by simpa using hn
    obtain rfl : l = 0 := by omega
    clear hn hn'
    go_enter Tryd.func162, Tryd.ntmps162
    go_wp2_with (first | (go_at_call 202; refine G.out.mono ?_; rintro e w1 ⟨rfl, h1, h2⟩) | (go_at_call 204; refine (rd_Span ((l - 1)) h1).mono ?_; rintro e w2 ⟨⟨v, rfl, hv⟩, h3, h4⟩) | (go_at_call 206; refine (go_UnsafeString hv).mono ?_; rintro e w3 ⟨rfl, rfl⟩))
    go_ret
    exact ⟨⟨_, rfl, rfl⟩, h1, h2⟩
  · rw [if_neg hn]
    have hn' : decide (l - 1 < 0) = false := by simpa using hn
    have g4 : 0 ≤ l - 1 := by omega
    have g5 : 1 ≤ l := by omega
    go_enter Tryd.func162, Tryd.ntmps162
    go_wp2_with (first | (go_at_call 202; refine G.out.mono ?_; rintro e w1 ⟨rfl, h1, h2⟩) | (go_at_call 204; refine (rd_Span ((l - 1)) h1).mono ?_; rintro e w2 ⟨⟨v, rfl, hv⟩, h3, h4⟩) | (go_at_call 206; refine (go_UnsafeString hv).mono ?_; rintro e w3 ⟨rfl, rfl⟩))
    go_ret
    have g6 : w.heap.size ≤ w2.heap.size := Nat.le_trans h2.size h4.size
    refine ⟨⟨_, rfl, w2.heap.size, 9, g6, rfl, heap_alloc_new _ _⟩, h3.mod ((Mod.refl (S := none') w2).alloc _) (fun f => f) (fun f => f), (h2.trans h4).alloc _⟩





set_option maxHeartbeats 4000000 in
set_option maxRecDepth 100000 in
theorem rd_ArrayLen {w : World} {rb sb : Nat} {s : RS} (h : Rd w rb sb s) : Calls Tryd.prog 153 #[.pointer (some ⟨rb, 0, none⟩)] w fun e w' =>
    e = .returned (.int .i32 (rdALen s).1) ∧ Rd w' rb sb (rdALen s).2 ∧ Mod (only rb) w w' := by
  have G := Lib.hid (rd_Int32 h)
  have hin := rdInt32_in s
  unfold rdALen lenOr
  generalize hr : rdInt32 s = r at *
  obtain ⟨l, s1⟩ := r
  simp only [] at *
  clear hr h
  have g1 := hin.1
  have g2 := hin.2
  clear hin
  by_cases hn : (s1.bs.length : Int) < l
  · rw [if_pos hn]
    go_enter Tryd.func153, Tryd.ntmps153
    go_wp2_with (first | (go_at_call 151; refine G.out.mono ?_; rintro e w1 ⟨rfl, h1, h2⟩; obtain ⟨ao, cap, hl, hc, i0, i1, f0, f1, K⟩ := h1.short))
    go_ret
    have KK := K.out _ (Mod.refl _)
    exact ⟨rfl, KK.1, h2.trans KK.2⟩
  · rw [if_neg hn]
    have hn' : l ≤ (s1.bs.length : Int) := by omega
    go_enter Tryd.func153, Tryd.ntmps153
    go_wp2_with (first | (go_at_call 151; refine G.out.mono ?_; rintro e w1 ⟨rfl, h1, h2⟩; obtain ⟨ao, cap, hl, hc, i0, i1, f0, f1, K⟩ := h1.short))
    go_ret
    exact ⟨rfl, h1, h2⟩

set_option maxHeartbeats 4000000 in
set_option maxRecDepth 100000 in
theorem rd_CompactArrayLen {w : World} {rb sb : Nat} {s : RS} (h : Rd w rb sb s) : Calls Tryd.prog 152 #[.pointer (some ⟨rb, 0, none⟩)] w fun e w' =>
    e = .returned (.int .i32 (rdCALen s).1) ∧ Rd w' rb sb (rdCALen s).2 ∧ Mod (only rb) w w' := by
  have G := Lib.hid (rd_Uvarint h)
  have hin := rdUvarint_in s
  unfold rdCALen lenOr
  generalize hr : rdUvarint s = r at *
  obtain ⟨l, s1⟩ := r
  simp only [] at *
  clear hr h
  have g1 := hin.1
  have g2 := hin.2
  clear hin
  have g4 : -2147483648 ≤ wrap32 (wrap32 l - 1) ∧ wrap32 (wrap32 l - 1) ≤ 2147483647 := by unfold wrap32; omega
  have g7 : wrap64 (wrap32 (wrap32 l - 1)) = wrap32 (wrap32 l - 1) := by unfold wrap64; omega
  have g5 := g4.1
  have g6 := g4.2
  clear g4
  by_cases hn : (s1.bs.length : Int) < (wrap32 (wrap32 l - 1))
  · rw [if_pos hn]
    go_enter Tryd.func152, Tryd.ntmps152
    go_wp2_with (first | (go_at_call 202; refine G.out.mono ?_; rintro e w1 ⟨rfl, h1, h2⟩; obtain ⟨ao, cap, hl, hc, i0, i1, f0, f1, K⟩ := h1.short))
    go_ret
    have KK := K.out _ (Mod.refl _)
    exact ⟨rfl, KK.1, h2.trans KK.2⟩
  · rw [if_neg hn]
    have hn' : (wrap32 (wrap32 l - 1)) ≤ (s1.bs.length : Int) := by omega
    go_enter Tryd.func152, Tryd.ntmps152
    go_wp2_with (first | (go_at_call 202; refine G.out.mono ?_; rintro e w1 ⟨rfl, h1, h2⟩; obtain ⟨ao, cap, hl, hc, i0, i1, f0, f1, K⟩ := h1.short))
    go_ret
    exact ⟨rfl, h1, h2⟩

theorem rd_Ok {w : World} {rb sb : Nat} {s : RS} (h : Rd w rb sb s) : Calls Tryd.prog 154 #[.pointer (some ⟨rb, 0, none⟩)] w fun e w' => e = .returned (.bool (!s.bad)) ∧ w = w' := by
  obtain ⟨ao, cap, hl, hc, h0, h1, f0, f1, K⟩ := h.short
  clear h
  go_enter Tryd.func154, Tryd.ntmps154
  go_wp2
  go_ret
  exact ⟨rfl, rfl⟩

/-- what the program's one error holds: an interface value that is not nil -/
def ErrIs (w : World) (ev : Value) : Prop := w.cell? ⟨1, 0, none⟩ = some ev
/-- what Complete answers -/
def endErr (ev : Value) (bad : Bool) : Value := if bad then ev else .nilIface
theorem rd_Complete {w : World} {rb sb : Nat} {s : RS} {ev : Value} (hg : ErrIs w ev) (h : Rd w rb sb s) : Calls Tryd.prog 155 #[.pointer (some ⟨rb, 0, none⟩)] w fun e w' => e = .returned (endErr ev s.bad) ∧ w = w' := by
  obtain ⟨ao, cap, hl, hc, h0, h1, f0, f1, K⟩ := h.short
  unfold ErrIs at hg
  unfold endErr
  clear h
  cases hb : s.bad
  · rw [hb] at h1
    go_enter Tryd.func155, Tryd.ntmps155
    go_wp2
    go_ret
    exact ⟨rfl, rfl⟩
  · rw [hb] at h1
    go_enter Tryd.func155, Tryd.ntmps155
    go_wp2
    go_ret
    exact ⟨rfl, rfl⟩

end Go.Proofs.YtadfbhmpehnkeaaDoor
