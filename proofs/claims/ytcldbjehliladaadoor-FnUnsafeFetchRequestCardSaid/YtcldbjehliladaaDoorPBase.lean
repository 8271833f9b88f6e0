/-
  Worlds that keep all blocks but some; the reader of package kbin as a list of octets. No program in it.
-/
import Derived.Below
import Derived.Deep.Draws
import Derived.OneCell
import Derived.Lib.Hide
namespace Go.Proofs.YtcldbjehliladaaDoor
open Go Go.RowKit
/-- what was there stays, but for the blocks of S -/
structure Mod (S : Nat -> Prop) (w w' : World) : Prop where
 os : w'.os = w.os
 tape : w'.tape = w.tape
 output : w'.output = w.output
 size : w.heap.size <= w'.heap.size
 block : ∀ k, k < w.heap.size -> ¬ S k -> w'.heap[k]? = w.heap[k]?
abbrev none' : Nat -> Prop := fun _ => False
abbrev only (b : Nat) : Nat -> Prop := fun k => k = b
theorem Mod.refl {S : Nat -> Prop} (w : World) : Mod S w w := ⟨rfl, rfl, rfl, Nat.le_refl _, fun _ _ _ => rfl⟩
theorem Mod.trans' {S S' S'' : Nat -> Prop} {a b c : World} (h : Mod S a b) (k : Mod S' b c) (h1 : ∀ i, i < a.heap.size -> S i -> S'' i)
    (h2 : ∀ i, i < a.heap.size -> S' i -> S'' i) : Mod S'' a c :=
  ⟨k.os.trans h.os, k.tape.trans h.tape, k.output.trans h.output, Nat.le_trans h.size k.size,
   fun i hi hn => (k.block i (Nat.lt_of_lt_of_le hi h.size) (fun hs => hn (h2 i hi hs))).trans (h.block i hi (fun hs => hn (h1 i hi hs)))⟩
theorem Mod.trans {S : Nat -> Prop} {a b c : World} (h : Mod S a b) (k : Mod S b c) : Mod S a c := h.trans' k (fun _ _ h => h) (fun _ _ h => h)
theorem Mod.mono {S S' : Nat -> Prop} {a b : World} (h : Mod S a b) (hs : ∀ i, i < a.heap.size -> S i -> S' i) : Mod S' a b :=
 h.trans' (Mod.refl b) hs (fun i hi hk => hs i hi hk)
theorem Mod.drew {S : Nat -> Prop} {a w : World} (h : Mod S a w) : Mod S a w.drew := ⟨h.os, h.tape, h.output, h.size, h.block⟩
theorem Mod.drewN {S : Nat -> Prop} {a w : World} (h : Mod S a w) (n : Nat) : Mod S a (w.drewN n) := ⟨h.os, h.tape, h.output, h.size, h.block⟩
theorem Mod.alloc {S : Nat -> Prop} {a w : World} (h : Mod S a w) (o : Obj) : Mod S a (w.alloc o) :=
 h.trans (c := w.alloc o) ⟨rfl, rfl, rfl, by simp, fun k hk _ => Below.heap_alloc _ _ _ hk⟩
theorem Mod.setCell {S : Nat -> Prop} {a w : World} (h : Mod S a w) {p : Addr} (hp : S p.block \/ a.heap.size <= p.block) (u : Value) : Mod S a (w.setCell p u) :=
 h.trans' (S' := fun k => k = p.block) ⟨rfl, rfl, rfl, by simp, fun k _ hn => Below.heap_setCell _ _ _ _ hn⟩ (fun _ _ h => h)
  (fun i hi he => by rcases hp with hp | hp; exact he ▸ hp; omega)
theorem Mod.below {a b : World} (h : Mod none' a b) : Below a.heap.size a b := ⟨h.os, h.tape, h.output, h.size, fun k hk => h.block k hk (fun f => f)⟩
theorem Mod.some {S : Nat -> Prop} {a b : World} (h : Mod S a b) {k : Nat} {o : Obj} (ho : a.heap[k]? = some o) (hk : ¬ S k) : b.heap[k]? = some o :=
 (h.block k (lt_of_block ho) hk).trans ho
theorem Mod.lt {S : Nat -> Prop} {a b : World} (h : Mod S a b) {k : Nat} (hk : k < a.heap.size) : k < b.heap.size := Nat.lt_of_lt_of_le hk h.size
/-- a block's cells after a store into it -/
theorem heap_setCell_same {w : World} {k o : Nat} {c : Array Value} {t : TypeId} {fr : Nat × Nat} (h : w.heap[k]? = some (.cells c t fr)) (v : Value) :
  (w.setCell ⟨k, o, none⟩ v).heap[k]? = some (.cells (c.setIfInBounds o v) t fr) := by
 simp only [World.setCell, Array.getElem?_modify, if_true, h, Option.map_some]
 rfl
theorem Zh (w : World) (o : Obj) : (w.alloc o).heap[w.heap.size]? = some o := Array.getElem?_push_size
theorem heap_alloc_old {w : World} {k : Nat} (h : k < w.heap.size) (o : Obj) : (w.alloc o).heap[k]? = w.heap[k]? := Below.heap_alloc _ _ _ h
theorem Zc {w : World} {k i : Nat} {c : Array Value} {t : TypeId} {fr : Nat × Nat} (h : w.heap[k]? = some (.cells c t fr)) : w.cell? ⟨k, i, none⟩ = c[i]? := by
 simp [World.cell?, h]
theorem Zz {w : World} {k i : Nat} {c : Array Value} {t : TypeId} (h : w.heap[k]? = some (.cells c t (0, 0))) : w.frozen? ⟨k, i, none⟩ = false := by
 simp [World.frozen?, h]
/-- what a reader still has to read: octets; whether its slice is nil; whether it has failed -/
structure RS where
 bs : List UInt8
 nil : Bool
 bad : Bool
/-- a slice value that holds octets, in block sb (or nil) -/
def Src (w : World) (v : Value) (sb : Nat) (bs : List UInt8) (nil : Bool) : Prop :=
 (nil = true /\ v = .slice none 0 0 /\ bs = []) \/
 (nil = false /\ ∃ off cap c t fr, v = .slice (some ⟨sb, off, none⟩) bs.length cap /\ bs.length <= cap /\ cap <= maxLen /\ w.heap[sb]? = some (.cells c t fr) /\
  ∀ i (h : i < bs.length), c[off + i]? = some (.int .u8 (bs[i]).toNat))
theorem Src.mod {S : Nat -> Prop} {w w' : World} {v : Value} {sb : Nat} {bs : List UInt8} {nil : Bool} (h : Src w v sb bs nil) (hm : Mod S w w') (hs : ¬ S sb) : Src w' v sb bs nil := by
 rcases h with h | ⟨h1, off, cap, c, t, fr, h2, h3, h4, h5, h6⟩
 ·exact .inl h
 ·exact .inr ⟨h1, off, cap, c, t, fr, h2, h3, h4, hm.some h5 hs, h6⟩
/-- the reader in block rb, over the octets in block sb -/
def Rd (w : World) (rb sb : Nat) (s : RS) : Prop :=
 rb < w.heap.size /\ rb ≠ sb /\ ∃ src t, w.heap[rb]? = some (.cells #[src, .bool s.bad] t (0, 0)) /\ Src w src sb s.bs s.nil
theorem Rd.mod {S : Nat -> Prop} {w w' : World} {rb sb : Nat} {s : RS} (h : Rd w rb sb s) (hm : Mod S w w') (h1 : ¬ S rb) (h2 : ¬ S sb) : Rd w' rb sb s := by
 obtain ⟨hl, hn, src, t, hb, hs⟩ := h
 exact ⟨hm.lt hl, hn, src, t, hm.some hb h1, hs.mod hm h2⟩
def RS.fail : RS := ⟨[], true, true⟩
def RS.skip (s : RS) (n : Nat) : RS := ⟨s.bs.drop n, s.nil, s.bad⟩
/-- the reader's slice laid open -/
theorem Rd.open {w : World} {rb sb : Nat} {s : RS} (h : Rd w rb sb s) : rb < w.heap.size /\ rb ≠ sb /\ ∃ ao cap t, w.heap[rb]? = some (.cells #[.slice ao s.bs.length cap, .bool s.bad] t (0, 0)) /\
  s.bs.length <= cap /\ cap <= maxLen /\ (ao = none -> s.nil = true /\ s.bs = [] /\ cap = 0) /\
  (∀ a, ao = some a -> s.nil = false /\ a.block = sb /\ a.spot = none /\ (∃ c t fr, w.heap[sb]? = some (.cells c t fr)) /\ ∀ i (hi : i < s.bs.length), w.cell? ⟨sb, a.off + i, none⟩ = some (.int .u8 (s.bs[i]).toNat)) := by
 obtain ⟨hl, hn, src, t, hb, hs⟩ := h
 rcases hs with ⟨h1, h2, h3⟩ | ⟨h1, off, cap, c, t', fr, h2, h3, h4, h5, h6⟩
 ·exact ⟨hl, hn, none, 0, t, by rw [h3, hb, h2]; rfl, by simp [h3], by simp, fun _ => ⟨h1, h3, rfl⟩, fun a ha => by cases ha⟩
 ·refine ⟨hl, hn, some ⟨sb, off, none⟩, cap, t, by rw [hb, h2], h3, h4, fun ha => (by cases ha), fun a ha => ?_⟩
  cases ha
  exact ⟨h1, rfl, rfl, ⟨c, t', fr, h5⟩, fun i hi => by rw [Zc h5]; exact h6 i hi⟩
theorem Mod.put {k : Nat} {a w : World} (h : Mod (only k) a w) (o : Nat) (u : Value) : Mod (only k) a (w.setCell ⟨k, o, none⟩ u) := h.setCell (p := ⟨k, o, none⟩) (.inl rfl) u
theorem Mod.none {S : Nat -> Prop} {a w : World} (h : Mod none' a w) : Mod S a w := h.mono fun _ _ f => f.elim
theorem Rd.fail {w W : World} {rb sb : Nat} {s : RS} (h : Rd w rb sb s) (hm : Mod none' w W) :
  Rd ((W.setCell ⟨rb, 1, none⟩ (.bool true)).setCell ⟨rb, 0, none⟩ (.slice none 0 0)) rb sb RS.fail /\
  Mod (only rb) w ((W.setCell ⟨rb, 1, none⟩ (.bool true)).setCell ⟨rb, 0, none⟩ (.slice none 0 0)) := by
 obtain ⟨hl, hn, src, t, hb, hs⟩ := h
 have hb' := hm.some hb (fun f => f)
 refine ⟨⟨by simp; exact hm.lt hl, hn, .slice .none 0 0, t, ?_, .inl ⟨rfl, rfl, rfl⟩⟩, (hm.none.put _ _).put _ _⟩
 rw [heap_setCell_same (heap_setCell_same hb' _)]
 rfl
theorem Rd.put {w W : World} {rb sb : Nat} {s : RS} (h : Rd w rb sb s) (hm : Mod none' w W) {v : Value} {bs : List UInt8} {nil : Bool} (hv : Src W v sb bs nil) :
  Rd (W.setCell ⟨rb, 0, none⟩ v) rb sb ⟨bs, nil, s.bad⟩ /\ Mod (only rb) w (W.setCell ⟨rb, 0, none⟩ v) := by
 obtain ⟨hl, hn, src, t, hb, hs⟩ := h
 have hb' := hm.some hb (fun f => f)
 have hm' : Mod (only rb) W (W.setCell ⟨rb, 0, none⟩ v) := (Mod.refl W).put _ _
 refine ⟨⟨by simp; exact hm.lt hl, hn, v, t, ?_, hv.mod hm' (fun e => hn e.symm)⟩, hm.none.put _ _⟩
 rw [heap_setCell_same hb' _]
 rfl
/-- cells that hold octets, as a slice value -/
theorem Src.mk {w : World} {sb off n cap : Nat} {bs : List UInt8} (hn : bs.length = n) (hc : n <= cap) (hm : cap <= maxLen) (hl : ∃ c t fr, w.heap[sb]? = some (.cells c t fr))
  (h : ∀ i (hi : i < bs.length), w.cell? ⟨sb, off + i, .none⟩ = some (.int .u8 (bs[i]).toNat)) : Src w (.slice (some ⟨sb, off, .none⟩) n cap) sb bs false := by
 obtain ⟨c, t, fr, hb⟩ := hl
 subst hn
 exact .inr ⟨rfl, off, cap, c, t, fr, rfl, hc, hm, hb, fun i hi => by rw [<- Zc hb]; exact h i hi⟩
theorem Src.drop {w W : World} {sb off n cap : Nat} {bs : List UInt8} (hm : Mod none' w W) (hl : ∃ c t fr, w.heap[sb]? = some (.cells c t fr))
  (h : ∀ i (hi : i < bs.length), w.cell? ⟨sb, off + i, .none⟩ = some (.int .u8 (bs[i]).toNat)) {off' : Nat} (ho : off' = off + n \/ bs.length = n) (hcap : bs.length - n <= cap) (hmx : cap <= maxLen) :
  Src W (.slice (some ⟨sb, off', .none⟩) (bs.length - n) cap) sb (bs.drop n) false := by
 obtain ⟨c, t, fr, hb⟩ := hl
 refine Src.mk (by simp) hcap hmx ⟨c, t, fr, hm.some hb (fun f => f)⟩ fun i hi => ?_
 simp only [List.length_drop] at hi
 rcases ho with ho | ho
 ·have := h (n + i) (by omega)
  rw [Zc hb] at this
  rw [Zc (hm.some hb (fun f => f)), List.getElem_drop, ho, Nat.add_assoc]
  exact this
 ·omega
end Go.Proofs.YtcldbjehliladaaDoor
