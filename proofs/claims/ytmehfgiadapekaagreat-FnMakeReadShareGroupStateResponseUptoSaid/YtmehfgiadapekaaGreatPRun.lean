/-
  The contracts of package kbin's reader: what each method of it answers, and what it leaves to be read. First: binary.BigEndian, Bool, Int8, Int16, Int32, readUint64, Int64, Span.
  The contracts of package kbin's reader, second part: Uvarint, Span, texts, octets, lengths of lists, Complete, Ok.
  The contracts of package kbin's reader, third part: Span, texts, octets, lengths of lists, Ok, Complete.
  Trees as plain data; what lies in memory as such a tree. No program in it.
  Rules for the code that reads a message: what a piece of such code does, told by the pieces that it is made of.
-/
import Derived.Test.YtmehfgiadapekaaGreatChecked
import Derived.WalkKit
import Derived.ProofKit
import Derived.OpenShut
import Derived.Deep.QuietTactic
import Derived.BigQuiet
import Derived.RegionCalls
import Derived.Deep.RegionWith
import Derived.StillTailTactics
import Derived.Lib.Hide
import Derived.ScopeJumps
import Derived.Lib.VarintBits
import Derived.Laws.BytesArg
import Derived.Test.YtmehfgiadapekaaGreatPOps
set_option linter.unusedSimpArgs false
set_option linter.unusedVariables false
set_option linter.unusedSimpArgs false
set_option linter.unusedVariables false
namespace Go.Proofs.YtmehfgiadapekaaGreat
open Go Go.RowKit
def lo7 (x : UInt8) : Int := bits BinOp.and IntKind.u8 (x.toNat : Int) 127 % 4294967296
def uv1 (x0 : UInt8) : Int := lo7 x0
def uv2 (x0 x1 : UInt8) : Int := bits BinOp.or IntKind.u32 (uv1 x0) (lo7 x1 * 128 % 4294967296)
def uv3 (x0 x1 x2 : UInt8) : Int := bits BinOp.or IntKind.u32 (uv2 x0 x1) (lo7 x2 * 16384 % 4294967296)
def uv4 (x0 x1 x2 x3 : UInt8) : Int := bits BinOp.or IntKind.u32 (uv3 x0 x1 x2) (lo7 x3 * 2097152 % 4294967296)
end Go.Proofs.YtmehfgiadapekaaGreat
set_option linter.unusedSimpArgs false
set_option linter.unusedVariables false
namespace Go.Proofs.YtmehfgiadapekaaGreat
open Go Go.RowKit
theorem Src.take {w W : World} {sb off n cap : Nat} {bs : List UInt8} (hm : Mod none' w W) (hl : ∃ c t fr, w.heap[sb]? = some (.cells c t fr))
  (h : ∀ i (hi : i < bs.length), w.cell? ⟨sb, off + i, none⟩ = some (.int .u8 (bs[i]).toNat)) (hn : n <= bs.length) (hcap : n <= cap) (hmx : cap <= maxLen) :
  Src W (.slice (some ⟨sb, off, none⟩) n cap) sb (bs.take n) false := by
 obtain ⟨c, t, fr, hb⟩ := hl
 refine Src.mk (by simp; omega) hcap hmx ⟨c, t, fr, hm.some hb (fun f => f)⟩ fun i hi => ?_
 simp only [List.length_take] at hi
 have := h i (by omega)
 rw [Zc hb] at this
 rw [Zc (hm.some hb (fun f => f)), List.getElem_take]
 exact this
/-- a string of the octets -/
def str (bs : List UInt8) : ByteArray := ⟨bs.toArray⟩
theorem str_size (bs : List UInt8) : (str bs).size = bs.length := rfl
/-- a pointer to a text, in a block of F; or none -/
def PStr (w : World) (F : Nat -> Prop) (v : Value) : Option (List UInt8) -> Prop
 | none => v = .pointer none
 | some bs => ∃ k t, F k /\ v = .pointer (some ⟨k, 0, none⟩) /\ w.heap[k]? = some (.cells #[.string (str bs)] t (0, 0))
/-- octets in a block of F, or nil, or none of any address -/
def Oct (w : World) (F : Nat -> Prop) (v : Value) (bs : List UInt8) (nil : Bool) : Prop := (∃ sb, (nil = true \/ F sb) /\ Src w v sb bs nil) \/ (bs = [] /\ ∃ ao cap, v = .slice ao 0 cap /\ nil = ao.isNone)
end Go.Proofs.YtmehfgiadapekaaGreat
set_option linter.unusedSimpArgs false
set_option linter.unusedVariables false
namespace Go.Proofs.YtmehfgiadapekaaGreat
open Go Go.RowKit
abbrev Tags := List (Int × List UInt8)
/-- a tree: a number, octets, whether it is null, what its parts say, unknown tags -/
inductive Tr where
 | mk (n : Int) (s : List UInt8) (null : Bool) (l : List Tr) (u : Tags)
namespace Tr
def num (n : Int) : Tr := .mk n [] false [] []
def oct (s : List UInt8) : Tr := .mk 0 s false [] []
def octs (s : List UInt8) (null : Bool) : Tr := .mk 0 s null [] []
def nul : Tr := .mk 0 [] true [] []
def list (l : List Tr) (null : Bool) : Tr := .mk 0 [] null l []
def part (l : List Tr) (u : Tags) : Tr := .mk 0 [] false l u
def ofBool (b : Bool) : Tr := num (if b then 1 else 0)
def ofOpt : Option (List UInt8) -> Tr
 | none => nul
 | some s => oct s
def L : Tr -> List Tr
 | .mk _ _ _ l _ => l
def N : Tr -> Int
 | .mk n _ _ _ _ => n
end Tr
mutual
/-- the kinds of fields -/
inductive Ty where
 | int (k : IntKind)
 | bool
 | float
 | str
 | pstr
 | bytes
 | uuid
 | list (e : Ty) (sz : Nat)
 | struct (lay : Lay) (tg : Option Nat) (sz : Nat)
 | pstruct (lay : Lay) (tg : Option Nat) (sz : Nat)
/-- where the fields of a struct lie -/
inductive Lay where
 | nil
 | cons (o : Nat) (t : Ty) (r : Lay)
end
def Ty.size : Ty -> Nat
 | .uuid => 16
 | .struct _ _ sz => sz
 | _ => 1
/-- the cells of a row from a place on -/
def from' (C : Array Value) (o : Nat) : Nat -> Value := fun j => C.getD (o + j) undef
def fits (k : IntKind) (n : Int) : Prop := k.min <= n /\ n <= k.max
/-- a map of tags -/
def TagsR (w : World) (F : Nat -> Prop) (v : Value) (u : Tags) : Prop :=
 (v = .map none /\ u = []) \/ ∃ r es clock, F r /\ v = .map (some r) /\ w.heap[r]? = some (.map es clock) /\ u.Pairwise (fun p q => p.1 < q.1) /\ u.length <= 4294967295 /\ (∀ p ∈ u, 0 <= p.1 /\ p.1 < 4294967296 /\ p.2.length <= 4294967295) /\
  ∃ kb : Tags, kb.Perm u /\ kb.length = es.size /\ (es.toList.map (·.born)).Nodup /\
   ∀ i (h : i < kb.length), ∃ e nil, es[i]? = some e /\ e.key = .int .u32 (kb[i]).1 /\ Oct w F e.val (kb[i]).2 nil /\ e.born < clock
/-- a slice of rows of so many cells: its elements' cells -/
def RowsAt (w : World) (F : Nat -> Prop) (v : Value) (n sz : Nat) (f : Nat -> Nat -> Value) : Prop :=
 ∃ k cap C t, F k /\ v = .slice (some ⟨k, 0, none⟩) n cap /\ n <= cap /\ cap <= maxLen /\ w.heap[k]? = some (.cells C t (0, 0)) /\ C.size = cap * sz /\ ∀ i, i < n -> ∀ j, j < sz -> C[i * sz + j]? = some (f i j)
mutual
/-- these cells are, as a field of this kind, this tree -/
def Rep (w : World) (F : Nat -> Prop) : Ty -> (Nat -> Value) -> Tr -> Prop
 | .int k, c, t => ∃ n, c 0 = .int k n /\ fits k n /\ t = .num n
 | .bool, c, t => ∃ b, c 0 = .bool b /\ t = .ofBool b
 | .float, c, t => ∃ n : Nat, c 0 = .float .f64 n /\ n < 18446744073709551616 /\ t = .num (wrap64 n)
 | .str, c, t => ∃ bs, c 0 = .string (str bs) /\ bs.length <= 4294967295 /\ t = .oct bs
 | .pstr, c, t => ∃ o, PStr w F (c 0) o /\ (∀ bs, o = some bs -> bs.length <= 4294967295) /\ t = .ofOpt o
 | .bytes, c, t => ∃ bs nil, Oct w F (c 0) bs nil /\ bs.length <= 4294967295 /\ t = .octs bs nil
 | .uuid, c, t => ∃ bs, bs.length = 16 /\ (∀ i (h : i < bs.length), c i = .int .u8 (bs[i]).toNat) /\ t = .oct bs
 | .list e sz, c, t => (c 0 = .slice none 0 0 /\ t = .nul) \/ ∃ l f, RowsAt w F (c 0) l.length sz f /\ l.length <= 4294967295 /\ (∀ i (h : i < l.length), Rep w F e (f i) l[i]) /\ t = .list l false
 | .struct lay tg _, c, t => ∃ vs u, RepL w F lay c vs /\ (match tg with | some o => TagsR w F (c o) u | none => u = []) /\ t = .part vs u
 | .pstruct lay tg sz, c, t => (c 0 = .pointer none /\ t = .nul) \/ ∃ k C ty vs u, F k /\ c 0 = .pointer (some ⟨k, 0, none⟩) /\ w.heap[k]? = some (.cells C ty (0, 0)) /\ C.size = sz /\
   RepL w F lay (from' C 0) vs /\ (match tg with | some o => TagsR w F (from' C 0 o) u | none => u = []) /\ t = .part vs u
/-- these cells are, as these fields, these trees -/
def RepL (w : World) (F : Nat -> Prop) : Lay -> (Nat -> Value) -> List Tr -> Prop
 | .nil, _, vs => vs = []
 | .cons o t r, c, vs => ∃ v vs', vs = v :: vs' /\ Rep w F t (fun j => c (o + j)) v /\ RepL w F r c vs'
end
section
variable {w w' : World} {F F' S : Nat -> Prop}
theorem Oct.mod {v : Value} {bs : List UInt8} {nil : Bool} (h : Oct w F v bs nil) (hm : Mod S w w') (hs : ∀ k, F k -> ¬ S k) (hf : ∀ k, F k -> F' k) : Oct w' F' v bs nil := by
 rcases h with ⟨sb, hsb, h⟩ | h
 ·left
  rcases hsb with rfl | hsb
  ·refine ⟨sb, .inl rfl, ?_⟩
   rcases h with h | ⟨h, _⟩
   ·exact .inl h
   ·cases h
  ·exact ⟨sb, .inr (hf _ hsb), h.mod hm (hs _ hsb)⟩
 ·exact .inr h
theorem PStr.mod {v : Value} {o : Option (List UInt8)} (h : PStr w F v o) (hm : Mod S w w') (hs : ∀ k, F k -> ¬ S k) (hf : ∀ k, F k -> F' k) : PStr w' F' v o := by
 cases o with
 | none => exact h
 | some bs => obtain ⟨k, t, h1, h2, h3⟩ := h; exact ⟨k, t, hf _ h1, h2, hm.some h3 (hs _ h1)⟩
theorem TagsR.mod {v : Value} {u : Tags} (h : TagsR w F v u) (hm : Mod S w w') (hs : ∀ k, F k -> ¬ S k) (hf : ∀ k, F k -> F' k) : TagsR w' F' v u := by
 rcases h with h | ⟨r, es, clock, h1, h2, h3, h4, hlen, h4', kb, h5, h6, h7, h8⟩
 ·exact .inl h
 ·refine .inr ⟨r, es, clock, hf _ h1, h2, hm.some h3 (hs _ h1), h4, hlen, h4', kb, h5, h6, h7, fun i hi => ?_⟩
  obtain ⟨e, nil, g1, g2, g3, g4⟩ := h8 i hi
  exact ⟨e, nil, g1, g2, g3.mod hm hs hf, g4⟩
theorem RowsAt.mod {v : Value} {n sz : Nat} {f : Nat -> Nat -> Value} (h : RowsAt w F v n sz f) (hm : Mod S w w') (hs : ∀ k, F k -> ¬ S k) (hf : ∀ k, F k -> F' k) : RowsAt w' F' v n sz f := by
 obtain ⟨k, cap, C, t, h1, h2, h3, h4, h5, h6⟩ := h
 exact ⟨k, cap, C, t, hf _ h1, h2, h3, h4, hm.some h5 (hs _ h1), h6⟩
mutual
theorem Rep.mod (hm : Mod S w w') (hs : ∀ k, F k -> ¬ S k) (hf : ∀ k, F k -> F' k) : ∀ (ty : Ty) (c : Nat -> Value) (t : Tr), Rep w F ty c t -> Rep w' F' ty c t
 | .int k, c, t, h => h
 | .bool, c, t, h => h
 | .float, c, t, h => h
 | .str, c, t, h => h
 | .pstr, c, t, h => by
  simp only [Rep] at h ⊢
  obtain ⟨o, h1, h2⟩ := h; exact ⟨o, h1.mod hm hs hf, h2⟩
 | .bytes, c, t, h => by
  simp only [Rep] at h ⊢
  obtain ⟨bs, nil, h1, h2⟩ := h; exact ⟨bs, nil, h1.mod hm hs hf, h2⟩
 | .uuid, c, t, h => h
 | .list e sz, c, t, h => by
  simp only [Rep] at h ⊢
  rcases h with h | ⟨l, f, h1, hb, h2, h3⟩
  ·exact .inl h
  ·exact .inr ⟨l, f, h1.mod hm hs hf, hb, fun i hi => Rep.mod hm hs hf e _ _ (h2 i hi), h3⟩
 | .struct lay tg sz, c, t, h => by
  simp only [Rep] at h ⊢
  obtain ⟨vs, u, h1, h2, h3⟩ := h
  refine ⟨vs, u, RepL.mod hm hs hf lay _ _ h1, ?_, h3⟩
  cases tg with
  | none => exact h2
  | some o => exact h2.mod hm hs hf
 | .pstruct lay tg sz, c, t, h => by
  simp only [Rep] at h ⊢
  rcases h with h | ⟨k, C, ty, vs, u, h1, h2, h3, h4, h5, h6, h7⟩
  ·exact .inl h
  ·refine .inr ⟨k, C, ty, vs, u, hf _ h1, h2, hm.some h3 (hs _ h1), h4, RepL.mod hm hs hf lay _ _ h5, ?_, h7⟩
   cases tg with
   | none => exact h6
   | some o => exact h6.mod hm hs hf
theorem RepL.mod (hm : Mod S w w') (hs : ∀ k, F k -> ¬ S k) (hf : ∀ k, F k -> F' k) : ∀ (lay : Lay) (c : Nat -> Value) (vs : List Tr), RepL w F lay c vs -> RepL w' F' lay c vs
 | .nil, c, vs, h => h
 | .cons o t r, c, vs, h => by
  simp only [RepL] at h ⊢
  obtain ⟨v, vs', h1, h2, h3⟩ := h
  exact ⟨v, vs', h1, Rep.mod hm hs hf t _ _ h2, RepL.mod hm hs hf r _ _ h3⟩
end
end
/-- only the cells of the kind's own size are looked at -/
def TagIn (tg : Option Nat) (sz : Nat) : Bool := match tg with | some o => decide (o < sz) | none => true
mutual
def Ty.ok : Ty -> Bool
 | .list e sz => e.ok && decide (e.size = sz) && decide (0 < sz)
 | .struct lay tg sz => lay.ok 0 sz && TagIn tg sz
 | .pstruct lay tg sz => lay.ok 0 sz && TagIn tg sz
 | _ => true
/-- the fields follow one another, none over another, all within -/
def Lay.ok : Lay -> Nat -> Nat -> Bool
 | .nil, lo, hi => decide (lo <= hi)
 | .cons o t r, lo, hi => decide (lo <= o) && t.ok && r.ok (o + t.size) hi
end
theorem Lay.ok_le : ∀ (lay : Lay) (lo hi : Nat), lay.ok lo hi = true -> lo <= hi
 | .nil, lo, hi, h => by simpa [Lay.ok] using h
 | .cons o t r, lo, hi, h => by
  simp only [Lay.ok, Bool.and_eq_true, decide_eq_true_eq] at h
  have := Lay.ok_le r _ _ h.2
  omega
mutual
theorem Rep.congr {w : World} {F : Nat -> Prop} : ∀ (ty : Ty) (c c' : Nat -> Value) (t : Tr), ty.ok = true -> (∀ j, j < ty.size -> c' j = c j) -> Rep w F ty c t -> Rep w F ty c' t
 | .int k, c, c', t, _, hc, h => by simp only [Rep, hc 0 (by simp [Ty.size])] at h ⊢; exact h
 | .bool, c, c', t, _, hc, h => by simp only [Rep, hc 0 (by simp [Ty.size])] at h ⊢; exact h
 | .float, c, c', t, _, hc, h => by simp only [Rep, hc 0 (by simp [Ty.size])] at h ⊢; exact h
 | .str, c, c', t, _, hc, h => by simp only [Rep, hc 0 (by simp [Ty.size])] at h ⊢; exact h
 | .pstr, c, c', t, _, hc, h => by simp only [Rep, hc 0 (by simp [Ty.size])] at h ⊢; exact h
 | .bytes, c, c', t, _, hc, h => by simp only [Rep, hc 0 (by simp [Ty.size])] at h ⊢; exact h
 | .uuid, c, c', t, _, hc, h => by
  simp only [Rep] at h ⊢
  obtain ⟨bs, h1, h2, h3⟩ := h
  exact ⟨bs, h1, fun i hi => by rw [hc i (by simp [Ty.size]; omega)]; exact h2 i hi, h3⟩
 | .list e sz, c, c', t, _, hc, h => by simp only [Rep, hc 0 (by simp [Ty.size])] at h ⊢; exact h
 | .struct lay tg sz, c, c', t, hok, hc, h => by
  simp only [Rep] at h ⊢
  simp only [Ty.ok, Bool.and_eq_true] at hok
  obtain ⟨vs, u, h1, h2, h3⟩ := h
  refine ⟨vs, u, RepL.congr lay 0 sz _ _ _ hok.1 (fun j _ hj => hc j hj) h1, ?_, h3⟩
  cases tg with
  | none => exact h2
  | some o =>
   simp only [TagIn, decide_eq_true_eq] at hok
   show TagsR w F (c' o) u
   rw [hc o hok.2]; exact h2
 | .pstruct lay tg sz, c, c', t, _, hc, h => by simp only [Rep, hc 0 (by simp [Ty.size])] at h ⊢; exact h
theorem RepL.congr {w : World} {F : Nat -> Prop} : ∀ (lay : Lay) (lo hi : Nat) (c c' : Nat -> Value) (vs : List Tr), lay.ok lo hi = true -> (∀ j, lo <= j -> j < hi -> c' j = c j) -> RepL w F lay c vs -> RepL w F lay c' vs
 | .nil, _, _, c, c', vs, _, hc, h => h
 | .cons o t r, lo, hi, c, c', vs, hok, hc, h => by
  simp only [RepL] at h ⊢
  simp only [Lay.ok, Bool.and_eq_true, decide_eq_true_eq] at hok
  obtain ⟨v, vs', h1, h2, h3⟩ := h
  have hle := Lay.ok_le r _ _ hok.2
  exact ⟨v, vs', h1, Rep.congr t _ _ _ hok.1.2 (fun j hj => hc _ (by omega) (by omega)) h2, RepL.congr r (o + t.size) hi _ _ _ hok.2 (fun j h1 h2 => hc j (by omega) h2) h3⟩
end
/-- the field of a number: where it lies, its kind -/
def Lay.at : Lay -> Nat -> Option (Nat × Ty)
 | .nil, _ => none
 | .cons o t _, 0 => some (o, t)
 | .cons _ _ r, i + 1 => r.at i
theorem Lay.at_in : ∀ (lay : Lay) (lo hi i o : Nat) (t : Ty), lay.ok lo hi = true -> lay.at i = some (o, t) -> lo <= o /\ o + t.size <= hi /\ t.ok = true
 | .nil, _, _, _, _, _, _, h => by cases h
 | .cons o' t' r, lo, hi, 0, o, t, hok, h => by
  simp only [Lay.ok, Bool.and_eq_true, decide_eq_true_eq] at hok
  simp only [Lay.at, Option.some.injEq, Prod.mk.injEq] at h
  obtain ⟨rfl, rfl⟩ := h
  exact ⟨hok.1.1, Lay.ok_le r _ _ hok.2, hok.1.2⟩
 | .cons o' t' r, lo, hi, i + 1, o, t, hok, h => by
  simp only [Lay.ok, Bool.and_eq_true, decide_eq_true_eq] at hok
  have := Lay.at_in r _ _ i o t hok.2 h
  exact ⟨by omega, this.2.1, this.2.2⟩
/-- a field is set -/
theorem RepL.set {w : World} {F : Nat -> Prop} : ∀ (lay : Lay) (lo hi i o : Nat) (t : Ty) (c c' : Nat -> Value) (vs : List Tr) (v : Tr), lay.ok lo hi = true -> lay.at i = some (o, t) ->
  (∀ j, lo <= j -> j < hi -> j < o \/ o + t.size <= j -> c' j = c j) -> Rep w F t (fun j => c' (o + j)) v -> RepL w F lay c vs -> RepL w F lay c' (vs.set i v)
 | .nil, _, _, _, _, _, _, _, _, _, _, h, _, _, _ => by cases h
 | .cons o' t' r, lo, hi, 0, o, t, c, c', vs, v, hok, h, hc, hv, hr => by
  simp only [Lay.ok, Bool.and_eq_true, decide_eq_true_eq] at hok
  simp only [Lay.at, Option.some.injEq, Prod.mk.injEq] at h
  obtain ⟨rfl, rfl⟩ := h
  simp only [RepL] at hr ⊢
  obtain ⟨v0, vs', rfl, h2, h3⟩ := hr
  exact ⟨v, vs', rfl, hv, RepL.congr r _ _ _ _ _ hok.2 (fun j h1 h2 => hc j (by omega) h2 (.inr h1)) h3⟩
 | .cons o' t' r, lo, hi, i + 1, o, t, c, c', vs, v, hok, h, hc, hv, hr => by
  simp only [Lay.ok, Bool.and_eq_true, decide_eq_true_eq] at hok
  simp only [RepL] at hr ⊢
  obtain ⟨v0, vs', rfl, h2, h3⟩ := hr
  have hat : r.at i = some (o, t) := h
  have hin := Lay.at_in r _ _ i o t hok.2 hat
  refine ⟨v0, vs'.set i v, rfl, Rep.congr t' _ _ _ hok.1.2 (fun j hj => hc _ (by omega) (by omega) (.inl (by omega))) h2, ?_⟩
  exact RepL.set r _ _ i o t c c' vs' v hok.2 hat (fun j h1 h2 h3 => hc j (by omega) h2 h3) hv h3
/-- a field is read -/
theorem RepL.get {w : World} {F : Nat -> Prop} : ∀ (lay : Lay) (i o : Nat) (t : Ty) (c : Nat -> Value) (vs : List Tr), lay.at i = some (o, t) -> RepL w F lay c vs -> ∃ v, vs[i]? = some v /\ Rep w F t (fun j => c (o + j)) v
 | .nil, _, _, _, _, _, h, _ => by cases h
 | .cons o' t' r, 0, o, t, c, vs, h, hr => by
  simp only [Lay.at, Option.some.injEq, Prod.mk.injEq] at h
  obtain ⟨rfl, rfl⟩ := h
  simp only [RepL] at hr
  obtain ⟨v0, vs', rfl, h2, h3⟩ := hr
  exact ⟨v0, rfl, h2⟩
 | .cons o' t' r, i + 1, o, t, c, vs, h, hr => by
  simp only [RepL] at hr
  obtain ⟨v0, vs', rfl, h2, h3⟩ := hr
  obtain ⟨v, h4, h5⟩ := RepL.get r i o t c vs' h h3
  exact ⟨v, by simpa using h4, h5⟩
end Go.Proofs.YtmehfgiadapekaaGreat
set_option linter.unusedSimpArgs false
set_option linter.unusedVariables false
namespace Go.Proofs.YtmehfgiadapekaaGreat
open Go Go.RowKit
/-- the slots of a walk: the reader, the version, how texts are kept, whether it is flexible, the answer -/
structure Sl where
 N : Nat
 b : Nat
 ver : Nat
 uns : Nat
 flex : Option Nat
 res : Nat
/-- what stays in a walk -/
structure Cx where
 rb : Nat
 sb : Nat
 ver : Int
 flex : Bool
 uns : Bool
 ev : Value
/-- the struct that is read: its slot, its fields, its tags, its size -/
structure St where
 s : Nat
 lay : Lay
 tg : Option Nat
 sz : Nat
abbrev gErr : Nat := 0
/-- a slot that may be written -/
def Sl.free (Γ : Sl) (t : Nat) : Bool := decide (t < Γ.N) && t != Γ.b && t != Γ.ver && t != Γ.uns && (match Γ.flex with | some f => t != f | none => true)
theorem Sl.free_spec {Γ : Sl} {t : Nat} (h : Γ.free t = true) : t < Γ.N /\ Γ.b ≠ t /\ Γ.ver ≠ t /\ Γ.uns ≠ t /\ ∀ f, Γ.flex = some f -> f ≠ t := by
 simp only [Sl.free, Bool.and_eq_true, decide_eq_true_eq, bne_iff_ne] at h
 obtain ⟨⟨⟨⟨h1, h2⟩, h3⟩, h4⟩, h5⟩ := h
 refine ⟨h1, Ne.symm h2, Ne.symm h3, Ne.symm h4, fun f hf => ?_⟩
 rw [hf] at h5
 simp only [bne_iff_ne] at h5
 exact Ne.symm h5
/-- the slots that a piece of code writes -/
def writes : Code -> List Nat
 | .region _ ops _ => ops.toList.filterMap (·.dst)
 | .seq a b => writes a ++ writes b
 | .cond _ a b => writes a ++ writes b
 | .block _ b => writes b
 | .loop b => writes b
 | .scope b => writes b
 | _ => []
abbrev W (c : Code) : Nat -> Prop := fun t => t ∈ writes c
/-- a value, as a field of this kind, is this tree -/
def RepV (w : World) (F : Nat -> Prop) (ty : Ty) (v : Value) (t : Tr) : Prop :=
 (ty.size = 1 /\ v.oneCell' = true /\ Rep w F ty (fun _ => v) t) \/ (ty = .uuid /\ ∃ cs : Array Value, v = .agg cs /\ cs.size = 16 /\ cs.all (·.oneCell') = true /\ Rep w F .uuid (from' cs 0) t)
/-- what a piece of code makes of a struct's fields, its tags, and what is to be read: goes on; ends at once with the error; or nothing is said -/
inductive R (α : Type) where
 | ok (v : α) (s : RS)
 | early
 | stuck
def R.then {α β : Type} (r : R α) (f : α -> RS -> R β) : R β := match r with
 | .ok v s => f v s
 | .early => .early
 | .stuck => .stuck
abbrev SV := List Tr × Tags
abbrev FT := Int -> Bool -> SV -> RS -> R SV
/-- the struct in memory -/
structure Cur (σ : St) (F : Nat -> Prop) (blk off : Nat) (v : SV) (w : World) : Prop where
 mem : ∃ C t, w.heap[blk]? = some (.cells C t (0, 0)) /\ off + σ.sz <= C.size /\ RepL w F σ.lay (from' C off) v.1 /\ (match σ.tg with | some o => TagsR w F (from' C off o) v.2 | none => v.2 = [])
/-- which blocks are apart -/
structure Sep (x : Cx) (F : Nat -> Prop) (blk : Nat) (w : World) : Prop where
 apart : ∀ k, F k -> k ≠ x.rb /\ k ≠ blk
 fresh : ∀ k, w.heap.size <= k -> F k
 src : F x.sb
 old : x.sb < w.heap.size
 rb : blk ≠ x.rb
 glob : blk ≠ gErr
/-- what has turned: the reader, and the struct's own cells -/
structure Stp (x : Cx) (blk off sz : Nat) (w w' : World) : Prop where
 mod : Mod (fun k => k = x.rb \/ k = blk) w w'
 out : ∀ C t, w.heap[blk]? = some (.cells C t (0, 0)) -> ∃ C', w'.heap[blk]? = some (.cells C' t (0, 0)) /\ C'.size = C.size /\ ∀ j, j < off \/ off + sz <= j -> C'[j]? = C[j]?
theorem Stp.refl {x : Cx} {blk off sz : Nat} (w : World) : Stp x blk off sz w w := ⟨.refl w, fun C t h => ⟨C, h, rfl, fun _ _ => rfl⟩⟩
theorem Stp.trans {x : Cx} {blk off sz : Nat} {a b c : World} (h : Stp x blk off sz a b) (k : Stp x blk off sz b c) : Stp x blk off sz a c :=
 ⟨h.mod.trans k.mod, fun C t hc => by
  obtain ⟨C', h1, h2, h3⟩ := h.out C t hc
  obtain ⟨C'', k1, k2, k3⟩ := k.out C' t h1
  exact ⟨C'', k1, k2.trans h2, fun j hj => (k3 j hj).trans (h3 j hj)⟩⟩
theorem Sep.later {x : Cx} {F : Nat -> Prop} {blk : Nat} {w w' : World} (h : Sep x F blk w) (hs : w.heap.size <= w'.heap.size) : Sep x F blk w' :=
 ⟨h.apart, fun k hk => h.fresh k (by omega), h.src, by have := h.old; omega, h.rb, h.glob⟩
theorem Cur.later {σ : St} {F S : Nat -> Prop} {blk off : Nat} {v : SV} {w w' : World} (h : Cur σ F blk off v w) (hm : Mod S w w') (hb : ¬ S blk) (hs : ∀ k, F k -> ¬ S k) : Cur σ F blk off v w' := by
 obtain ⟨C, t, h1, h2, h3, h4⟩ := h.mem
 refine ⟨C, t, hm.some h1 hb, h2, h3.mod hm hs (fun _ h => h), ?_⟩
 cases htg : σ.tg with
 | none => rw [htg] at h4; exact h4
 | some o => rw [htg] at h4; exact h4.mod hm hs (fun _ h => h)
section
variable {P : Program} {Γ : Sl} {σ : St} {id id' : Nat} {ty : Ty} {rd rd' : Int -> Bool -> RS -> Tr × RS} {f g : FT}
 {y1 y2 y3 y4 y5 y6 : TypeId} {p1 p2 p3 p4 p5 p6 : String} {e1 e2 e3 e4 e5 e6 : Array Edge} {ts : Array TypeId}
/-- a value is stored into a field -/
theorem cur_store {σ : St} {F : Nat -> Prop} {blk off i o : Nat} {v : SV} {w : World} {C : Array Value} {t : TypeId} {ty : Ty} {u : Tr} (hok : σ.lay.ok 0 σ.sz = true) (htg : ∀ q, σ.tg = some q -> q < σ.sz /\ (q < o \/ o + ty.size <= q))
  (hat : σ.lay.at i = some (o, ty)) (hC : Cur σ F blk off v w) (hF : ∀ k, F k -> k ≠ blk) {w' : World} {C' : Array Value}
  (hm : Mod (only blk) w w') (h0 : w.heap[blk]? = some (.cells C t (0, 0))) (h1 : w'.heap[blk]? = some (.cells C' t (0, 0))) (hsz : C'.size = C.size)
  (hout : ∀ j, j < off + o \/ off + o + ty.size <= j -> C'[j]? = C[j]?) (hrep : Rep w F ty (fun j => from' C' off (o + j)) u) : Cur σ F blk off (v.1.set i u, v.2) w' := by
 obtain ⟨C0, t0, g1, g2, g3, g4⟩ := hC.mem
 rw [h0] at g1
 obtain ⟨rfl, rfl⟩ : C = C0 /\ t = t0 := by simpa using g1
 have hin := Lay.at_in _ _ _ _ _ _ hok hat
 have hF' : ∀ k, F k -> ¬ only blk k := fun k hk e => hF k hk e
 have hsame : ∀ j, j < σ.sz -> j < o \/ o + ty.size <= j -> from' C' off j = from' C off j := fun j _ hj => by
  simp only [from', Array.getD_eq_getD_getElem?]
  rw [hout (off + j) (by omega)]
 refine ⟨C', t, h1, by omega, (RepL.set _ 0 σ.sz i o ty _ _ _ u hok hat (fun j _ h2 h3 => hsame j h2 h3) hrep g3).mod hm hF' (fun _ h => h), ?_⟩
 cases hq : σ.tg with
 | none => rw [hq] at g4; exact g4
 | some q =>
  rw [hq] at g4
  obtain ⟨q1, q2⟩ := htg q hq
  show TagsR w' F (from' C' off q) v.2
  rw [hsame q q1 q2]
  exact TagsR.mod g4 hm hF' (fun _ h => h)
/-- the tags lie beside a field -/
def St.okAt (σ : St) (i o : Nat) (ty : Ty) : Bool := σ.lay.ok 0 σ.sz && (match σ.tg with | some q => decide (q < σ.sz) && (decide (q < o) || decide (o + ty.size <= q)) | none => true) &&
 (match σ.lay.at i with | some (o', _) => o' == o | none => false)
theorem heap_setCells {b : Nat} {t : TypeId} {fr : Nat × Nat} : ∀ {w : World} (vs : List Value) (o : Nat) (C : Array Value), w.heap[b]? = some (.cells C t fr) -> ∃ C', (w.setCells b o vs).heap[b]? = some (.cells C' t fr) /\ C'.size = C.size /\
  (∀ j (hj : j < vs.length), o + j < C.size -> C'[o + j]? = some vs[j]) /\ ∀ j, j < o \/ o + vs.length <= j -> C'[j]? = C[j]?
 | w, [], o, C, h => ⟨C, h, rfl, fun j hj => by simp at hj, fun _ _ => rfl⟩
 | w, v :: vs, o, C, h => by
  obtain ⟨C', h1, h2, h3, h4⟩ := heap_setCells (w := w.setCell ⟨b, o, none⟩ v) vs (o + 1) _ (heap_setCell_same h v)
  refine ⟨C', h1, by simpa using h2, fun j hj hlt => ?_, fun j hj => ?_⟩
  ·cases j with
   | zero => rw [h4 (o + 0) (.inl (by omega))]; simp at hlt; simp [hlt]
   | succ j =>
    have := h3 j (by simpa using hj) (by simp; omega)
    rw [show o + (j + 1) = o + 1 + j by omega, this]
    simp
  ·simp only [List.length_cons] at hj
   rw [h4 j (by omega), Array.getElem?_setIfInBounds_ne (by omega)]
theorem mod_setCells (b : Nat) : ∀ (w : World) (o : Nat) (vs : List Value), Mod (only b) w (w.setCells b o vs)
 | w, o, [] => .refl w
 | w, o, v :: vs => ((Mod.refl w).put o v).trans (mod_setCells b _ (o + 1) vs)
theorem get_from' {C : Array Value} {o j : Nat} {v : Value} (h : C[o + j]? = some v) : from' C o j = v := by simp [from', h]
end
end Go.Proofs.YtmehfgiadapekaaGreat
