/-
  Trees as plain data; what lies in memory as such a tree. No program in it.
-/
import Derived.Test.YtcldbjehliladaaDoorPRd
import Derived.Test.YtcldbjehliladaaDoorPOps
set_option linter.unusedSimpArgs false
set_option linter.unusedVariables false
namespace Go.Proofs.YtcldbjehliladaaDoor
open Go Go.RowKit
abbrev Tags := List (Int × List UInt8)
/-- a tree: a number, octets, whether it is null, what its parts say, unknown tags -/
inductive Tr where
 | mk (n : Int) (s : List UInt8) (null : Bool) (l : List Tr) (u : Tags)
namespace Tr
def num (n : Int) : Tr := .mk n [] false [] []
def oct (s : List UInt8) : Tr := .mk 0 s false [] []
def octs (s : List UInt8) (null : Bool) : Tr := .mk 0 s null [] []
def nul : Tr := .mk 0 [] true [] []
def list (l : List Tr) (null : Bool) : Tr := .mk 0 [] null l []
def part (l : List Tr) (u : Tags) : Tr := .mk 0 [] false l u
def ofBool (b : Bool) : Tr := num (if b then 1 else 0)
def ofOpt : Option (List UInt8) -> Tr
 | none => nul
 | some s => oct s
def L : Tr -> List Tr
 | .mk _ _ _ l _ => l
def N : Tr -> Int
 | .mk n _ _ _ _ => n
end Tr
mutual
/-- the kinds of fields -/
inductive Ty where
 | int (k : IntKind)
 | bool
 | float
 | str
 | pstr
 | bytes
 | uuid
 | list (e : Ty) (sz : Nat)
 | struct (lay : Lay) (tg : Option Nat) (sz : Nat)
 | pstruct (lay : Lay) (tg : Option Nat) (sz : Nat)
/-- where the fields of a struct lie -/
inductive Lay where
 | nil
 | cons (o : Nat) (t : Ty) (r : Lay)
end
def Ty.size : Ty -> Nat
 | .uuid => 16
 | .struct _ _ sz => sz
 | _ => 1
/-- the cells of a row from a place on -/
def from' (C : Array Value) (o : Nat) : Nat -> Value := fun j => C.getD (o + j) undef
def fits (k : IntKind) (n : Int) : Prop := k.min <= n /\ n <= k.max
/-- a map of tags -/
def TagsR (w : World) (F : Nat -> Prop) (v : Value) (u : Tags) : Prop :=
 (v = .map none /\ u = []) \/ ∃ r es clock, F r /\ v = .map (some r) /\ w.heap[r]? = some (.map es clock) /\ u.Pairwise (fun p q => p.1 < q.1) /\ (u ≠ [] /\ u.length <= 4294967295) /\ (∀ p ∈ u, 0 <= p.1 /\ p.1 < 4294967296 /\ p.2.length <= 4294967295) /\
  ∃ kb : Tags, kb.Perm u /\ kb.length = es.size /\ (es.toList.map (·.born)).Nodup /\
   ∀ i (h : i < kb.length), ∃ e nil, es[i]? = some e /\ e.key = .int .u32 (kb[i]).1 /\ Oct w F e.val (kb[i]).2 nil /\ e.born < clock
/-- a slice of rows of so many cells: its elements' cells -/
def RowsAt (w : World) (F : Nat -> Prop) (v : Value) (n sz : Nat) (f : Nat -> Nat -> Value) : Prop :=
 ∃ k cap C t, F k /\ v = .slice (some ⟨k, 0, none⟩) n cap /\ n <= cap /\ cap <= maxLen /\ w.heap[k]? = some (.cells C t (0, 0)) /\ C.size = cap * sz /\ ∀ i, i < n -> ∀ j, j < sz -> C[i * sz + j]? = some (f i j)
mutual
/-- these cells are, as a field of this kind, this tree -/
def Rep (w : World) (F : Nat -> Prop) : Ty -> (Nat -> Value) -> Tr -> Prop
 | .int k, c, t => ∃ n, c 0 = .int k n /\ fits k n /\ t = .num n
 | .bool, c, t => ∃ b, c 0 = .bool b /\ t = .ofBool b
 | .float, c, t => ∃ n : Nat, c 0 = .float .f64 n /\ n < 18446744073709551616 /\ t = .num (wrap64 n)
 | .str, c, t => ∃ bs, c 0 = .string (str bs) /\ bs.length <= 4294967295 /\ t = .oct bs
 | .pstr, c, t => ∃ o, PStr w F (c 0) o /\ (∀ bs, o = some bs -> bs.length <= 4294967295) /\ t = .ofOpt o
 | .bytes, c, t => ∃ bs nil, Oct w F (c 0) bs nil /\ bs.length <= 4294967295 /\ t = .octs bs nil
 | .uuid, c, t => ∃ bs, bs.length = 16 /\ (∀ i (h : i < bs.length), c i = .int .u8 (bs[i]).toNat) /\ t = .oct bs
 | .list e sz, c, t => (c 0 = .slice none 0 0 /\ t = .nul) \/ ∃ l f, RowsAt w F (c 0) l.length sz f /\ l.length <= 4294967295 /\ (∀ i (h : i < l.length), Rep w F e (f i) l[i]) /\ t = .list l false
 | .struct lay tg _, c, t => ∃ vs u, RepL w F lay c vs /\ (match tg with | some o => TagsR w F (c o) u | none => u = []) /\ t = .part vs u
 | .pstruct lay tg sz, c, t => (c 0 = .pointer none /\ t = .nul) \/ ∃ k C ty vs u, F k /\ c 0 = .pointer (some ⟨k, 0, none⟩) /\ w.heap[k]? = some (.cells C ty (0, 0)) /\ C.size = sz /\
   RepL w F lay (from' C 0) vs /\ (match tg with | some o => TagsR w F (from' C 0 o) u | none => u = []) /\ t = .part vs u
/-- these cells are, as these fields, these trees -/
def RepL (w : World) (F : Nat -> Prop) : Lay -> (Nat -> Value) -> List Tr -> Prop
 | .nil, _, vs => vs = []
 | .cons o t r, c, vs => ∃ v vs', vs = v :: vs' /\ Rep w F t (fun j => c (o + j)) v /\ RepL w F r c vs'
end
section
variable {w w' : World} {F F' S : Nat -> Prop}
theorem Oct.mod {v : Value} {bs : List UInt8} {nil : Bool} (h : Oct w F v bs nil) (hm : Mod S w w') (hs : ∀ k, F k -> ¬ S k) (hf : ∀ k, F k -> F' k) : Oct w' F' v bs nil := by
 rcases h with ⟨sb, hsb, h⟩ | h
 ·left
  rcases hsb with rfl | hsb
  ·refine ⟨sb, .inl rfl, ?_⟩
   rcases h with h | ⟨h, _⟩
   ·exact .inl h
   ·cases h
  ·exact ⟨sb, .inr (hf _ hsb), h.mod hm (hs _ hsb)⟩
 ·exact .inr h
theorem PStr.mod {v : Value} {o : Option (List UInt8)} (h : PStr w F v o) (hm : Mod S w w') (hs : ∀ k, F k -> ¬ S k) (hf : ∀ k, F k -> F' k) : PStr w' F' v o := by
 cases o with
 | none => exact h
 | some bs => obtain ⟨k, t, h1, h2, h3⟩ := h; exact ⟨k, t, hf _ h1, h2, hm.some h3 (hs _ h1)⟩
theorem TagsR.mod {v : Value} {u : Tags} (h : TagsR w F v u) (hm : Mod S w w') (hs : ∀ k, F k -> ¬ S k) (hf : ∀ k, F k -> F' k) : TagsR w' F' v u := by
 rcases h with h | ⟨r, es, clock, h1, h2, h3, h4, hlen, h4', kb, h5, h6, h7, h8⟩
 ·exact .inl h
 ·refine .inr ⟨r, es, clock, hf _ h1, h2, hm.some h3 (hs _ h1), h4, hlen, h4', kb, h5, h6, h7, fun i hi => ?_⟩
  obtain ⟨e, nil, g1, g2, g3, g4⟩ := h8 i hi
  exact ⟨e, nil, g1, g2, g3.mod hm hs hf, g4⟩
theorem RowsAt.mod {v : Value} {n sz : Nat} {f : Nat -> Nat -> Value} (h : RowsAt w F v n sz f) (hm : Mod S w w') (hs : ∀ k, F k -> ¬ S k) (hf : ∀ k, F k -> F' k) : RowsAt w' F' v n sz f := by
 obtain ⟨k, cap, C, t, h1, h2, h3, h4, h5, h6⟩ := h
 exact ⟨k, cap, C, t, hf _ h1, h2, h3, h4, hm.some h5 (hs _ h1), h6⟩
mutual
theorem Rep.mod (hm : Mod S w w') (hs : ∀ k, F k -> ¬ S k) (hf : ∀ k, F k -> F' k) : ∀ (ty : Ty) (c : Nat -> Value) (t : Tr), Rep w F ty c t -> Rep w' F' ty c t
 | .int k, c, t, h => h
 | .bool, c, t, h => h
 | .float, c, t, h => h
 | .str, c, t, h => h
 | .pstr, c, t, h => by
  simp only [Rep] at h ⊢
  obtain ⟨o, h1, h2⟩ := h; exact ⟨o, h1.mod hm hs hf, h2⟩
 | .bytes, c, t, h => by
  simp only [Rep] at h ⊢
  obtain ⟨bs, nil, h1, h2⟩ := h; exact ⟨bs, nil, h1.mod hm hs hf, h2⟩
 | .uuid, c, t, h => h
 | .list e sz, c, t, h => by
  simp only [Rep] at h ⊢
  rcases h with h | ⟨l, f, h1, hb, h2, h3⟩
  ·exact .inl h
  ·exact .inr ⟨l, f, h1.mod hm hs hf, hb, fun i hi => Rep.mod hm hs hf e _ _ (h2 i hi), h3⟩
 | .struct lay tg sz, c, t, h => by
  simp only [Rep] at h ⊢
  obtain ⟨vs, u, h1, h2, h3⟩ := h
  refine ⟨vs, u, RepL.mod hm hs hf lay _ _ h1, ?_, h3⟩
  cases tg with
  | none => exact h2
  | some o => exact h2.mod hm hs hf
 | .pstruct lay tg sz, c, t, h => by
  simp only [Rep] at h ⊢
  rcases h with h | ⟨k, C, ty, vs, u, h1, h2, h3, h4, h5, h6, h7⟩
  ·exact .inl h
  ·refine .inr ⟨k, C, ty, vs, u, hf _ h1, h2, hm.some h3 (hs _ h1), h4, RepL.mod hm hs hf lay _ _ h5, ?_, h7⟩
   cases tg with
   | none => exact h6
   | some o => exact h6.mod hm hs hf
theorem RepL.mod (hm : Mod S w w') (hs : ∀ k, F k -> ¬ S k) (hf : ∀ k, F k -> F' k) : ∀ (lay : Lay) (c : Nat -> Value) (vs : List Tr), RepL w F lay c vs -> RepL w' F' lay c vs
 | .nil, c, vs, h => h
 | .cons o t r, c, vs, h => by
  simp only [RepL] at h ⊢
  obtain ⟨v, vs', h1, h2, h3⟩ := h
  exact ⟨v, vs', h1, Rep.mod hm hs hf t _ _ h2, RepL.mod hm hs hf r _ _ h3⟩
end
end
/-- only the cells of the kind's own size are looked at -/
def TagIn (tg : Option Nat) (sz : Nat) : Bool := match tg with | some o => decide (o < sz) | none => true
mutual
def Ty.ok : Ty -> Bool
 | .list e sz => e.ok && decide (e.size = sz) && decide (0 < sz)
 | .struct lay tg sz => lay.ok 0 sz && TagIn tg sz
 | .pstruct lay tg sz => lay.ok 0 sz && TagIn tg sz
 | _ => true
/-- the fields follow one another, none over another, all within -/
def Lay.ok : Lay -> Nat -> Nat -> Bool
 | .nil, lo, hi => decide (lo <= hi)
 | .cons o t r, lo, hi => decide (lo <= o) && t.ok && r.ok (o + t.size) hi
end
theorem Lay.ok_le : ∀ (lay : Lay) (lo hi : Nat), lay.ok lo hi = true -> lo <= hi
 | .nil, lo, hi, h => by simpa [Lay.ok] using h
 | .cons o t r, lo, hi, h => by
  simp only [Lay.ok, Bool.and_eq_true, decide_eq_true_eq] at h
  have := Lay.ok_le r _ _ h.2
  omega
mutual
theorem Rep.congr {w : World} {F : Nat -> Prop} : ∀ (ty : Ty) (c c' : Nat -> Value) (t : Tr), ty.ok = true -> (∀ j, j < ty.size -> c' j = c j) -> Rep w F ty c t -> Rep w F ty c' t
 | .int k, c, c', t, _, hc, h => by simp only [Rep, hc 0 (by simp [Ty.size])] at h ⊢; exact h
 | .bool, c, c', t, _, hc, h => by simp only [Rep, hc 0 (by simp [Ty.size])] at h ⊢; exact h
 | .float, c, c', t, _, hc, h => by simp only [Rep, hc 0 (by simp [Ty.size])] at h ⊢; exact h
 | .str, c, c', t, _, hc, h => by simp only [Rep, hc 0 (by simp [Ty.size])] at h ⊢; exact h
 | .pstr, c, c', t, _, hc, h => by simp only [Rep, hc 0 (by simp [Ty.size])] at h ⊢; exact h
 | .bytes, c, c', t, _, hc, h => by simp only [Rep, hc 0 (by simp [Ty.size])] at h ⊢; exact h
 | .uuid, c, c', t, _, hc, h => by
  simp only [Rep] at h ⊢
  obtain ⟨bs, h1, h2, h3⟩ := h
  exact ⟨bs, h1, fun i hi => by rw [hc i (by simp [Ty.size]; omega)]; exact h2 i hi, h3⟩
 | .list e sz, c, c', t, _, hc, h => by simp only [Rep, hc 0 (by simp [Ty.size])] at h ⊢; exact h
 | .struct lay tg sz, c, c', t, hok, hc, h => by
  simp only [Rep] at h ⊢
  simp only [Ty.ok, Bool.and_eq_true] at hok
  obtain ⟨vs, u, h1, h2, h3⟩ := h
  refine ⟨vs, u, RepL.congr lay 0 sz _ _ _ hok.1 (fun j _ hj => hc j hj) h1, ?_, h3⟩
  cases tg with
  | none => exact h2
  | some o =>
   simp only [TagIn, decide_eq_true_eq] at hok
   show TagsR w F (c' o) u
   rw [hc o hok.2]; exact h2
 | .pstruct lay tg sz, c, c', t, _, hc, h => by simp only [Rep, hc 0 (by simp [Ty.size])] at h ⊢; exact h
theorem RepL.congr {w : World} {F : Nat -> Prop} : ∀ (lay : Lay) (lo hi : Nat) (c c' : Nat -> Value) (vs : List Tr), lay.ok lo hi = true -> (∀ j, lo <= j -> j < hi -> c' j = c j) -> RepL w F lay c vs -> RepL w F lay c' vs
 | .nil, _, _, c, c', vs, _, hc, h => h
 | .cons o t r, lo, hi, c, c', vs, hok, hc, h => by
  simp only [RepL] at h ⊢
  simp only [Lay.ok, Bool.and_eq_true, decide_eq_true_eq] at hok
  obtain ⟨v, vs', h1, h2, h3⟩ := h
  have hle := Lay.ok_le r _ _ hok.2
  exact ⟨v, vs', h1, Rep.congr t _ _ _ hok.1.2 (fun j hj => hc _ (by omega) (by omega)) h2, RepL.congr r (o + t.size) hi _ _ _ hok.2 (fun j h1 h2 => hc j (by omega) h2) h3⟩
end
/-- the field of a number: where it lies, its kind -/
def Lay.at : Lay -> Nat -> Option (Nat × Ty)
 | .nil, _ => none
 | .cons o t _, 0 => some (o, t)
 | .cons _ _ r, i + 1 => r.at i
theorem Lay.at_in : ∀ (lay : Lay) (lo hi i o : Nat) (t : Ty), lay.ok lo hi = true -> lay.at i = some (o, t) -> lo <= o /\ o + t.size <= hi /\ t.ok = true
 | .nil, _, _, _, _, _, _, h => by cases h
 | .cons o' t' r, lo, hi, 0, o, t, hok, h => by
  simp only [Lay.ok, Bool.and_eq_true, decide_eq_true_eq] at hok
  simp only [Lay.at, Option.some.injEq, Prod.mk.injEq] at h
  obtain ⟨rfl, rfl⟩ := h
  exact ⟨hok.1.1, Lay.ok_le r _ _ hok.2, hok.1.2⟩
 | .cons o' t' r, lo, hi, i + 1, o, t, hok, h => by
  simp only [Lay.ok, Bool.and_eq_true, decide_eq_true_eq] at hok
  have := Lay.at_in r _ _ i o t hok.2 h
  exact ⟨by omega, this.2.1, this.2.2⟩
/-- a field is set -/
theorem RepL.set {w : World} {F : Nat -> Prop} : ∀ (lay : Lay) (lo hi i o : Nat) (t : Ty) (c c' : Nat -> Value) (vs : List Tr) (v : Tr), lay.ok lo hi = true -> lay.at i = some (o, t) ->
  (∀ j, lo <= j -> j < hi -> j < o \/ o + t.size <= j -> c' j = c j) -> Rep w F t (fun j => c' (o + j)) v -> RepL w F lay c vs -> RepL w F lay c' (vs.set i v)
 | .nil, _, _, _, _, _, _, _, _, _, _, h, _, _, _ => by cases h
 | .cons o' t' r, lo, hi, 0, o, t, c, c', vs, v, hok, h, hc, hv, hr => by
  simp only [Lay.ok, Bool.and_eq_true, decide_eq_true_eq] at hok
  simp only [Lay.at, Option.some.injEq, Prod.mk.injEq] at h
  obtain ⟨rfl, rfl⟩ := h
  simp only [RepL] at hr ⊢
  obtain ⟨v0, vs', rfl, h2, h3⟩ := hr
  exact ⟨v, vs', rfl, hv, RepL.congr r _ _ _ _ _ hok.2 (fun j h1 h2 => hc j (by omega) h2 (.inr h1)) h3⟩
 | .cons o' t' r, lo, hi, i + 1, o, t, c, c', vs, v, hok, h, hc, hv, hr => by
  simp only [Lay.ok, Bool.and_eq_true, decide_eq_true_eq] at hok
  simp only [RepL] at hr ⊢
  obtain ⟨v0, vs', rfl, h2, h3⟩ := hr
  have hat : r.at i = some (o, t) := h
  have hin := Lay.at_in r _ _ i o t hok.2 hat
  refine ⟨v0, vs'.set i v, rfl, Rep.congr t' _ _ _ hok.1.2 (fun j hj => hc _ (by omega) (by omega) (.inl (by omega))) h2, ?_⟩
  exact RepL.set r _ _ i o t c c' vs' v hok.2 hat (fun j h1 h2 h3 => hc j (by omega) h2 h3) hv h3
/-- a field is read -/
theorem RepL.get {w : World} {F : Nat -> Prop} : ∀ (lay : Lay) (i o : Nat) (t : Ty) (c : Nat -> Value) (vs : List Tr), lay.at i = some (o, t) -> RepL w F lay c vs -> ∃ v, vs[i]? = some v /\ Rep w F t (fun j => c (o + j)) v
 | .nil, _, _, _, _, _, h, _ => by cases h
 | .cons o' t' r, 0, o, t, c, vs, h, hr => by
  simp only [Lay.at, Option.some.injEq, Prod.mk.injEq] at h
  obtain ⟨rfl, rfl⟩ := h
  simp only [RepL] at hr
  obtain ⟨v0, vs', rfl, h2, h3⟩ := hr
  exact ⟨v0, rfl, h2⟩
 | .cons o' t' r, i + 1, o, t, c, vs, h, hr => by
  simp only [RepL] at hr
  obtain ⟨v0, vs', rfl, h2, h3⟩ := hr
  obtain ⟨v, h4, h5⟩ := RepL.get r i o t c vs' h h3
  exact ⟨v, by simpa using h4, h5⟩
end Go.Proofs.YtcldbjehliladaaDoor
