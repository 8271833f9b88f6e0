/-
  How much is written of a tree: no more than its bulk, so many times. No program in it.
-/
import Derived.Test.YtmehfgiadapekaaGreatPWc
set_option linter.unusedSimpArgs false
set_option linter.unusedVariables false
namespace Go.Proofs.YtmehfgiadapekaaGreat
open Go Go.RowKit
def bulkU : Tags -> Nat
 | [] => 0
 | p :: r => p.2.length + 3 + bulkU r
mutual
/-- how much a tree holds -/
def Tr.bulk : Tr -> Nat
 | .mk _ s _ l u => s.length + bulkL l + bulkU u + 6
def bulkL : List Tr -> Nat
 | [] => 0
 | t :: r => t.bulk + bulkL r
end
mutual
/-- how much is written of a field of which nothing is said -/
def FD.z : FD -> Nat
 | .mk kind _ _ _ _ _ _ sub => if kind = 10 then zL sub + 12 else 26
def zL : List FD -> Nat
 | [] => 0
 | f :: r => f.z + zL r
end
mutual
/-- how many times a tree's bulk is written of a field -/
def FD.a : FD -> Nat
 | .mk kind _ _ _ _ _ of sub => if kind = 10 then aL sub + zL sub + 20 else if kind = 11 then aL sub + zL sub + 30 else 26
def aL : List FD -> Nat
 | [] => 0
 | f :: r => max f.a (aL r)
end
theorem bulk_six (t : Tr) : 6 <= t.bulk := by cases t; simp only [Tr.bulk]; omega
theorem bulk_mk (t : Tr) : t.bulk = t.S.length + bulkL t.L + bulkU t.U + 6 := by cases t; rfl
theorem counted_le {flex nl : Bool} {n size : Nat} (h : n <= 4294967295 /\ size <= 8) : (counted flex nl n size).length <= 10 := by
 have := uvE_ten' (n := n + 1) (by omega)
 unfold counted
 split
 ·split
  ·simp
  ·omega
 ·split <;> (rw [fixedE_length]; omega)
theorem leafW_bulk {k : Int} {nl fl : Bool} {t : Tr} : (leafW k nl fl t).length <= 26 + t.S.length := by
 have hw : (whole t.S).length <= t.S.length /\ (whole t.S).length <= 32767 := by simp [whole]; omega
 have hd : (if nl = true then [] else whole t.S).length <= t.S.length /\ (if nl = true then [] else whole t.S).length <= 32767 := by
  split
  ·simp
  ·exact hw
 unfold leafW
 split
 ·simp; omega
 split
 ·rw [uu_length]; omega
 split
 ·have := counted_le (flex := fl) (nl := nl) (n := (if nl = true then [] else whole t.S).length) (size := 2) (by omega); rw [List.length_append]; omega
 split
 ·have := counted_le (flex := fl) (nl := nl) (n := (if nl = true then [] else whole t.S).length) (size := 4) (by omega); rw [List.length_append]; omega
 ·rw [fixedE_length]; unfold width; split; omega; split; omega; split <;> omega
theorem leafW_a {k : Int} {nl fl : Bool} {t : Tr} : (leafW k nl fl t).length <= 26 * t.bulk := by
 have := leafW_bulk (k := k) (nl := nl) (fl := fl) (t := t)
 have h := bulk_mk t
 omega
theorem insTag_bulk : ∀ (u : Tags) (p : Int × List UInt8), bulkU (insTag u p) <= bulkU u + (p.2.length + 3)
 | [], p => by simp [insTag, bulkU]
 | q :: u, p => by
  have := insTag_bulk u p
  unfold insTag
  split
  ·simp only [bulkU]; omega
  ·split <;> (simp only [bulkU]; omega)
theorem foldTag_bulk : ∀ (l u : Tags), bulkU (l.foldl insTag u) <= bulkU u + bulkU l
 | [], u => by simp [bulkU]
 | p :: l, u => by
  have h1 := insTag_bulk u p
  have h2 := foldTag_bulk l (insTag u p)
  simp only [List.foldl_cons, bulkU]; omega
theorem take_bulkU : ∀ (n : Nat) (u : Tags), bulkU (u.take n) <= bulkU u
 | 0, u => by simp [bulkU]
 | n + 1, [] => by simp
 | n + 1, p :: u => by have := take_bulkU n u; simp only [List.take_succ_cons, bulkU]; omega
theorem unk_bulk (u : Tags) : bulkU (unkW u) <= bulkU u := by
 have h1 := foldTag_bulk (u.take 32767) []
 have h2 := take_bulkU 32767 u
 unfold unkW
 simp only [bulkU] at h1
 omega
theorem tags_bulk : ∀ (u : Tags), (∀ p ∈ u, 0 <= p.1 /\ p.1 < 4294967296) -> (u.flatMap tagW).length <= 7 * bulkU u
 | [], _ => by simp [bulkU]
 | p :: u, h => by
  have h1 := tags_bulk u (fun q hq => h q (by simp [hq]))
  have hp := h p (by simp)
  have h2 := uvE_ten' (n := p.1.toNat) (by omega)
  have h3 : (whole p.2).length <= p.2.length /\ (whole p.2).length <= 32767 := by simp [whole]; omega
  have h4 := uvE_ten' (n := (whole p.2).length) (by omega)
  simp only [List.flatMap_cons, tagW, List.length_append, bulkU]; omega
theorem tagsW_bulk {t : Tr} (ht : TOk t) : (tagsW (unkW t.U)).length <= 10 + 7 * bulkU t.U := by
 have ho := unk_ok t.U ht.tags
 have h1 := tags_bulk (unkW t.U) ho.2.2
 have h2 := unk_bulk t.U
 have h3 := uvE_ten' (n := (unkW t.U).length) (by have := ho.2.1; omega)
 simp only [tagsW, List.length_append]; omega
theorem take_bulkL : ∀ (n : Nat) (l : List Tr), bulkL (l.take n) <= bulkL l
 | 0, l => by simp [bulkL]
 | n + 1, [] => by simp
 | n + 1, t :: l => by have := take_bulkL n l; simp only [List.take_succ_cons, bulkL]; omega
theorem zero_part {fl : Bool} : (if fl then tagsW (unkW Tr.zero.U) else []).length <= 1 := by
 cases fl
 ·simp
 ·simp only [if_true, show unkW Tr.zero.U = [] from rfl, tagsW, List.length_nil, List.flatMap_nil, List.append_nil, uvE0]; simp
mutual
theorem fieldW_zero : ∀ (f : FD) (ver : Int) (fl : Bool), (fieldW f ver fl .zero).length <= f.z
 | .mk kind fr to null g d of sub, ver, fl => by
  have hn : nullW null ver .zero = false := rfl
  have hp := fieldsW_zero sub 0 ver fl
  have hz := zero_part (fl := fl)
  simp only [fieldW, hn, FD.z, Bool.false_eq_true, if_false]
  split
  ·rename_i h11
   subst h11
   simp only [show ¬ (11 : Int) = 10 by decide, if_false]
   have := counted_le (flex := fl) (nl := false) (n := 0) (size := 4) (by omega)
   simp only [show (Tr.zero).L = [] from rfl, List.take_nil, List.flatMap_nil, List.append_nil, List.length_nil]
   omega
  ·split
   ·split
    ·have := fixedE_length 1 1
     simp only [List.length_append] at *; omega
    ·simp only [List.length_append] at *; omega
   ·have := leafW_bulk (k := kind) (nl := false) (fl := fl) (t := .zero)
    simp only [show (Tr.zero).S = [] from rfl, List.length_nil] at this
    omega
theorem fieldsW_zero : ∀ (fs : List FD) (j : Nat) (ver : Int) (fl : Bool), (fieldsW fs j ver fl .zero).length <= zL fs
 | [], _, _, _ => by simp [fieldsW]
 | f :: r, j, ver, fl => by
  have h1 := fieldW_zero f ver fl
  have h2 := fieldsW_zero r (j + 1) ver fl
  have e : (Tr.zero).L.getD j .zero = .zero := by simp [Tr.zero, Tr.L]
  simp only [fieldsW, List.length_append, e, zL]
  split
  ·omega
  ·simp; omega
end
theorem list_len {E : Tr -> List UInt8} {K : Nat} (h : ∀ x, TOk x -> (E x).length <= K * x.bulk) : ∀ (l : List Tr), (∀ x ∈ l, TOk x) -> (l.flatMap E).length <= K * bulkL l
 | [], _ => by simp
 | x :: l, hl => by
  have h1 := h x (hl x (by simp))
  have h2 := list_len h l (fun y hy => hl y (by simp [hy]))
  simp only [List.flatMap_cons, List.length_append, bulkL, Nat.mul_add]; omega
theorem part_of {F A Z : Nat} {fl : Bool} {t : Tr} (ht : TOk t) (h : F <= A * bulkL t.L + Z) : F + (if fl then tagsW (unkW t.U) else []).length <= (A + Z + 10) * t.bulk := by
 have h1 : (if fl then tagsW (unkW t.U) else []).length <= 10 + 7 * bulkU t.U := by
  cases fl
  ·simp
  ·exact tagsW_bulk ht
 have h2 := bulk_mk t
 have h3 : A * bulkL t.L <= A * t.bulk := Nat.mul_le_mul_left _ (by omega)
 have h4 : Z * 1 <= Z * t.bulk := Nat.mul_le_mul_left _ (by omega)
 have h5 : 10 + 7 * bulkU t.U <= 10 * t.bulk := by omega
 rw [Nat.add_mul, Nat.add_mul]
 omega
mutual
theorem fieldW_bulk : ∀ (f : FD) (ver : Int) (fl : Bool) (t : Tr), TOk t -> (fieldW f ver fl t).length <= f.a * t.bulk
 | .mk kind fr to null g d of sub, ver, fl, t, ht => by
  have hs := bulk_six t
  have hbm := bulk_mk t
  have hp : ∀ x, TOk x -> (fieldsW sub 0 ver fl x).length + (if fl then tagsW (unkW x.U) else []).length <= (aL sub + zL sub + 10) * x.bulk := fun x hx => by
   have := fieldsW_bulk sub 0 ver fl x hx
   exact part_of hx (by simpa using this)
  simp only [fieldW, FD.a]
  split
  ·rename_i h11
   subst h11
   simp only [show ¬ (11 : Int) = 10 by decide, if_false, if_true]
   have hlen : (if nullW null ver t = true then [] else t.L.take 32767).length <= 32767 := by split <;> simp; omega
   have hc := counted_le (flex := fl) (nl := nullW null ver t) (n := (if nullW null ver t = true then [] else t.L.take 32767).length) (size := 4) (by omega)
   have hb : bulkL (if nullW null ver t = true then [] else t.L.take 32767) <= bulkL t.L := by
    split
    ·simp [bulkL]
    ·exact take_bulkL _ _
   have hl : ∀ x ∈ (if nullW null ver t = true then [] else t.L.take 32767), TOk x := fun x hx => by
    split at hx
    ·simp at hx
    ·exact ht.list x (List.mem_of_mem_take hx)
   have hE : ∀ x, TOk x -> ((fun x => if of = 10 then fieldsW sub 0 ver fl x ++ (if fl then tagsW (unkW x.U) else []) else leafW of false fl x) x).length <= (aL sub + zL sub + 26) * x.bulk := fun x hx => by
    simp only []
    split
    ·have h1 := hp x hx
     rw [List.length_append]
     refine Nat.le_trans h1 (Nat.mul_le_mul_right _ (by omega))
    ·refine Nat.le_trans leafW_a (Nat.mul_le_mul_right _ (by omega))
   have h2 := list_len hE _ hl
   rw [List.length_append]
   have h3 : (aL sub + zL sub + 26) * bulkL (if nullW null ver t = true then [] else t.L.take 32767) <= (aL sub + zL sub + 26) * t.bulk := Nat.mul_le_mul_left _ (by omega)
   have h4 : (aL sub + zL sub + 30) * t.bulk = (aL sub + zL sub + 26) * t.bulk + 4 * t.bulk := by rw [<- Nat.add_mul]
   omega
  ·rename_i h11
   split
   ·have h1 := hp t ht
    have h4 : (aL sub + zL sub + 20) * t.bulk = (aL sub + zL sub + 10) * t.bulk + 10 * t.bulk := by rw [<- Nat.add_mul]
    split
    ·split
     ·rw [fixedE_length]; omega
     ·rw [List.length_append, List.length_append, fixedE_length]; omega
    ·rw [List.length_append]; omega
   ·exact leafW_a
theorem fieldsW_bulk : ∀ (fs : List FD) (j : Nat) (ver : Int) (fl : Bool) (t : Tr), TOk t -> (fieldsW fs j ver fl t).length <= aL fs * bulkL (t.L.drop j) + zL fs
 | [], _, _, _, _, _ => by simp [fieldsW]
 | f :: r, j, ver, fl, t, ht => by
  have h2 := fieldsW_bulk r (j + 1) ver fl t ht
  simp only [fieldsW, List.length_append, aL, zL]
  have hm : aL r * bulkL (t.L.drop (j + 1)) <= max f.a (aL r) * bulkL (t.L.drop (j + 1)) := Nat.mul_le_mul_right _ (Nat.le_max_right _ _)
  by_cases hj : j < t.L.length
  ·have hd : t.L.drop j = t.L[j] :: t.L.drop (j + 1) := List.drop_eq_getElem_cons hj
   have hg : t.L.getD j .zero = t.L[j] := by rw [List.getD_eq_getElem?_getD, List.getElem?_eq_getElem hj]; rfl
   have h1 := fieldW_bulk f ver fl t.L[j] (ht.list _ (List.getElem_mem hj))
   have h3 : f.a * t.L[j].bulk <= max f.a (aL r) * t.L[j].bulk := Nat.mul_le_mul_right _ (Nat.le_max_left _ _)
   rw [hd, hg]
   simp only [bulkL, Nat.mul_add]
   split
   ·omega
   ·simp; omega
  ·have hg : t.L.getD j .zero = .zero := by rw [List.getD_eq_getElem?_getD, List.getElem?_eq_none (by omega)]; rfl
   have h1 := fieldW_zero f ver fl
   have hd : bulkL (t.L.drop (j + 1)) <= bulkL (t.L.drop j) := by rw [List.drop_of_length_le (by omega)]; simp [bulkL]
   have h5 : max f.a (aL r) * bulkL (t.L.drop (j + 1)) <= max f.a (aL r) * bulkL (t.L.drop j) := Nat.mul_le_mul_left _ hd
   rw [hg]
   split
   ·omega
   ·simp; omega
end
/-- how much is written of a part -/
theorem partW_bulk (fs : List FD) (ver : Int) (fl : Bool) (t : Tr) (ht : TOk t) : (partW fs ver fl t).length <= (aL fs + zL fs + 10) * t.bulk := by
 have h := fieldsW_bulk fs 0 ver fl t ht
 unfold partW
 rw [List.length_append]
 exact part_of ht (by simpa using h)
end Go.Proofs.YtmehfgiadapekaaGreat
