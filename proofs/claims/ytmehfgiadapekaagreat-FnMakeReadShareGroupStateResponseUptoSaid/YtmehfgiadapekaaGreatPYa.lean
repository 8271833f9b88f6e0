/-
  What AppendTo writes of a message's fields, in plain words; it is what the protocol writes, where the fields say what was to be written. No program in it.
-/
import Derived.Test.YtmehfgiadapekaaGreatPWc
set_option linter.unusedSimpArgs false
set_option linter.unusedVariables false
namespace Go.Proofs.YtmehfgiadapekaaGreat
open Go Go.RowKit
/-- a count ahead of something -/
def cntE (flex : Bool) (n size : Nat) : List UInt8 := if flex then uvE ((n + 1) % 4294967296) else fixedE n size
def nulE (flex : Bool) (size : Nat) : List UInt8 := if flex then [0] else fixedE (-1) size
/-- what is written of a value that is no part -/
def leafE (kind null : Int) (flex : Bool) (x : Tr) : List UInt8 :=
 if kind = 0 then [oct8 x.N] else if kind = 7 then x.S
 else if kind = 8 then (if (decide (0 <= null) && x.Z) = true then nulE flex 2 else cntE flex x.S.length 2 ++ x.S)
 else if kind = 9 then (if (decide (0 <= null) && x.Z) = true then nulE flex 4 else cntE flex x.S.length 4 ++ x.S)
 else fixedE x.N (width kind)
/-- what is written of tags -/
def tagE (p : Int × List UInt8) : List UInt8 := uvE p.1.toNat ++ (uvE (p.2.length % 4294967296) ++ p.2)
def tagsE (u : Tags) : List UInt8 := uvE (u.length % 4294967296) ++ u.flatMap tagE
/-- a version has a field, and it bears no tag -/
def hadW (f : FD) (ver : Int) : Bool := decide (f.tag < 0) && f.has ver
mutual
def encW : FD -> Int -> Bool -> Tr -> List UInt8
 | .mk kind _ _ null _ _ of sub, ver, flex, x =>
  if kind = 11 then (if (decide (0 <= null) && x.Z) = true then nulE flex 4 else cntE flex x.L.length 4 ++
   x.L.flatMap (fun y => if of = 10 then encsW sub ver flex y.L ++ (if flex then tagsE y.U else []) else leafE of (-1) flex y))
  else if kind = 10 then
   if 0 <= null then (if x.Z then fixedE (-1) 1 else fixedE 1 1 ++ (encsW sub ver flex x.L ++ (if flex then tagsE x.U else [])))
   else encsW sub ver flex x.L ++ (if flex then tagsE x.U else [])
  else leafE kind null flex x
def encsW : List FD -> Int -> Bool -> List Tr -> List UInt8
 | [], _, _, _ => []
 | f :: r, ver, flex, l => match l with
  | [] => []
  | x :: xs => (if hadW f ver = true then encW f ver flex x else []) ++ encsW r ver flex xs
end
/-- what is written of a part -/
def encP (fs : List FD) (ver : Int) (flex : Bool) (v : SV) : List UInt8 := encsW fs ver flex v.1 ++ (if flex then tagsE v.2 else [])
def tagsSaid (flex : Bool) (t x : Tr) : Bool := !flex || x.U == cutW (unkW t.U)
mutual
/-- a field says what was to be written, as far as it is written -/
def saidW : FD -> Int -> Bool -> Tr -> Tr -> Bool
 | .mk kind _ _ null _ _ of sub, ver, flex, t, x =>
  if kind = 11 then
   if ((decide (0 <= null) && decide (null <= ver)) && x.Z != nullW null ver t) = true then false
   else if nullW null ver t = true then true
   else decide (x.L.length = (t.L.take 32767).length) && ((t.L.take 32767).zip x.L).all fun p => if of = 10 then (saidsW sub 0 ver flex p.1 p.2.L && tagsSaid flex p.1 p.2) else leafTold of (-1) ver p.1 p.2
  else if kind = 10 then
   if (x.Z != nullW null ver t) = true then false else if nullW null ver t = true then true else saidsW sub 0 ver flex t x.L && tagsSaid flex t x
  else leafTold kind null ver t x
def saidsW : List FD -> Nat -> Int -> Bool -> Tr -> List Tr -> Bool
 | [], _, _, _, _, l => l.isEmpty
 | f :: r, j, ver, flex, t, l => match l with
  | [] => false
  | x :: xs => (if hadW f ver = true then saidW f ver flex (t.L.getD j .zero) x else true) && saidsW r (j + 1) ver flex t xs
end
/-- where it may be null, it may be null whenever a version has it -/
def nullOk (null from_ : Int) : Bool := decide (null < 0) || decide (null <= from_)
mutual
/-- fields that this speaks of -/
def FD.ok : FD -> Bool
 | .mk kind fr _ null tag _ of sub => decide (tag < 0) && nullOk null fr && (if kind = 11 then (if of = 10 then oksW sub else leafK of) else if kind = 10 then oksW sub else leafK kind && (kind == 8 || kind == 9 || null == -1))
def oksW : List FD -> Bool
 | [] => true
 | f :: r => f.ok && oksW r
end
theorem fixedE_mod {n m : Int} {size : Nat} (h : (n - m) % (256 : Int) ^ size = 0) : fixedE n size = fixedE m size := by
 unfold fixedE
 refine List.map_congr_left fun i hi => ?_
 have hi' : i < size := by simpa using hi
 obtain ⟨q, hq⟩ := Int.dvd_of_emod_eq_zero h
 obtain ⟨c, hc⟩ : ∃ c, size = (size - 1 - i) + 1 + c := ⟨i, by omega⟩
 have hp : (256 : Int) ^ size = 256 ^ (size - 1 - i) * (256 * 256 ^ c) := by
  conv => lhs; rw [hc]
  rw [Int.pow_add, Int.pow_add, Int.pow_one, Int.mul_assoc]
 have hn : n = m + 256 ^ (size - 1 - i) * (256 * (256 ^ c * q)) := by
  rw [hp] at hq
  have : n = m + 256 ^ (size - 1 - i) * (256 * 256 ^ c) * q := by omega
  rw [this]; simp only [Int.mul_assoc]
 have h0 : (256 : Int) ^ (size - 1 - i) ≠ 0 := by
  have : (0 : Int) < 256 ^ (size - 1 - i) := Int.pow_pos (by decide)
  omega
 rw [hn, Int.add_mul_ediv_left _ _ h0]
 unfold oct8
 rw [Int.add_mul_emod_self_left]
theorem cntE_small {flex : Bool} {n size : Nat} (h : n <= 32767) : cntE flex n size = counted flex false n size := by
 unfold cntE counted
 cases flex
 ·simp
 ·simp; rw [Nat.mod_eq_of_lt (by omega)]
theorem nulE_eq {flex : Bool} {n size : Nat} : nulE flex size = counted flex true n size := by
 unfold nulE counted; cases flex <;> simp
theorem flatMap_eq {α : Type} {f g : α -> List UInt8} : ∀ {l : List α}, (∀ x ∈ l, f x = g x) -> l.flatMap f = l.flatMap g
 | [], _ => rfl
 | x :: l, h => by simp only [List.flatMap_cons]; rw [h x (by simp), flatMap_eq (fun y hy => h y (by simp [hy]))]
theorem tagsE_cut {u : Tags} (hu : TagsOk u) : tagsE (cutW u) = tagsW u := by
 unfold tagsE tagsW
 have h1 : (cutW u).length = u.length := by simp [cutW]
 rw [h1, Nat.mod_eq_of_lt (by have := hu.2.1; omega)]
 congr 1
 unfold cutW
 rw [List.flatMap_map]
 refine flatMap_eq fun p hp => ?_
 have := whole_length p.2
 simp only [tagE, tagW, List.append_assoc]
 rw [Nat.mod_eq_of_lt (by omega)]
theorem leafTold_not {k null ver : Int} {t x : Tr} (h : leafTold k null ver t x = true) (hn : nullW null ver t = false) (hm : (k == 8 || (decide (0 <= null) && decide (null <= ver))) = true) : x.Z = false := by
 unfold leafTold at h
 rw [hn, hm] at h
 cases hz : x.Z
 ·rfl
 ·rw [hz] at h; simp at h
theorem leafE_eq {k null ver : Int} {fl : Bool} {t x : Tr} (hk : leafK k = true) (hn : k = 8 \/ k = 9 \/ null = -1) (hm : null < 0 \/ null <= ver) (h : leafTold k null ver t x = true) :
  leafE k null fl x = leafW k (nullW null ver t) fl t := by
 have hnn : ¬ (k = 8 \/ k = 9) -> nullW null ver t = false := fun h => by
  have : null = -1 := by rcases hn with h' | h' | h'; exact (h (.inl h')).elim; exact (h (.inr h')).elim; exact h'
  subst this; exact nullW_never
 have h89 : k = 8 \/ k = 9 -> leafE k null fl x = leafW k (nullW null ver t) fl t := by
  intro h8
  have hw := whole_length t.S
  cases e : nullW null ver t with
  | true =>
   have h0 := nullW_may e
   have hz : x.Z = true := by
    unfold leafTold at h
    rw [e, h0] at h
    cases hz : x.Z
    ·rw [hz] at h; simp at h
    ·rfl
   have hd : decide (0 <= null) = true := by simp only [Bool.and_eq_true] at h0; exact h0.1
   rcases h8 with rfl | rfl <;> simp [leafE, leafW, hz, hd, nulE_eq (n := 0)]
  | false =>
   have hz : (decide (0 <= null) && x.Z) = false := by
    by_cases h0 : 0 <= null
    ·have : x.Z = false := leafTold_not h e (by simp; right; exact ⟨h0, by omega⟩)
     simp [this]
    ·simp [h0]
   have hs : x.S = whole t.S := by
    unfold leafTold at h
    rw [e] at h
    split at h
    ·cases h
    ·rcases h8 with rfl | rfl <;> simpa using h
   rcases h8 with rfl | rfl <;> simp only [leafE, leafW, hz, hs] <;> simp <;> rw [cntE_small hw]
 have hN : ¬ (k = 8 \/ k = 9 \/ k = 7) -> x.N = numberW k t.N := fun h' => by
  have e := hnn (fun q => h' (q.elim .inl (fun q => .inr (.inl q))))
  unfold leafTold at h
  rw [e] at h
  split at h
  ·cases h
  ·rw [if_neg (by simp), if_neg (fun q => h' (q.elim .inl (fun q => .inr (.inl q)))), if_neg (fun q => h' (.inr (.inr q)))] at h
   simpa using h
 simp only [leafK, Bool.or_eq_true, beq_iff_eq] at hk
 rcases hk with ((((((((rfl | rfl) | rfl) | rfl) | rfl) | rfl) | rfl) | rfl) | rfl) | rfl
 ·have := hN (by decide); simp [leafE, leafW, this, numberW]
 ·have := hN (by decide); simp [leafE, leafW, this, numberW, width]; apply fixedE_mod; simp only [IntKind.wrap, IntKind.bits, IntKind.signed]; simp; split <;> omega
 ·have := hN (by decide); simp [leafE, leafW, this, numberW, width]; apply fixedE_mod; simp only [IntKind.wrap, IntKind.bits, IntKind.signed]; simp; split <;> omega
 ·have := hN (by decide); simp [leafE, leafW, this, numberW, width]; apply fixedE_mod; simp only [wrap32]; omega
 ·have := hN (by decide); simp [leafE, leafW, this, numberW, width]
 ·have e := hnn (by decide)
  unfold leafTold at h
  rw [e] at h
  split at h
  ·cases h
  ·simp [leafE, leafW]; simpa using h
 ·exact h89 (.inl rfl)
 ·exact h89 (.inr rfl)
 ·have := hN (by decide); simp [leafE, leafW, this, numberW, width]; apply fixedE_mod; omega
 ·have := hN (by decide); simp [leafE, leafW, this, numberW, width]
theorem zip_flatMap {E1 E2 : Tr -> List UInt8} : ∀ {l m : List Tr}, m.length = l.length -> (∀ p ∈ l.zip m, E1 p.2 = E2 p.1) -> m.flatMap E1 = l.flatMap E2
 | [], [], _, _ => rfl
 | [], _ :: _, h, _ => by simp at h
 | _ :: _, [], h, _ => by simp at h
 | a :: l, b :: m, h, hp => by
  simp only [List.flatMap_cons]
  rw [hp (a, b) (by simp), zip_flatMap (by simpa using h) (fun p q => hp p (by simp [q]))]
theorem hadW_null {f : FD} {ver : Int} (h : hadW f ver = true) (hn : nullOk f.null f.from_ = true) : f.null < 0 \/ f.null <= ver := by
 simp only [hadW, FD.has, nullOk, Bool.and_eq_true, Bool.or_eq_true, decide_eq_true_eq] at h hn
 omega
theorem tags_eq {fl : Bool} {t x : Tr} (ht : TOk t) (h : tagsSaid fl t x = true) : (if fl then tagsE x.U else []) = (if fl then tagsW (unkW t.U) else []) := by
 cases fl
 ·rfl
 ·simp only [tagsSaid, Bool.not_true, Bool.false_or, beq_iff_eq] at h
  simp only [if_true, h, tagsE_cut (unk_ok t.U ht.tags)]
mutual
theorem encW_eq : ∀ (f : FD) (ver : Int) (fl : Bool) (t x : Tr), f.ok = true -> hadW f ver = true -> TOk t -> saidW f ver fl t x = true -> encW f ver fl x = fieldW f ver fl t
 | .mk kind fr to null tag d of sub, ver, fl, t, x, hok, hh, ht, h => by
  have hok' := hok
  simp only [FD.ok, Bool.and_eq_true] at hok
  have hnull : null < 0 \/ null <= ver := hadW_null hh hok.1.2
  simp only [saidW] at h
  simp only [encW, fieldW]
  by_cases h11 : kind = 11
  ·simp only [if_pos h11] at h hok ⊢
   have hlen : (t.L.take 32767).length <= 32767 := by simp; omega
   cases hnl : nullW null ver t with
   | true =>
    have hm := nullW_may hnl
    simp only [hnl, hm, Bool.true_and, if_true] at h
    split at h
    ·cases h
    ·rename_i hz
     have hz : x.Z = true := by simpa using hz
     have hd : decide (0 <= null) = true := by simp only [Bool.and_eq_true] at hm; exact hm.1
     simp [hz, hd, nulE_eq (n := 0)]
   | false =>
    simp only [hnl, Bool.false_eq_true, if_false] at h ⊢
    split at h
    ·cases h
    ·rename_i hz
     simp only [Bool.and_eq_true, decide_eq_true_eq] at h
     have hz' : (decide (0 <= null) && x.Z) = false := by
      by_cases h0 : 0 <= null
      ·have : (decide (0 <= null) && decide (null <= ver)) = true := by simp; omega
       rw [this] at hz
       have : x.Z = false := by simpa using hz
       simp [this]
      ·simp [h0]
     rw [hz']
     simp only [Bool.false_eq_true, if_false]
     rw [h.1, cntE_small hlen]
     congr 1
     refine zip_flatMap h.1 fun p hp => ?_
     have h2 := List.all_eq_true.1 h.2 p hp
     have htp : TOk p.1 := ht.list _ (List.mem_of_mem_take (List.of_mem_zip hp).1)
     by_cases h10 : of = 10
     ·simp only [if_pos h10] at h2 hok ⊢
      simp only [Bool.and_eq_true] at h2
      rw [encsW_eq sub 0 ver fl p.1 p.2.L hok.2 htp h2.1, tags_eq htp h2.2]
     ·simp only [if_neg h10] at h2 hok ⊢
      rw [leafE_eq hok.2 (.inr (.inr rfl)) (.inl (by decide)) h2, nullW_never]
  ·by_cases h10 : kind = 10
   ·simp only [if_neg h11, if_pos h10] at h hok ⊢
    split at h
    ·cases h
    ·rename_i hz
     have hz : x.Z = nullW null ver t := by simpa using hz
     cases hnl : nullW null ver t with
     | true =>
      have hm := nullW_may hnl
      have hd : 0 <= null := by simp only [Bool.and_eq_true, decide_eq_true_eq] at hm; exact hm.1
      rw [if_pos hd, if_pos hd, hz, hnl]
      simp
     | false =>
      rw [hnl] at h hz
      simp only [Bool.false_eq_true, if_false, Bool.and_eq_true] at h
      have e1 := encsW_eq sub 0 ver fl t x.L hok.2 ht h.1
      have e2 := tags_eq ht h.2
      simp only [hz, e1, e2, Bool.false_eq_true, if_false]
   ·simp only [if_neg h11, if_neg h10, Bool.and_eq_true, Bool.or_eq_true, beq_iff_eq] at h hok ⊢
    exact leafE_eq hok.2.1 (hok.2.2.elim (fun h => h.elim .inl (fun h => .inr (.inl h))) (fun h => .inr (.inr h))) hnull h
theorem encsW_eq : ∀ (fs : List FD) (j : Nat) (ver : Int) (fl : Bool) (t : Tr) (xs : List Tr), oksW fs = true -> TOk t -> saidsW fs j ver fl t xs = true -> encsW fs ver fl xs = fieldsW fs j ver fl t
 | [], _, _, _, _, _, _, _, _ => by simp [encsW, fieldsW]
 | f :: r, j, ver, fl, t, xs, hok, ht, h => by
  simp only [oksW, Bool.and_eq_true] at hok
  cases xs with
  | nil => simp [saidsW] at h
  | cons x xs =>
   simp only [saidsW, Bool.and_eq_true] at h
   simp only [encsW, fieldsW]
   rw [encsW_eq r (j + 1) ver fl t xs hok.2 ht h.2]
   congr 1
   show _ = if hadW f ver = true then _ else _
   cases hh : hadW f ver with
   | true => simp only [hh, if_true] at h ⊢; exact encW_eq f ver fl _ x hok.1 hh (ht.at j) h.1
   | false => simp
end
/-- what is written of a part that says what was to be written -/
theorem encP_eq {fs : List FD} {ver : Int} {fl : Bool} {t : Tr} {v : SV} (hok : oksW fs = true) (ht : TOk t) (h1 : saidsW fs 0 ver fl t v.1 = true) (h2 : fl = true -> v.2 = cutW (unkW t.U)) : encP fs ver fl v = partW fs ver fl t := by
 unfold encP partW
 rw [encsW_eq fs 0 ver fl t v.1 hok ht h1]
 congr 1
 cases fl
 ·rfl
 ·simp only [if_true, h2 rfl, tagsE_cut (unk_ok t.U ht.tags)]
end Go.Proofs.YtmehfgiadapekaaGreat
