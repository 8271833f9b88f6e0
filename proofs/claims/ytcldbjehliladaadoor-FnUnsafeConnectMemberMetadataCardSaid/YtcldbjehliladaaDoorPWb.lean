/-
  What the protocol writes of fields and parts, in plain words; what is read of it again. No program in it.
-/
import Derived.Test.YtcldbjehliladaaDoorPWa
import Derived.Test.YtcldbjehliladaaDoorPNs
set_option linter.unusedSimpArgs false
set_option linter.unusedVariables false
namespace Go.Proofs.YtcldbjehliladaaDoor
open Go Go.RowKit
def Tr.S : Tr -> List UInt8
 | .mk _ s _ _ _ => s
def Tr.Z : Tr -> Bool
 | .mk _ _ z _ _ => z
/-- nothing is said -/
def Tr.zero : Tr := .mk 0 [] false [] []
/-- a field of the protocol -/
inductive FD where
 | mk (kind from_ to null tag dflt of : Int) (sub : List FD)
namespace FD
def kind : FD -> Int
 | mk k _ _ _ _ _ _ _ => k
def from_ : FD -> Int
 | mk _ f _ _ _ _ _ _ => f
def to : FD -> Int
 | mk _ _ t _ _ _ _ _ => t
def null : FD -> Int
 | mk _ _ _ n _ _ _ _ => n
def tag : FD -> Int
 | mk _ _ _ _ g _ _ _ => g
def dflt : FD -> Int
 | mk _ _ _ _ _ d _ _ => d
def of : FD -> Int
 | mk _ _ _ _ _ _ o _ => o
def sub : FD -> List FD
 | mk _ _ _ _ _ _ _ s => s
end FD
/-- a version has the field -/
def FD.has (f : FD) (ver : Int) : Bool := decide (f.from_ <= ver) && (decide (f.to < 0) || decide (ver <= f.to))
/-- a field is null at a version -/
def nullW (null ver : Int) (t : Tr) : Bool := t.Z && decide (0 <= null) && decide (null <= ver)
def whole (b : List UInt8) : List UInt8 := b.take 32767
theorem whole_length (b : List UInt8) : (whole b).length <= 32767 := by simp [whole]; omega
/-- a count ahead of something -/
def counted (flex nl : Bool) (n size : Nat) : List UInt8 := if flex then (if nl then [0] else uvE (n + 1)) else if nl then fixedE (-1) size else fixedE n size
def width (k : Int) : Nat := if k = 1 then 1 else if k = 2 \/ k = 5 then 2 else if k = 3 then 4 else 8
/-- sixteen octets -/
def uu (s : List UInt8) : List UInt8 := s.take 16 ++ List.replicate (16 - (s.take 16).length) 0
theorem uu_length (s : List UInt8) : (uu s).length = 16 := by simp [uu]; omega
/-- what is written of a value that is no part -/
def leafW (kind : Int) (nl flex : Bool) (t : Tr) : List UInt8 :=
 if kind = 0 then [oct8 (t.N % 2)] else if kind = 7 then uu t.S
 else if kind = 8 then counted flex nl (if nl then [] else whole t.S).length 2 ++ (if nl then [] else whole t.S)
 else if kind = 9 then counted flex nl (if nl then [] else whole t.S).length 4 ++ (if nl then [] else whole t.S)
 else fixedE t.N (width kind)
/-- a tag, unless there is one of its number -/
def insTag : Tags -> Int × List UInt8 -> Tags
 | [], p => [p]
 | q :: r, p => if q.1 < p.1 then q :: insTag r p else if q.1 = p.1 then q :: r else p :: q :: r
/-- the unknown tags, by rising numbers (no known ones) -/
def unkW (u : Tags) : Tags := (u.take 32767).foldl insTag []
/-- tags, written -/
def tagW (p : Int × List UInt8) : List UInt8 := uvE p.1.toNat ++ uvE (whole p.2).length ++ whole p.2
def tagsW (u : Tags) : List UInt8 := uvE u.length ++ u.flatMap tagW
mutual
def fieldW : FD -> Int -> Bool -> Tr -> List UInt8
 | .mk kind _ _ null _ _ of sub, ver, flex, t =>
  if kind = 11 then counted flex (nullW null ver t) (if nullW null ver t then [] else t.L.take 32767).length 4 ++
   (if nullW null ver t then [] else t.L.take 32767).flatMap (fun x => if of = 10 then fieldsW sub 0 ver flex x ++ (if flex then tagsW (unkW x.U) else []) else leafW of false flex x)
  else if kind = 10 then
   if 0 <= null then (if nullW null ver t then fixedE (-1) 1 else fixedE 1 1 ++ (fieldsW sub 0 ver flex t ++ (if flex then tagsW (unkW t.U) else [])))
   else fieldsW sub 0 ver flex t ++ (if flex then tagsW (unkW t.U) else [])
  else leafW kind (nullW null ver t) flex t
def fieldsW : List FD -> Nat -> Int -> Bool -> Tr -> List UInt8
 | [], _, _, _, _ => []
 | f :: r, i, ver, flex, t => (if f.tag < 0 && f.has ver then fieldW f ver flex (t.L.getD i .zero) else []) ++ fieldsW r (i + 1) ver flex t
end
/-- what is written of a part (without known tags) -/
def partW (fs : List FD) (ver : Int) (flex : Bool) (t : Tr) : List UInt8 := fieldsW fs 0 ver flex t ++ (if flex then tagsW (unkW t.U) else [])
/-- what is told of a value that was written -/
def expL (kind : Int) (nl : Bool) (t : Tr) : Tr :=
 if kind = 0 then .ofBool (decide (t.N % 2 = 1)) else if kind = 1 then .num (IntKind.i8.wrap t.N) else if kind = 2 then .num (IntKind.i16.wrap t.N) else if kind = 3 then .num (wrap32 t.N) else if kind = 4 then .num (wrap64 t.N) else if kind = 5 then .num (t.N % 65536) else if kind = 6 then .num (wrap64 t.N)
 else if kind = 7 then .oct (uu t.S) else if kind = 8 then (if nl then .nul else .oct (whole t.S)) else if kind = 9 then (if nl then .octs [] true else .octs (whole t.S) false) else .nul
/-- what a method reads of what was written -/
def RdE (rd : Int -> Bool -> RS -> Tr × RS) (E : Int -> Bool -> List UInt8) (x : Int -> Bool -> Tr) : Prop := ∀ ver fl r, rd ver fl ⟨E ver fl ++ r, false, false⟩ = (x ver fl, ⟨r, false, false⟩)
section
variable (t : Tr) {k null d : Int}
theorem rde_int64 {fr to g of : Int} {sub : List FD} : RdE (fun _ _ s => (Tr.num (rdInt64 s).1, (rdInt64 s).2)) (fun ver fl => fieldW (.mk 4 fr to null g d of sub) ver fl t) (fun _ _ => expL 4 false t) := by
 intro ver fl r
 simp [fieldW, leafW, width, rdInt64_w, expL]
theorem rdCStr_w (s r : List UInt8) (h : s.length <= 32767) : rdCStr ⟨uvE (s.length + 1) ++ (s ++ r), false, false⟩ = (s, ⟨r, false, false⟩) := by
 unfold rdCStr
 rw [rdUvarint_w _ (by omega)]
 simp only []
 rw [show (((s.length + 1 : Nat) : Int) - 1) = (s.length : Nat) by omega, rdSpan_w]
theorem rdStr_w (s r : List UInt8) (h : s.length <= 32767) : rdStr ⟨fixedE s.length 2 ++ (s ++ r), false, false⟩ = (s, ⟨r, false, false⟩) := by
 unfold rdStr
 rw [rdInt16_w]
 have e : IntKind.i16.wrap (s.length : Int) = (s.length : Nat) := by
  simp only [IntKind.wrap, IntKind.bits, IntKind.signed]
  simp; omega
 simp only [e, rdSpan_w]
theorem rde_text {fr to g of : Int} {sub : List FD} : RdE (fun _ fl s => if fl = true then (Tr.oct (rdCStr s).1, (rdCStr s).2) else (Tr.oct (rdStr s).1, (rdStr s).2)) (fun ver fl => fieldW (.mk 8 fr to (-1) g d of sub) ver fl t) (fun _ _ => expL 8 false t) := by
 intro ver fl r
 have hw := whole_length t.S
 cases fl <;> simp [fieldW, leafW, nullW, counted, rdCStr_w _ _ hw, rdStr_w _ _ hw, expL]
theorem uvE0 : uvE 0 = [0] := uvE_small (by omega)
theorem rde_ntext {fr to g of : Int} {sub : List FD} : RdE (fun _ fl s => if fl = true then (Tr.ofOpt (rdCNStr s).1, (rdCNStr s).2) else (Tr.ofOpt (rdNStr s).1, (rdNStr s).2)) (fun ver fl => fieldW (.mk 8 fr to null g d of sub) ver fl t) (fun ver _ => expL 8 (nullW null ver t) t) := by
 intro ver fl r
 have hw := whole_length t.S
 cases hn : nullW null ver t
 ·cases fl
  ·have h1 : (rdInt16 ⟨fixedE (whole t.S).length 2 ++ (whole t.S ++ r), false, false⟩).1 = (whole t.S).length := by
    rw [rdInt16_w]; simp only [IntKind.wrap, IntKind.bits, IntKind.signed]; simp; omega
   simp only [fieldW, leafW, hn, counted, rdNStr, expL]
   simp
   rw [h1, if_neg (by omega)]
   simp [rdStr_w _ _ hw, Tr.ofOpt]
  ·have h1 : (rdUvarint ⟨uvE ((whole t.S).length + 1) ++ (whole t.S ++ r), false, false⟩).1 = ((whole t.S).length + 1 : Nat) := by rw [rdUvarint_w _ (by omega)]
   simp only [fieldW, leafW, hn, counted, rdCNStr, expL]
   simp
   rw [h1, if_neg (by omega)]
   simp [rdCStr_w _ _ hw, Tr.ofOpt]
 ·cases fl
  ·have h1 := rdInt16_w (-1) r false false
   simp [fieldW, leafW, hn, counted, rdNStr, h1, expL, Tr.ofOpt, IntKind.wrap, IntKind.bits, IntKind.signed]
  ·have h1 := rdUvarint_w 0 (by omega) r false false
   rw [uvE0] at h1
   simp only [List.cons_append, List.nil_append] at h1
   simp [fieldW, leafW, hn, counted, rdCNStr, h1, expL, Tr.ofOpt]
theorem rde_bytes {fr to g of : Int} {sub : List FD} : RdE (fun _ fl s => if fl = true then (Tr.octs (rdCBytes s).1.1 (rdCBytes s).1.2, (rdCBytes s).2) else (Tr.octs (rdBytes s).1.1 (rdBytes s).1.2, (rdBytes s).2)) (fun ver fl => fieldW (.mk 9 fr to (-1) g d of sub) ver fl t) (fun _ _ => expL 9 false t) := by
 intro ver fl r
 have hw := whole_length t.S
 have hn : nullW (-1) ver t = false := by simp [nullW]
 cases fl
 ·have h1 : rdInt32 ⟨fixedE (whole t.S).length 4 ++ (whole t.S ++ r), false, false⟩ = ((((whole t.S).length : Nat) : Int), ⟨whole t.S ++ r, false, false⟩) := by
   rw [rdInt32_w]; congr 1; simp only [wrap32]; omega
  simp only [fieldW, leafW, hn, counted, rdBytes, expL]
  simp
  rw [h1]
  simp only []
  rw [if_neg (by omega), rdSpan_w]
  exact ⟨rfl, rfl⟩
 ·have h1 : rdUvarint ⟨uvE ((whole t.S).length + 1) ++ (whole t.S ++ r), false, false⟩ = ((((whole t.S).length + 1 : Nat) : Int), ⟨whole t.S ++ r, false, false⟩) := rdUvarint_w _ (by omega) _ _ _
  simp only [fieldW, leafW, hn, counted, rdCBytes, expL]
  simp
  rw [h1]
  simp only []
  rw [if_neg (by omega), show (((whole t.S).length + 1 : Nat) : Int) - 1 = ((whole t.S).length : Nat) by omega, rdSpan_w]
  exact ⟨rfl, rfl⟩
theorem rde_nbytes {fr to g of : Int} {sub : List FD} : RdE (fun _ fl s => if fl = true then (Tr.octs (rdCNBytes s).1.1 (rdCNBytes s).1.2, (rdCNBytes s).2) else (Tr.octs (rdNBytes s).1.1 (rdNBytes s).1.2, (rdNBytes s).2)) (fun ver fl => fieldW (.mk 9 fr to null g d of sub) ver fl t) (fun ver _ => expL 9 (nullW null ver t) t) := by
 intro ver fl r
 have hw := whole_length t.S
 cases hn : nullW null ver t
 ·cases fl
  ·have h1 : rdInt32 ⟨fixedE (whole t.S).length 4 ++ (whole t.S ++ r), false, false⟩ = ((((whole t.S).length : Nat) : Int), ⟨whole t.S ++ r, false, false⟩) := by
    rw [rdInt32_w]; congr 1; simp only [wrap32]; omega
   simp only [fieldW, leafW, hn, counted, rdNBytes, expL]
   simp
   rw [h1]
   simp only []
   rw [if_neg (by omega), rdSpan_w]
   exact ⟨rfl, rfl⟩
  ·have h1 : rdUvarint ⟨uvE ((whole t.S).length + 1) ++ (whole t.S ++ r), false, false⟩ = ((((whole t.S).length + 1 : Nat) : Int), ⟨whole t.S ++ r, false, false⟩) := rdUvarint_w _ (by omega) _ _ _
   simp only [fieldW, leafW, hn, counted, rdCNBytes, expL]
   simp
   rw [h1]
   simp only []
   rw [if_neg (by omega), show (((whole t.S).length + 1 : Nat) : Int) - 1 = ((whole t.S).length : Nat) by omega, rdSpan_w]
   exact ⟨rfl, rfl⟩
 ·cases fl
  ·have h1 := rdInt32_w (-1) r false false
   simp [fieldW, leafW, hn, counted, rdNBytes, h1, expL, wrap32]
  ·have h1 := rdUvarint_w 0 (by omega) r false false
   rw [uvE0] at h1
   simp only [List.cons_append, List.nil_append] at h1
   simp [fieldW, leafW, hn, counted, rdCNBytes, h1, expL]
end
/-- tags that can be written and read again -/
def TagsOk (u : Tags) : Prop := u.Pairwise (fun p q => p.1 < q.1) /\ u.length <= 32767 /\ ∀ p ∈ u, 0 <= p.1 /\ p.1 < 4294967296
/-- the tags' octets, as far as they may go -/
def cutW (u : Tags) : Tags := u.map fun p => (p.1, whole p.2)
theorem insTag_mem : ∀ (u : Tags) (p q : Int × List UInt8), q ∈ insTag u p -> q = p \/ q ∈ u
 | [], p, q, h => by simp [insTag] at h; exact .inl h
 | x :: u, p, q, h => by
  unfold insTag at h
  split at h
  ·simp only [List.mem_cons] at h
   rcases h with h | h
   ·exact .inr (by simp [h])
   ·rcases insTag_mem u p q h with h | h
    ·exact .inl h
    ·exact .inr (by simp [h])
  ·split at h
   ·exact .inr h
   ·simp only [List.mem_cons] at h ⊢
    exact h
theorem insTag_sorted : ∀ (u : Tags) (p : Int × List UInt8), u.Pairwise (fun p q => p.1 < q.1) -> (insTag u p).Pairwise (fun p q => p.1 < q.1)
 | [], p, _ => by simp [insTag]
 | x :: u, p, h => by
  unfold insTag
  rw [List.pairwise_cons] at h
  split
  ·rename_i hx
   rw [List.pairwise_cons]
   refine ⟨fun q hq => ?_, insTag_sorted u p h.2⟩
   rcases insTag_mem u p q hq with rfl | hq
   ·exact hx
   ·exact h.1 q hq
  ·split
   ·exact List.pairwise_cons.2 h
   ·rename_i h1 h2
    rw [List.pairwise_cons, List.pairwise_cons]
    refine ⟨fun q hq => ?_, h.1, h.2⟩
    simp only [List.mem_cons] at hq
    rcases hq with rfl | hq
    ·omega
    ·have := h.1 q hq; omega
theorem insTag_length : ∀ (u : Tags) (p : Int × List UInt8), (insTag u p).length <= u.length + 1
 | [], p => by simp [insTag]
 | x :: u, p => by
  unfold insTag
  have := insTag_length u p
  split
  ·simp; omega
  ·split <;> simp
theorem unk_fold : ∀ (l u : Tags), u.Pairwise (fun p q => p.1 < q.1) -> (∀ p ∈ u ++ l, 0 <= p.1 /\ p.1 < 4294967296) -> (l.foldl insTag u).Pairwise (fun p q => p.1 < q.1) /\ (l.foldl insTag u).length <= u.length + l.length /\ ∀ p ∈ l.foldl insTag u, 0 <= p.1 /\ p.1 < 4294967296
 | [], u, h, hb => ⟨h, by simp, by simpa using hb⟩
 | p :: l, u, h, hb => by
  have := unk_fold l (insTag u p) (insTag_sorted u p h) (fun q hq => by
   rw [List.mem_append] at hq
   rcases hq with hq | hq
   ·rcases insTag_mem u p q hq with rfl | hq
    ·exact hb q (by simp)
    ·exact hb q (by simp [hq])
   ·exact hb q (by simp [hq]))
  have hl := insTag_length u p
  exact ⟨this.1, by simp only [List.foldl_cons, List.length_cons]; omega, this.2.2⟩
theorem unk_ok (u : Tags) (hb : ∀ p ∈ u, 0 <= p.1 /\ p.1 < 4294967296) : TagsOk (unkW u) := by
 have h := unk_fold (u.take 32767) [] List.Pairwise.nil (fun p hp => hb p (List.mem_of_mem_take (by simpa using hp)))
 refine ⟨h.1, ?_, h.2.2⟩
 have := h.2.1
 simp at this
 unfold unkW
 omega
/-- a number as a field of a kind has it -/
def numberW (kind n : Int) : Int := if kind = 0 then n % 2 else if kind = 1 then IntKind.i8.wrap n else if kind = 2 then IntKind.i16.wrap n else if kind = 3 then wrap32 n else if kind = 5 then n % 65536 else n
/-- whether a value that is no part is told as it was written -/
def leafTold (kind null ver : Int) (t x : Tr) : Bool :=
 if ((kind == 8 || (decide (0 <= null) && decide (null <= ver))) && x.Z != nullW null ver t) = true then false else if nullW null ver t then true
 else if kind = 8 \/ kind = 9 then x.S == whole t.S else if kind = 7 then x.S == uu t.S else x.N == numberW kind t.N
/-- whether a value that is no part is told as it is by default -/
def leafUsual (kind null dflt : Int) (x : Tr) : Bool :=
 if kind = 8 then (x.Z == decide (0 <= null)) && x.S.isEmpty else if kind = 7 then x.S == List.replicate 16 0 else if kind = 9 then x.S.isEmpty && x.L.isEmpty else x.N == numberW kind dflt
/-- a kind of a value that is no part -/
def leafK (k : Int) : Bool := k == 0 || k == 1 || k == 2 || k == 3 || k == 4 || k == 7 || k == 8 || k == 9 || k == 5 || k == 6
theorem Tr.N_num (n : Int) : (Tr.num n).N = n := rfl
theorem Tr.Z_num (n : Int) : (Tr.num n).Z = false := rfl
theorem Tr.N_ofBool (b : Bool) : (Tr.ofBool b).N = if b then 1 else 0 := rfl
theorem Tr.Z_ofBool (b : Bool) : (Tr.ofBool b).Z = false := rfl
theorem Tr.S_oct (s : List UInt8) : (Tr.oct s).S = s := rfl
theorem Tr.Z_oct (s : List UInt8) : (Tr.oct s).Z = false := rfl
theorem Tr.S_octs (s : List UInt8) (b : Bool) : (Tr.octs s b).S = s := rfl
theorem Tr.Z_octs (s : List UInt8) (b : Bool) : (Tr.octs s b).Z = b := rfl
theorem Tr.Z_nul : Tr.nul.Z = true := rfl
/-- what is expected of a value is told as it was written -/
theorem leaf_told {kind null ver : Int} {t : Tr} (hk : leafK kind = true) (hn : kind = 8 \/ kind = 9 \/ null = -1) (hf : -9223372036854775808 <= t.N /\ t.N <= 9223372036854775807) : leafTold kind null ver t (expL kind (nullW null ver t) t) = true := by
 have hnn : ¬ (kind = 8 \/ kind = 9) -> nullW null ver t = false /\ (decide (0 <= null) && decide (null <= ver)) = false := fun h => by
  have : null = -1 := by rcases hn with h' | h' | h'; exact (h (.inl h')).elim; exact (h (.inr h')).elim; exact h'
  subst this; simp [nullW]
 simp only [leafK, Bool.or_eq_true, beq_iff_eq] at hk
 rcases hk with ((((((((rfl | rfl) | rfl) | rfl) | rfl) | rfl) | rfl) | rfl) | rfl) | rfl
 ·obtain ⟨e1, e2⟩ := hnn (by decide)
  unfold leafTold
  rw [e1, e2]
  rcases Int.emod_two_eq t.N with h | h <;> simp [expL, numberW, Tr.N_ofBool, Tr.Z_ofBool, h]
 ·obtain ⟨e1, e2⟩ := hnn (by decide)
  unfold leafTold
  rw [e1, e2]
  simp [expL, numberW, Tr.N_num, Tr.Z_num]
 ·obtain ⟨e1, e2⟩ := hnn (by decide)
  unfold leafTold
  rw [e1, e2]
  simp [expL, numberW, Tr.N_num, Tr.Z_num]
 ·obtain ⟨e1, e2⟩ := hnn (by decide)
  unfold leafTold
  rw [e1, e2]
  simp [expL, numberW, Tr.N_num, Tr.Z_num]
 ·obtain ⟨e1, e2⟩ := hnn (by decide)
  unfold leafTold
  rw [e1, e2]
  simp [expL, numberW, Tr.N_num, Tr.Z_num]
  simp only [wrap64]; omega
 ·obtain ⟨e1, e2⟩ := hnn (by decide)
  unfold leafTold
  rw [e1, e2]
  simp [expL, Tr.S_oct, Tr.Z_oct]
 ·unfold leafTold
  cases e : nullW null ver t
  ·simp [expL, Tr.S_oct, Tr.Z_oct, e]
  ·simp [expL, Tr.Z_nul, e]
 ·unfold leafTold
  cases e : nullW null ver t
  ·simp [expL, Tr.S_octs, Tr.Z_octs, e]
  ·simp [expL, Tr.Z_octs, e]
 ·obtain ⟨e1, e2⟩ := hnn (by decide)
  unfold leafTold
  rw [e1, e2]
  simp [expL, numberW, Tr.N_num, Tr.Z_num]
 ·obtain ⟨e1, e2⟩ := hnn (by decide)
  unfold leafTold
  rw [e1, e2]
  simp [expL, numberW, Tr.N_num, Tr.Z_num]
  simp only [wrap64]; omega
end Go.Proofs.YtcldbjehliladaaDoor
