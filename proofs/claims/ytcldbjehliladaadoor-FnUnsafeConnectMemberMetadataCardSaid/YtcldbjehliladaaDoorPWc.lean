/-
  What is read of what the protocol wrote is told as it was written: values, lists, parts, whole messages. No program in it.
-/
import Derived.Test.YtcldbjehliladaaDoorPWb
set_option linter.unusedSimpArgs false
set_option linter.unusedVariables false
namespace Go.Proofs.YtcldbjehliladaaDoor
open Go Go.RowKit
/-- the numbers of a tree are numbers of the program, the keys of its tags too -/
inductive TOk : Tr -> Prop where
 | mk {n : Int} {s : List UInt8} {z : Bool} {l : List Tr} {u : Tags} (hn : -9223372036854775808 <= n /\ n <= 9223372036854775807) (hl : ∀ x ∈ l, TOk x) (hu : ∀ p ∈ u, 0 <= p.1 /\ p.1 < 4294967296) : TOk (.mk n s z l u)
theorem TOk.zero : TOk .zero := .mk ⟨by decide, by decide⟩ (fun x h => by simp at h) (fun x h => by simp at h)
theorem TOk.num {t : Tr} (h : TOk t) : -9223372036854775808 <= t.N /\ t.N <= 9223372036854775807 := by cases h with | mk hn hl hu => exact hn
theorem TOk.list {t : Tr} (h : TOk t) : ∀ x ∈ t.L, TOk x := by cases h with | mk hn hl hu => exact hl
theorem TOk.tags {t : Tr} (h : TOk t) : ∀ p ∈ t.U, 0 <= p.1 /\ p.1 < 4294967296 := by cases h with | mk hn hl hu => exact hu
theorem TOk.at {t : Tr} (h : TOk t) (j : Nat) : TOk (t.L.getD j .zero) := by
 by_cases hj : j < t.L.length
 ·rw [List.getD_eq_getElem?_getD, List.getElem?_eq_getElem hj]; exact h.list _ (List.getElem_mem hj)
 ·rw [List.getD_eq_getElem?_getD, List.getElem?_eq_none (by omega)]; exact .zero
/-- the tags are told as they were written -/
def tagsTold (flex : Bool) (t x : Tr) : Bool := x.U == (if flex then cutW (unkW t.U) else [])
mutual
/-- a field is told as it is by default -/
def usualW : FD -> Tr -> Bool
 | .mk kind _ _ null _ dflt _ sub, x =>
  if kind = 10 then (if 0 <= null then x.Z else x.U.isEmpty && usualsW sub x.L) else if kind = 11 then x.S.isEmpty && x.L.isEmpty else leafUsual kind null dflt x
def usualsW : List FD -> List Tr -> Bool
 | [], l => l.isEmpty
 | f :: r, l => match l with
  | [] => false
  | x :: xs => usualW f x && usualsW r xs
end
mutual
/-- a field is told as it was written -/
def toldW : FD -> Int -> Bool -> Tr -> Tr -> Bool
 | .mk kind _ _ null _ _ of sub, ver, flex, t, x =>
  if kind = 11 then
   if ((decide (0 <= null) && decide (null <= ver)) && x.Z != nullW null ver t) = true then false
   else if nullW null ver t = true then true
   else decide (x.L.length = (t.L.take 32767).length) && ((t.L.take 32767).zip x.L).all fun p => if of = 10 then !p.2.Z && (toldsW sub 0 ver flex p.1 p.2.L && tagsTold flex p.1 p.2) else leafTold of (-1) ver p.1 p.2
  else if kind = 10 then
   if (x.Z != nullW null ver t) = true then false else if nullW null ver t = true then true else toldsW sub 0 ver flex t x.L && tagsTold flex t x
  else leafTold kind null ver t x
def toldsW : List FD -> Nat -> Int -> Bool -> Tr -> List Tr -> Bool
 | [], _, _, _, _, l => l.isEmpty
 | f :: r, j, ver, flex, t, l => match l with
  | [] => false
  | x :: xs => (if (decide (f.tag < 0) && f.has ver) = true then toldW f ver flex (t.L.getD j .zero) x else usualW f x) && toldsW r (j + 1) ver flex t xs
end
theorem leaf_ne {k : Int} (h : leafK k = true) : ¬ k = 11 /\ ¬ k = 10 := ⟨fun e => by subst e; simp [leafK] at h, fun e => by subst e; simp [leafK] at h⟩
theorem toldW_leaf {k fr to null g d o : Int} {sub : List FD} {ver : Int} {fl : Bool} {t x : Tr} (hk : leafK k = true) : toldW (.mk k fr to null g d o sub) ver fl t x = leafTold k null ver t x := by
 obtain ⟨h1, h2⟩ := leaf_ne hk
 simp only [toldW]; rw [if_neg h1, if_neg h2]
theorem fieldW_lf {k fr to null g d o : Int} {sub : List FD} {ver : Int} {fl : Bool} {t : Tr} (hk : leafK k = true) : fieldW (.mk k fr to null g d o sub) ver fl t = leafW k (nullW null ver t) fl t := by
 obtain ⟨h1, h2⟩ := leaf_ne hk
 simp only [fieldW]; rw [if_neg h1, if_neg h2]
theorem set_same {α : Type} : ∀ {l : List α} {i : Nat} {z : α}, l[i]? = some z -> l.set i z = l
 | [], _, _, h => by simp at h
 | a :: l, 0, z, h => by simp at h; subst h; rfl
 | a :: l, i + 1, z, h => by
  simp only [List.set_cons_succ]
  rw [set_same (by simpa using h)]
abbrev OkV := Int -> Bool -> Prop
section
variable {ok : OkV} {fr to null g d o : Int} {sub : List FD} {rd rd1 rd2 rdl : Int -> Bool -> RS -> Tr × RS}
/-- what a method reads of what was written is told as it was written -/
def RdW (ok : OkV) (rd : Int -> Bool -> RS -> Tr × RS) (f : FD) : Prop := ∀ ver fl t r, ok ver fl -> TOk t -> ∃ x, rd ver fl ⟨fieldW f ver fl t ++ r, false, false⟩ = (x, ⟨r, false, false⟩) /\ toldW f ver fl t x = true
theorem rdw_leaf {k : Int} {x : Tr -> Int -> Bool -> Tr} (h : ∀ t, RdE rd (fun ver fl => fieldW (.mk k fr to null g d o sub) ver fl t) (x t)) (hx : ∀ t ver fl, x t ver fl = expL k (nullW null ver t) t) (hk : leafK k = true) (hn : k = 8 \/ k = 9 \/ null = -1) :
  RdW ok rd (.mk k fr to null g d o sub) := by
 intro ver fl t r _ ht
 refine ⟨_, h t ver fl r, ?_⟩
 rw [toldW_leaf hk, hx]
 exact leaf_told hk hn ht.num
theorem nullW_never {ver : Int} {t : Tr} : nullW (-1) ver t = false := by simp [nullW]
theorem rdw_int64 : RdW ok (fun _ _ s => (Tr.num (rdInt64 s).1, (rdInt64 s).2)) (.mk 4 fr to (-1) g d o sub) := rdw_leaf (fun t => rde_int64 t) (fun t ver fl => by rw [nullW_never]) rfl (.inr (.inr rfl))
theorem rdw_text : RdW ok (fun _ fl s => if fl = true then (Tr.oct (rdCStr s).1, (rdCStr s).2) else (Tr.oct (rdStr s).1, (rdStr s).2)) (.mk 8 fr to (-1) g d o sub) := rdw_leaf (fun t => rde_text t) (fun t ver fl => by rw [nullW_never]) rfl (.inl rfl)
theorem rdw_ntext : RdW ok (fun _ fl s => if fl = true then (Tr.ofOpt (rdCNStr s).1, (rdCNStr s).2) else (Tr.ofOpt (rdNStr s).1, (rdNStr s).2)) (.mk 8 fr to null g d o sub) := rdw_leaf (fun t => rde_ntext t) (fun t ver fl => rfl) rfl (.inl rfl)
theorem rdw_nbytes : RdW ok (fun _ fl s => if fl = true then (Tr.octs (rdCNBytes s).1.1 (rdCNBytes s).1.2, (rdCNBytes s).2) else (Tr.octs (rdNBytes s).1.1 (rdNBytes s).1.2, (rdNBytes s).2)) (.mk 9 fr to null g d o sub) := rdw_leaf (fun t => rde_nbytes t) (fun t ver fl => rfl) rfl (.inr (.inl rfl))
theorem rdw_bytes : RdW ok (fun _ fl s => if fl = true then (Tr.octs (rdCBytes s).1.1 (rdCBytes s).1.2, (rdCBytes s).2) else (Tr.octs (rdBytes s).1.1 (rdBytes s).1.2, (rdBytes s).2)) (.mk 9 fr to (-1) g d o sub) := rdw_leaf (fun t => rde_bytes t) (fun t ver fl => by rw [nullW_never]) rfl (.inr (.inl rfl))
theorem rdw_when {p : Int -> Bool -> Bool} {f : FD} (h1 : RdW (fun v l => ok v l /\ p v l = true) rd1 f) (h2 : RdW (fun v l => ok v l /\ p v l = false) rd2 f) : RdW ok (fun ver fl s => if p ver fl then rd1 ver fl s else rd2 ver fl s) f := by
 intro ver fl t r ho ht
 cases hp : p ver fl
 ·simpa [hp] using h2 ver fl t r ⟨ho, hp⟩ ht
 ·simpa [hp] using h1 ver fl t r ⟨ho, hp⟩ ht
theorem rdw_stiff {f : FD} (h : RdW ok (fun ver fl s => if fl = true then rd1 ver fl s else rd2 ver fl s) f) (hf : ∀ v l, ok v l -> l = false) : RdW ok rd2 f := by
 intro ver fl t r ho ht
 have e := hf _ _ ho
 subst e
 simpa using h ver false t r ho ht
end
/-- a piece of reading makes a field of what was written; it stays where the version lacks it -/
def Piece (ok : OkV) (gf : FT) (f : FD) (i j : Nat) (z : Tr) : Prop := ∀ ver fl t (v : SV) r, ok ver fl -> TOk t -> v.1[i]? = some z ->
 ∃ x, gf ver fl v ⟨(if (decide (f.tag < 0) && f.has ver) = true then fieldW f ver fl (t.L.getD j .zero) else []) ++ r, false, false⟩ = .ok (v.1.set i x, v.2) ⟨r, false, false⟩ /\
  (if (decide (f.tag < 0) && f.has ver) = true then toldW f ver fl (t.L.getD j .zero) x = true else x = z)
/-- a field that every version has -/
def FD.always (f : FD) (ok : OkV) : Prop := ∀ ver fl, ok ver fl -> (decide (f.tag < 0) && f.has ver) = true
section
variable {ok : OkV} {f : FD} {fs : List FD} {gf gf2 : FT} {i j : Nat} {z : Tr} {zs : List Tr} {rd rdl : Int -> Bool -> RS -> Tr × RS} {p : Int -> Bool -> Bool}
theorem piece_put (h : RdW ok rd f) (ha : f.always ok) : Piece ok (putF i rd) f i j z := by
 intro ver fl t v r ho ht _
 rw [ha ver fl ho]
 obtain ⟨x, h1, h2⟩ := h ver fl _ r ho (ht.at j)
 exact ⟨x, by simp only [putF, if_true, h1], by simpa using h2⟩
/-- a field that some versions have -/
theorem piece_if (h : Piece (fun v l => ok v l /\ p v l = true) gf f i j z) (hp : ∀ ver fl, ok ver fl -> p ver fl = (decide (f.tag < 0) && f.has ver)) : Piece ok (ifF p gf idF) f i j z := by
 intro ver fl t v r ho ht hz
 have e := hp ver fl ho
 cases hv : p ver fl
 ·rw [<- e, hv]
  refine ⟨z, ?_, by simp⟩
  simp only [ifF, hv, idF, Bool.false_eq_true, if_false, List.nil_append]
  rw [set_same hz]
 ·obtain ⟨x, h1, h2⟩ := h ver fl t v r ⟨ho, hv⟩ ht hz
  exact ⟨x, by simp only [ifF, hv, if_true]; exact h1, h2⟩
theorem piece_nop (h : Piece ok gf f i j z) : Piece ok (fun ver fl v s => (idF ver fl v s).then (gf ver fl)) f i j z := h
/-- what is written of an element -/
def elE (of : Int) (sub : List FD) (ver : Int) (fl : Bool) (x : Tr) : List UInt8 := if of = 10 then fieldsW sub 0 ver fl x ++ (if fl then tagsW (unkW x.U) else []) else leafW of false fl x
/-- a chain of pieces makes the fields of a part, in order, and its tags -/
def Chain (ok : OkV) (gf : FT) (fs : List FD) (i j : Nat) (zs : List Tr) : Prop := ∀ ver fl t A r, ok ver fl -> TOk t -> A.length = i ->
 ∃ xs, gf ver fl (A ++ zs, []) ⟨fieldsW fs j ver fl t ++ ((if fl then tagsW (unkW t.U) else []) ++ r), false, false⟩ = .ok (A ++ xs, if fl then cutW (unkW t.U) else []) ⟨r, false, false⟩ /\ toldsW fs j ver fl t xs = true
theorem Zb (h1 : Piece ok gf f i j z) (hu : usualW f z = true) (h2 : Chain ok gf2 fs (i + 1) (j + 1) zs) : Chain ok (fun ver fl v s => (gf ver fl v s).then (gf2 ver fl)) (f :: fs) i j (z :: zs) := by
 intro ver fl t A r ho ht hA
 obtain ⟨x, e1, e2⟩ := h1 ver fl t (A ++ z :: zs, []) (fieldsW fs (j + 1) ver fl t ++ ((if fl then tagsW (unkW t.U) else []) ++ r)) ho ht (by simp [<- hA])
 obtain ⟨xs, e3, e4⟩ := h2 ver fl t (A ++ [x]) r ho ht (by simp [hA])
 refine ⟨x :: xs, ?_, ?_⟩
 ·have es : (A ++ z :: zs).set i x = (A ++ [x]) ++ zs := by simp [<- hA]
  simp only [fieldsW, List.append_assoc]
  rw [e1]
  have e5 : A ++ x :: xs = A ++ [x] ++ xs := by simp
  show gf2 ver fl ((A ++ z :: zs).set i x, []) _ = _
  rw [es, e3, e5]
 ·simp only [toldsW, e4, Bool.and_true]
  split at e2
  ·rename_i hc
   rw [if_pos hc]; exact e2
  ·rename_i hc
   rw [if_neg hc, e2]; exact hu
theorem chain_stiff (hf : ∀ v l, ok v l -> l = false) : Chain ok idF [] i j [] := by
 intro ver fl t A r ho ht hA
 have e := hf _ _ ho
 subst e
 exact ⟨[], by simp [fieldsW, idF], rfl⟩
/-- the last piece is not followed by tags -/
theorem chain_last (h1 : Piece ok gf f i j z) (hu : usualW f z = true) (hf : ∀ v l, ok v l -> l = false) : Chain ok gf [f] i j [z] := by
 have h := Zb h1 hu (chain_stiff (i := i + 1) (j := j + 1) hf)
 intro ver fl t A r ho ht hA
 obtain ⟨xs, e1, e2⟩ := h ver fl t A r ho ht hA
 refine ⟨xs, ?_, e2⟩
 rw [<- e1]
 exact (R.then_ok _).symm
end
end Go.Proofs.YtcldbjehliladaaDoor
