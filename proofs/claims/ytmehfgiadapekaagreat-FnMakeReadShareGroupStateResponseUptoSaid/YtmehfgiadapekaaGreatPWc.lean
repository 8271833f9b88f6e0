/-
  What is read of what the protocol wrote is told as it was written: values, lists, parts, whole messages. No program in it.
-/
import Derived.Test.YtmehfgiadapekaaGreatPWb
set_option linter.unusedSimpArgs false
set_option linter.unusedVariables false
namespace Go.Proofs.YtmehfgiadapekaaGreat
open Go Go.RowKit
/-- the numbers of a tree are numbers of the program, the keys of its tags too -/
inductive TOk : Tr -> Prop where
 | mk {n : Int} {s : List UInt8} {z : Bool} {l : List Tr} {u : Tags} (hn : -9223372036854775808 <= n /\ n <= 9223372036854775807) (hl : ∀ x ∈ l, TOk x) (hu : ∀ p ∈ u, 0 <= p.1 /\ p.1 < 4294967296) : TOk (.mk n s z l u)
theorem TOk.zero : TOk .zero := .mk ⟨by decide, by decide⟩ (fun x h => by simp at h) (fun x h => by simp at h)
theorem TOk.num {t : Tr} (h : TOk t) : -9223372036854775808 <= t.N /\ t.N <= 9223372036854775807 := by cases h with | mk hn hl hu => exact hn
theorem TOk.list {t : Tr} (h : TOk t) : ∀ x ∈ t.L, TOk x := by cases h with | mk hn hl hu => exact hl
theorem TOk.tags {t : Tr} (h : TOk t) : ∀ p ∈ t.U, 0 <= p.1 /\ p.1 < 4294967296 := by cases h with | mk hn hl hu => exact hu
theorem TOk.at {t : Tr} (h : TOk t) (j : Nat) : TOk (t.L.getD j .zero) := by
 by_cases hj : j < t.L.length
 ·rw [List.getD_eq_getElem?_getD, List.getElem?_eq_getElem hj]; exact h.list _ (List.getElem_mem hj)
 ·rw [List.getD_eq_getElem?_getD, List.getElem?_eq_none (by omega)]; exact .zero
theorem Tr.Z_list (l : List Tr) (b : Bool) : (Tr.list l b).Z = b := rfl
theorem Tr.L_list (l : List Tr) (b : Bool) : (Tr.list l b).L = l := rfl
theorem Tr.L_nul : Tr.nul.L = [] := rfl
theorem leaf_ne {k : Int} (h : leafK k = true) : ¬ k = 11 /\ ¬ k = 10 := ⟨fun e => by subst e; simp [leafK] at h, fun e => by subst e; simp [leafK] at h⟩
theorem fieldW_lf {k fr to null g d o : Int} {sub : List FD} {ver : Int} {fl : Bool} {t : Tr} (hk : leafK k = true) : fieldW (.mk k fr to null g d o sub) ver fl t = leafW k (nullW null ver t) fl t := by
 obtain ⟨h1, h2⟩ := leaf_ne hk
 simp only [fieldW]; rw [if_neg h1, if_neg h2]
abbrev OkV := Int -> Bool -> Prop
section
variable {ok : OkV} {fr to null g d o : Int} {sub : List FD} {rd rd1 rd2 rdl : Int -> Bool -> RS -> Tr × RS}
theorem nullW_never {ver : Int} {t : Tr} : nullW (-1) ver t = false := by simp [nullW]
end
section
variable {ok : OkV} {f : FD} {fs : List FD} {gf gf2 : FT} {i j : Nat} {z : Tr} {zs : List Tr} {rd rdl : Int -> Bool -> RS -> Tr × RS} {p : Int -> Bool -> Bool}
/-- what is written of an element -/
def elE (of : Int) (sub : List FD) (ver : Int) (fl : Bool) (x : Tr) : List UInt8 := if of = 10 then fieldsW sub 0 ver fl x ++ (if fl then tagsW (unkW x.U) else []) else leafW of false fl x
end
end Go.Proofs.YtmehfgiadapekaaGreat
