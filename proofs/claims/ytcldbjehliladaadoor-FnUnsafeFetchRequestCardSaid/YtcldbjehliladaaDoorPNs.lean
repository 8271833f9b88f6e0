/-
  What is read is never stuck: each list is read into a field that is still null. No program in it.
-/
import Derived.Test.YtcldbjehliladaaDoorPRu
set_option linter.unusedSimpArgs false
set_option linter.unusedVariables false
namespace Go.Proofs.YtcldbjehliladaaDoor
open Go Go.RowKit
def Ns (f : FT) (A B : List Nat) : Prop := ∀ ver fl v s, (∀ i ∈ A, isNul v.1[i]? = true) -> f ver fl v s ≠ .stuck /\ ∀ v' s', f ver fl v s = .ok v' s' -> ∀ i ∈ B, isNul v'.1[i]? = true
/-- a message that refers to nothing yet: reading it is not stuck -/
def NsI (ft : FT) (v1 : SV) : Prop := ∀ ver fl s, ft ver fl (v1.1.set 0 (.num ver), v1.2) s ≠ .stuck
def NsE (ef : EF) : Prop := ∀ ver fl s, ef ver fl s ≠ .stuck
theorem isNul_set {l : List Tr} {i j : Nat} {t : Tr} (h : i ≠ j) (hj : isNul l[j]? = true) : isNul (l.set i t)[j]? = true := by rw [List.getElem?_set_ne h]; exact hj
/-- the fields that are null -/
def nullsOf (l : List Tr) : List Nat := (List.range l.length).filter fun i => isNul l[i]?
section
variable {f g : FT} {A B C : List Nat} {ef : EF} {i : Nat}
theorem ns_then (hf : Ns f A B) (hg : Ns g B C) : Ns (fun ver fl v s => (f ver fl v s).then (g ver fl)) A C := by
 intro ver fl v s hA
 obtain ⟨h1, h2⟩ := hf ver fl v s hA
 show (f ver fl v s).then (g ver fl) ≠ .stuck /\ ∀ v' s', (f ver fl v s).then (g ver fl) = .ok v' s' -> ∀ i ∈ C, isNul v'.1[i]? = true
 cases hr : f ver fl v s with
 | ok v1 s1 =>
  obtain ⟨h3, h4⟩ := hg ver fl v1 s1 (h2 v1 s1 hr)
  exact ⟨h3, h4⟩
 | early => exact ⟨fun h => (by cases h), fun v' s' h => (by cases h)⟩
 | stuck => exact (h1 hr).elim
theorem mem_but {A : List Nat} {i j : Nat} (h : j ∈ A.filter (· != i)) : j ∈ A /\ i ≠ j := by
 obtain ⟨h1, h2⟩ := List.mem_filter.1 h
 exact ⟨h1, fun e => by subst e; simp at h2⟩
theorem ns_put {rd : Int -> Bool -> RS -> Tr × RS} : Ns (putF i rd) A (A.filter (· != i)) := by
 intro ver fl v s hA
 refine ⟨fun h => (by cases h), fun v' s' he j hj => ?_⟩
 simp only [putF, R.ok.injEq] at he
 obtain ⟨rfl, _⟩ := he
 exact isNul_set (mem_but hj).2 (hA j (mem_but hj).1)
theorem ns_id : Ns idF A A := fun ver fl v s hA => ⟨fun h => (by cases h), fun v' s' h j hj => (by simp only [idF, R.ok.injEq] at h; obtain ⟨rfl, _⟩ := h; exact hA j hj)⟩
theorem ns_skip (h : (B.all A.contains) = true) : Ns idF A B := by
 intro ver fl v s hA
 refine ⟨fun h => (by cases h), fun v' s' he j hj => ?_⟩
 simp only [idF, R.ok.injEq] at he
 obtain ⟨rfl, _⟩ := he
 exact hA j (by simpa using List.all_eq_true.1 h j hj)
theorem ns_if {p : Int -> Bool -> Bool} (hf : Ns f A B) (hg : Ns g A B) : Ns (ifF p f g) A B := by
 intro ver fl v s hA
 cases hp : p ver fl
 ·have := hg ver fl v s hA
  simpa [ifF, hp] using this
 ·have := hf ver fl v s hA
  simpa [ifF, hp] using this
theorem ns_tag : Ns tagF A A := fun ver fl v s hA => ⟨fun h => (by cases h), fun v' s' h j hj => (by simp only [tagF, R.ok.injEq] at h; obtain ⟨rfl, _⟩ := h; exact hA j hj)⟩
theorem ns_sub {d : SV -> SV} (hf : Ns f [] C) : Ns (subF i d f) A (A.filter (· != i)) := by
 intro ver fl v s hA
 unfold subF
 have h1 := (hf ver fl (d ((v.1.getD i .nul).L, (v.1.getD i .nul).U)) s (fun j hj => by simp at hj)).1
 cases hr : f ver fl (d ((v.1.getD i .nul).L, (v.1.getD i .nul).U)) s with
 | ok v1 s1 =>
  refine ⟨fun h => (by cases h), fun v' s' he j hj => ?_⟩
  simp only [R.then, R.ok.injEq] at he
  obtain ⟨rfl, _⟩ := he
  exact isNul_set (mem_but hj).2 (hA j (mem_but hj).1)
 | early => exact ⟨fun h => (by cases h), fun v' s' h => (by cases h)⟩
 | stuck => exact (h1 hr).elim
theorem ns_psub {rp : Int -> Bool -> RS -> Tr × RS} {z1 : SV} (hf : Ns f (nullsOf z1.1) C) : Ns (psubF i rp z1 f) A (A.filter (· != i)) := by
 intro ver fl v s hA
 unfold psubF
 split
 ·have h1 := (hf ver fl z1 (rp ver fl s).2 (fun j hj => (List.mem_filter.1 hj).2)).1
  cases hr : f ver fl z1 (rp ver fl s).2 with
  | ok v1 s1 =>
   refine ⟨fun h => (by cases h), fun v' s' he j hj => ?_⟩
   simp only [R.then, R.ok.injEq] at he
   obtain ⟨rfl, _⟩ := he
   exact isNul_set (mem_but hj).2 (hA j (mem_but hj).1)
  | early => exact ⟨fun h => (by cases h), fun v' s' h => (by cases h)⟩
  | stuck => exact (h1 hr).elim
 ·refine ⟨fun h => (by cases h), fun v' s' he j hj => ?_⟩
  simp only [R.ok.injEq] at he
  obtain ⟨rfl, _⟩ := he
  exact hA j (mem_but hj).1
theorem elemsR_ns {ef : RS -> R Tr} (h : ∀ s, ef s ≠ .stuck) : ∀ n s, elemsR ef n s ≠ .stuck
 | 0, s => fun h => by cases h
 | n + 1, s => by
  unfold elemsR
  cases hr : ef s with
  | ok t s1 =>
   have := elemsR_ns h n s1
   simp only [R.then]
   cases hr2 : elemsR ef n s1 with
   | ok ts s2 => simp
   | early => simp
   | stuck => exact (this hr2).elim
  | early => simp [R.then]
  | stuck => exact (h s hr).elim
theorem ns_list {rdl : Int -> Bool -> RS -> Tr × RS} {nv : Int -> Int -> Bool} (he : NsE ef) (h : A.contains i = true) : Ns (listF i rdl nv ef) A (A.filter (· != i)) := by
 intro ver fl v s hA
 have h0 := hA i (by simpa using h)
 unfold listF
 rw [if_pos h0]
 unfold tailR
 split
 ·exact ⟨fun h => (by cases h), fun v' s' h => (by cases h)⟩
 ·have h1 := elemsR_ns (he ver fl) ((rdl ver fl s).1.N).toNat (rdl ver fl s).2
  cases hr : elemsR (ef ver fl) ((rdl ver fl s).1.N).toNat (rdl ver fl s).2 with
  | ok ts s2 =>
   refine ⟨fun h => (by cases h), fun v' s' he j hj => ?_⟩
   simp only [R.then, R.ok.injEq] at he
   obtain ⟨rfl, _⟩ := he
   exact isNul_set (mem_but hj).2 (hA j (mem_but hj).1)
  | early => exact ⟨fun h => (by cases h), fun v' s' h => (by cases h)⟩
  | stuck => exact (h1 hr).elim
theorem nse_ok {a : Int -> Bool -> RS -> Tr} {b : Int -> Bool -> RS -> RS} : NsE (fun ver fl s => .ok (a ver fl s) (b ver fl s)) := fun ver fl s h => by cases h
end
end Go.Proofs.YtcldbjehliladaaDoor
