/-
  What is read is never stuck, where tags are known: these are read into a struct that has none yet.
-/
import Derived.Test.YtcldbjehliladaaDoorPNs
import Derived.Test.YtcldbjehliladaaDoorPKr
set_option linter.unusedSimpArgs false
set_option linter.unusedVariables false
namespace Go.Proofs.YtcldbjehliladaaDoor
open Go Go.RowKit
theorem uv_C : UvC Tryd.prog 71 := fun _ _ _ _ h => rd_Uvarint h
theorem sp_C : SpC Tryd.prog 73 := fun _ _ _ l _ h => rd_Span l h
/-- the tags stay as they are -/
def Kt (f : FT) : Prop := ∀ ver fl v s v' s', f ver fl v s = .ok v' s' -> v'.2 = v.2
/-- the last of a struct's code -/
def NtF (f : FT) (A : List Nat) : Prop := ∀ ver fl v s, v.2 = [] -> (∀ i ∈ A, isNul v.1[i]? = true) -> f ver fl v s ≠ .stuck
def NtC (f : FT) : Prop := ∀ ver fl v s, f ver fl v s ≠ .stuck
section
variable {f g : FT} {gk : Int -> FT} {A B C : List Nat} {ef : EF} {i : Nat}
theorem kt_then (hf : Kt f) (hg : Kt g) : Kt (fun ver fl v s => (f ver fl v s).then (g ver fl)) := by
 intro ver fl v s v' s' h
 change (f ver fl v s).then (g ver fl) = .ok v' s' at h
 cases hr : f ver fl v s with
 | ok v1 s1 =>
  rw [hr] at h
  exact (hg _ _ _ _ _ _ h).trans (hf _ _ _ _ _ _ hr)
 | early => rw [hr] at h; cases h
 | stuck => rw [hr] at h; cases h
theorem kt_put {rd : Int -> Bool -> RS -> Tr × RS} : Kt (putF i rd) := by
 intro ver fl v s v' s' h
 simp only [putF, R.ok.injEq] at h
 rw [<- h.1]
theorem kt_id : Kt idF := by
 intro ver fl v s v' s' h
 simp only [idF, R.ok.injEq] at h
 rw [<- h.1]
theorem kt_if {p : Int -> Bool -> Bool} (hf : Kt f) (hg : Kt g) : Kt (ifF p f g) := by
 intro ver fl v s v' s' h
 cases hp : p ver fl
 ·exact hg ver fl v s v' s' (by simpa [ifF, hp] using h)
 ·exact hf ver fl v s v' s' (by simpa [ifF, hp] using h)
theorem kt_sub {d : SV -> SV} : Kt (subF i d f) := by
 intro ver fl v s v' s' h
 unfold subF at h
 cases hr : f ver fl (d ((v.1.getD i .nul).L, (v.1.getD i .nul).U)) s with
 | ok v1 s1 =>
  rw [hr] at h
  simp only [R.then, R.ok.injEq] at h
  rw [<- h.1]
 | early => rw [hr] at h; cases h
 | stuck => rw [hr] at h; cases h
theorem kt_list {rdl : Int -> Bool -> RS -> Tr × RS} {nv : Int -> Int -> Bool} : Kt (listF i rdl nv ef) := by
 intro ver fl v s v' s' h
 unfold listF at h
 split at h
 ·unfold tailR at h
  split at h
  ·cases h
  ·cases hr : elemsR (ef ver fl) ((rdl ver fl s).1.N).toNat (rdl ver fl s).2 with
   | ok ts s2 =>
    rw [hr] at h
    simp only [R.then, R.ok.injEq] at h
    rw [<- h.1]
   | early => rw [hr] at h; cases h
   | stuck => rw [hr] at h; cases h
 ·cases h
theorem ntf_then (hf : Ns f A B) (hk : Kt f) (hg : NtF g B) : NtF (fun ver fl v s => (f ver fl v s).then (g ver fl)) A := by
 intro ver fl v s hv hA
 obtain ⟨h1, h2⟩ := hf ver fl v s hA
 show (f ver fl v s).then (g ver fl) ≠ .stuck
 cases hr : f ver fl v s with
 | ok v1 s1 => exact hg ver fl v1 s1 ((hk _ _ _ _ _ _ hr).trans hv) (h2 v1 s1 hr)
 | early => exact fun h => by cases h
 | stuck => exact (h1 hr).elim
theorem ntf_if {p : Int -> Bool -> Bool} (hf : NtF f A) (hg : NtF g A) : NtF (ifF p f g) A := by
 intro ver fl v s hv hA
 cases hp : p ver fl
 ·have := hg ver fl v s hv hA
  simpa [ifF, hp] using this
 ·have := hf ver fl v s hv hA
  simpa [ifF, hp] using this
theorem ntf_id : NtF idF A := fun ver fl v s _ _ h => by cases h
theorem ntf_lastid (hf : NtF f A) : NtF (fun ver fl v s => (f ver fl v s).then (idF ver fl)) A := by
 intro ver fl v s hv hA
 show (f ver fl v s).then (idF ver fl) ≠ .stuck
 cases hr : f ver fl v s with
 | ok v1 s1 => exact fun e => by cases e
 | early => exact fun e => by cases e
 | stuck => exact (hf ver fl v s hv hA hr).elim
theorem ntf_tag : NtF tagF A := fun ver fl v s _ _ h => by cases h
theorem loop_ns (h : ∀ key, NtC (gk key)) (ver : Int) (fl : Bool) : ∀ n v s, loopF gk ver fl n v s ≠ .stuck
 | 0, v, s => fun e => by cases e
 | n + 1, v, s => by
  show (gk (rdUvarint s).1 ver fl v (rdUvarint s).2).then (loopF gk ver fl n) ≠ .stuck
  cases hr : gk (rdUvarint s).1 ver fl v (rdUvarint s).2 with
  | ok v1 s1 => exact loop_ns h ver fl n v1 s1
  | early => exact fun e => by cases e
  | stuck => exact (h _ ver fl v _ hr).elim
theorem ntf_tags (h : ∀ key, NtC (gk key)) : NtF (tagsF gk) A := by
 intro ver fl v s hv _
 unfold tagsF
 rw [if_pos hv]
 exact loop_ns h ver fl _ _ _
theorem ntc_set : ∀ key, NtC (setF key) := fun key ver fl v s h => by cases h
theorem ntc_sw {n : Int} (h1 : NtC f) (h2 : ∀ key, NtC (gk key)) : ∀ key, NtC (swF n f gk key) := by
 intro key
 unfold swF
 split
 ·exact h1
 ·exact h2 key
theorem ntc_case (hf : Ns f [] B) : NtC (caseF f) := by
 intro ver fl v s
 have h1 := (hf ver fl (v.1, []) ⟨(spanF s).1.1, (spanF s).1.2, false⟩ (fun j hj => by simp at hj)).1
 unfold caseF
 cases hr : f ver fl (v.1, []) ⟨(spanF s).1.1, (spanF s).1.2, false⟩ with
 | ok v1 s1 => exact fun e => by cases e
 | early => exact fun e => by cases e
 | stuck => exact (h1 hr).elim
theorem ns_end : Ns endF A A := by
 intro ver fl v s hA
 unfold endF
 split
 ·exact ⟨fun h => (by cases h), fun v' s' h => (by cases h)⟩
 ·exact ⟨fun h => (by cases h), fun v' s' h j hj => (by simp only [R.ok.injEq] at h; obtain ⟨rfl, _⟩ := h; exact hA j hj)⟩
theorem nse_structK {z1 : SV} (hf : NtF f (nullsOf z1.1)) (hz : z1.2 = []) : NsE (structE f z1) := by
 intro ver fl s
 have h1 := hf ver fl z1 s hz (fun j hj => (List.mem_filter.1 hj).2)
 unfold structE
 cases hr : f ver fl z1 s with
 | ok v1 s1 => simp [R.then, hr]
 | early => simp [R.then, hr]
 | stuck => exact (h1 hr).elim
theorem ns_readK {d : SV -> SV} {v1 : SV} (hf : NtF f A) (h : ∀ ver : Int, (A.all fun i => isNul (d (v1.1.set 0 (.num ver), v1.2)).1[i]?) = true) (hz : ∀ ver : Int, (d (v1.1.set 0 (.num ver), v1.2)).2 = []) : NsI (preF d f) v1 :=
 fun ver fl s => hf ver fl _ s (hz ver) (fun j hj => List.all_eq_true.1 (h ver) j hj)
end
end Go.Proofs.YtcldbjehliladaaDoor
