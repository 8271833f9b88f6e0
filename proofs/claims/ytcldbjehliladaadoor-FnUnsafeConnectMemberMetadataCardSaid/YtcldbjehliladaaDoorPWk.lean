/-
  What a message's telling keeps: what is told as it was written stays so. No program in it.
-/
import Derived.Test.YtcldbjehliladaaDoorPWc
import Derived.Test.YtcldbjehliladaaDoorPTelO
set_option linter.unusedSimpArgs false
set_option linter.unusedVariables false
namespace Go.Proofs.YtcldbjehliladaaDoor
open Go Go.RowKit
/-- of a field -/
def PresF (f : FD) (E : Tr -> Tr) : Prop := (∀ ver fl t x, toldW f ver fl t x = true -> toldW f ver fl t (E x) = true) /\ (∀ x, usualW f x = true -> usualW f (E x) = true)
/-- of the fields of a part, from a place on -/
def PresG (fs : List FD) (G : SV -> List Tr) (i : Nat) : Prop := ∀ v, (∀ j ver fl t, toldsW fs j ver fl t (v.1.drop i) = true -> toldsW fs j ver fl t (G v) = true) /\ (usualsW fs (v.1.drop i) = true -> usualsW fs (G v) = true)
section
variable {f : FD} {fs sub : List FD} {E : Tr -> Tr} {G g' : SV -> List Tr} {i : Nat} {fr to null g d o : Int}
theorem pres_nil : PresG [] (fun _ => []) i := fun v => ⟨fun _ _ _ _ _ => rfl, fun _ => rfl⟩
theorem drop_cons {l : List Tr} {i : Nat} {x : Tr} {xs : List Tr} (h : l.drop i = x :: xs) : l.getD i .nul = x /\ l.drop (i + 1) = xs := by
 have hi : i < l.length := by
  apply Classical.byContradiction
  intro hn
  rw [List.drop_of_length_le (by omega)] at h; cases h
 rw [List.drop_eq_getElem_cons hi] at h
 injection h with h1 h2
 exact ⟨by rw [List.getD_eq_getElem?_getD, List.getElem?_eq_getElem hi]; exact h1, h2⟩
theorem pres_cons (h : PresF f E) (h2 : PresG fs g' (i + 1)) : PresG (f :: fs) (fun v => E (v.1.getD i Tr.nul) :: g' v) i := by
 intro v
 refine ⟨fun j ver fl t hh => ?_, fun hh => ?_⟩
 ·cases hd : v.1.drop i with
  | nil => rw [hd] at hh; simp [toldsW] at hh
  | cons x xs =>
   obtain ⟨e1, e2⟩ := drop_cons hd
   rw [hd] at hh
   simp only [toldsW, Bool.and_eq_true] at hh ⊢
   rw [e1]
   refine ⟨?_, (h2 v).1 (j + 1) ver fl t (by rw [e2]; exact hh.2)⟩
   have h3 := hh.1
   split at h3
   ·rename_i hc
    rw [if_pos hc]; exact h.1 _ _ _ _ h3
   ·rename_i hc
    rw [if_neg hc]; exact h.2 _ h3
 ·cases hd : v.1.drop i with
  | nil => rw [hd] at hh; simp [usualsW] at hh
  | cons x xs =>
   obtain ⟨e1, e2⟩ := drop_cons hd
   rw [hd] at hh
   simp only [usualsW, Bool.and_eq_true] at hh ⊢
   rw [e1]
   exact ⟨h.2 _ hh.1, (h2 v).2 (by rw [e2]; exact hh.2)⟩
theorem presF_id : PresF f (fun x => x) := ⟨fun _ _ _ _ h => h, fun _ h => h⟩
theorem pres_leaf (h2 : PresG fs g' (i + 1)) : PresG (f :: fs) (fun v => v.1.getD i Tr.nul :: g' v) i := pres_cons (E := fun x => x) presF_id h2
end
theorem FD.hasW_iff {f : FD} {ver : Int} : (decide (f.tag < 0) && f.has ver) = true ↔ f.tag < 0 /\ f.from_ <= ver /\ (f.to < 0 \/ ver <= f.to) := by simp [FD.has]
section
variable {ok : OkV} {p : Int -> Bool -> Bool} {k fr to nl g d o : Int} {sub : List FD}
theorem FD.alw (hg : g < 0) (h : ∀ v l, ok v l -> fr <= v /\ (to < 0 \/ v <= to)) : FD.always (.mk k fr to nl g d o sub) ok := fun v l hh => FD.hasW_iff.2 ⟨hg, h v l hh⟩
theorem has_if (hg : g < 0) (h : ∀ v l, ok v l -> (p v l = true ↔ (fr <= v /\ (to < 0 \/ v <= to)))) : ∀ ver fl, ok ver fl -> p ver fl = (decide ((FD.mk k fr to nl g d o sub).tag < 0) && (FD.mk k fr to nl g d o sub).has ver) :=
 fun v l hh => Bool.eq_iff_iff.2 ((h v l hh).trans ⟨fun q => FD.hasW_iff.2 ⟨hg, q⟩, fun q => (FD.hasW_iff.1 q).2⟩)
end
end Go.Proofs.YtcldbjehliladaaDoor
