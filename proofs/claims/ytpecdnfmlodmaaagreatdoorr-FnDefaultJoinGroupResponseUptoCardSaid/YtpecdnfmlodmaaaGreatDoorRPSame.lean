/-
  Octets that are the same; trees that are the same.
  Trees that are the same.
-/
import Derived.Test.YtpecdnfmlodmaaaGreatDoorRPGot
set_option linter.unusedSimpArgs false
set_option linter.unusedVariables false
namespace Go.Proofs.YtpecdnfmlodmaaaGreatDoorR
open Go Go.RowKit
theorem oct_slice {w : World} {F : Nat -> Prop} {v : Value} {s : List UInt8} {nil : Bool} (h : Oct w F v s nil) : ∃ ao cap, v = .slice ao s.length cap /\ s.length <= maxLen /\
  (0 < s.length -> ∃ sb off c t fr, ao = some ⟨sb, off, none⟩ /\ w.heap[sb]? = some (.cells c t fr) /\ ∀ i (h : i < s.length), c[off + i]? = some (.int .u8 (s[i]).toNat)) := by
 rcases h with ⟨sb, _, h⟩ | ⟨rfl, ao, cap, h, _⟩
 ·rcases h with ⟨_, h, hs⟩ | ⟨_, off, cap, c, t, fr, h, h1, h2, h3, h4⟩
  ·subst hs
   exact ⟨none, 0, h, by simp, fun h => by simp at h⟩
  ·exact ⟨_, cap, h, by omega, fun _ => ⟨sb, off, c, t, fr, rfl, h3, h4⟩⟩
 ·exact ⟨ao, cap, h, by simp, fun h => by simp at h⟩
/-- octets that can be read -/
def OctS (w : World) (v : Value) (s : List UInt8) : Prop := ∃ ao cap, v = .slice ao s.length cap /\ s.length <= maxLen /\
  (0 < s.length -> ∃ sb off c t fr, ao = some ⟨sb, off, none⟩ /\ w.heap[sb]? = some (.cells c t fr) /\ ∀ i (h : i < s.length), c[off + i]? = some (.int .u8 (s[i]).toNat))
end Go.Proofs.YtpecdnfmlodmaaaGreatDoorR
set_option linter.unusedSimpArgs false
set_option linter.unusedVariables false
