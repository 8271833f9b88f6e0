/-
  The reader of package spec: whether fields are told as they are by default.
-/
import Derived.Lib.Hide
import Derived.Test.YtcldbjehliladaaDoorPWp
import Derived.Test.YtcldbjehliladaaDoorPWn
set_option linter.unusedSimpArgs false
set_option linter.unusedVariables false
namespace Go.Proofs.YtcldbjehliladaaDoor
open Go Go.RowKit
/-- a tree's cells, written out -/
theorem TreeI.lit {w : World} {cs : Array Value} {t : Tr} (hcs : cs.size = 5) (h : TreeI w (from' cs 0) t) : ∃ a1 c1 a3 c3 a4 c4, cs = #[.int .i64 t.N, .slice a1 t.S.length c1, .bool t.Z, .slice a3 t.L.length c3, .slice a4 t.U.length c4] /\ fits .i64 t.N /\ OctI w (.slice a1 t.S.length c1) t.S /\
  TreeI w (from' #[.int .i64 t.N, .slice a1 t.S.length c1, .bool t.Z, .slice a3 t.L.length c3, .slice a4 t.U.length c4] 0) t := by
 have h' := h
 have e5 := arr5 hcs
 cases h with
 | @mk _ n s z l u f g h0 hn h1 h2 h3 h3' h4 h4' =>
 obtain ⟨a1, c1, e1, _⟩ := h1.slice
 obtain ⟨a3, c3, e3⟩ := h3.slice
 obtain ⟨a4, c4, e4⟩ := h4.slice
 rw [h0, h2, e1, e3, e4] at e5
 rw [e5] at h'
 exact ⟨a1, c1, a3, c3, a4, c4, e5, hn, e1 ▸ h1, h'⟩
theorem OctS.mod {w w' : World} {v : Value} {s : List UInt8} (h : OctS w v s) (hm : Mod none' w w') : OctS w' v s := by
 obtain ⟨ao, cap, h1, h2, h3⟩ := h
 refine ⟨ao, cap, h1, h2, fun hp => ?_⟩
 obtain ⟨sb, off, c, t, fr, q1, q2, q3⟩ := h3 hp
 exact ⟨sb, off, c, t, fr, q1, hm.some q2 (fun f => f), q3⟩
mutual
/-- the defaults are numbers of the program -/
def FD.dok : FD -> Bool
 | .mk _ _ _ _ _ dflt _ sub => decide (-9223372036854775808 <= dflt) && decide (dflt <= 9223372036854775807) && dokL sub
def dokL : List FD -> Bool
 | [] => true
 | f :: r => f.dok && dokL r
end
end Go.Proofs.YtcldbjehliladaaDoor
