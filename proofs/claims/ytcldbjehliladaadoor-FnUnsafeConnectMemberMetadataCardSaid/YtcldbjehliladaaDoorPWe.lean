/-
  The reader of package spec: whether a part is told as it was written.
-/
import Derived.Test.YtcldbjehliladaaDoorPWq
set_option linter.unusedSimpArgs false
set_option linter.unusedVariables false
namespace Go.Proofs.YtcldbjehliladaaDoor
open Go Go.RowKit
mutual
/-- only texts, octets, parts and lists may be null -/
def FD.nok : FD -> Bool
 | .mk kind _ _ null _ _ _ sub => (decide (kind = 8) || decide (kind = 9) || decide (kind = 10) || decide (kind = 11) || decide (null = -1)) && nokL sub
def nokL : List FD -> Bool
 | [] => true
 | f :: r => f.nok && nokL r
end
/-- fields that are written and told as they should -/
def goodL (fs : List FD) : Bool := plainL fs && dokL fs && nokL fs
theorem part_all {fs : List FD} (hg : goodL fs = true) {w : World} {v : Value} {ct : Array Value} {ver : Int} {flex : Bool} {t : Tr} (hf : FdsI w v fs) (hct : ct.size = 5) (ht : TreeI w (from' ct 0) t) (hlen : (partW fs ver flex t).length <= 4294967295) :
  BytesC Tryd.prog 41 #[v, .int .i64 ver, .bool flex, .agg ct] w (partW fs ver flex t) := by
 simp only [goodL, Bool.and_eq_true] at hg
 exact part_ok (fields_ok fs hg.1.1) hf hct ht hlen
end Go.Proofs.YtcldbjehliladaaDoor
