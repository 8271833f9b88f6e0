/-
  Rules for the code that tells a message's fields. No program in it.
-/
import Derived.Test.YtmehfgiadapekaaGreatPAppB
set_option linter.unusedSimpArgs false
set_option linter.unusedVariables false
namespace Go.Proofs.YtmehfgiadapekaaGreat
open Go Go.RowKit
theorem strBytes_spec {P : Program} {src dst e : Nat} (h : strBytes P src dst e = true) : P.underlying src = some .string /\ P.underlying dst = some (.slice e) /\ P.underlying e = some (.int .u8) := by
 unfold strBytes at h
 revert h
 cases P.underlying src with
 | none => simp
 | some a => cases a <;> (try simp) <;> (cases P.underlying dst with
  | none => simp
  | some b => cases b <;> (try simp) <;> (cases P.underlying e with
   | none => simp
   | some c => cases c <;> (try simp) <;> (rename_i k; cases k <;> simp_all)))
section
variable {P : Program} {σ : St} {N n TI TL id j : Nat} {g : SV -> Tr} {g' : SV -> List Tr} {d0 d1 : Nat} {y0 y1 y2 y3 y4 y5 : TypeId} {p0 p1 p2 p3 p4 p5 : String} {e0 e1 e2 e3 e4 e5 : Array Edge}
theorem results_cellN {fn : Func} {p : Tmp} {ty : TypeId} (h : fn.results = #[.cell p ty]) {P : Program} {tmps : Array Value} {w : World} {b o : Nat} {cs : List Value} (hp : tmps.getD p undef = .pointer (some ⟨b, o, none⟩))
  (h1 : Go.Proofs.YtmehfgiadapekaaGreat.many P ty cs.length = true) (hc : w.rangeAt b o cs) : (results fn tmps).run P w = .ok (.agg cs.toArray) w := by
 obtain ⟨ds, hu, hd, hi⟩ := many_spec h1
 have hp' : tmps[p]?.getD undef = .pointer (some ⟨b, o, none⟩) := by simpa using hp
 have := run_loadVar_mid (P := P) w b o ty cs ds hc hu hd hi
 simp [results, h, hp', asAddr, this]
end
end Go.Proofs.YtmehfgiadapekaaGreat
