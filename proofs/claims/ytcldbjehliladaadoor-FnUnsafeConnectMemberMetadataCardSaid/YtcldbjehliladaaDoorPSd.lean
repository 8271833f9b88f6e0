/-
  impl.sorted leaves tags that stand by rising numbers as they are.
-/
import Derived.Maps.RangeRun
import Derived.Shelf.GgSortFunc.Whole
import Derived.Shelf.GgSortFunc.Tiny
import Derived.Lib.SortBridge
import Derived.Sort.LotA
import Derived.WalkKit
import Derived.Deep.QuietTactic
import Derived.Deep.MidRow
import Derived.Test.YtcldbjehliladaaDoorChecked
import Derived.Lib.RowBridge
import Derived.Test.YtcldbjehliladaaDoorPTelS
import Derived.Test.YtcldbjehliladaaDoorPTh
set_option linter.unusedSimpArgs false
set_option linter.unusedVariables false
namespace Go.Proofs.YtcldbjehliladaaDoor
open Go Go.RowKit
section
variable {P : Program} {Q : Exit -> Act -> World -> Prop}
def VStep2 (P : Program) (dl : List Nat) (vl : List Value) (Q : Exit -> Act -> World -> Prop) (a0 : Act) (w : World) (i : Nat) (o : Oper) : Prop :=
 ∀ a w', Mod none' w w' -> SameBut (fun t => t ∈ dl) a0 a -> (∀ e ∈ o.after, Region.binds .any e = true -> Act.get a (dl.getD e.on 0) = vl.getD e.on undef) ->
  (GuardIs dl a o.guard true /\ o.wp P a w' (fun a' w'' => a' = a.put (some (dl.getD i 0)) (vl.getD i undef) /\ Mod none' w' w'') Q) \/ (GuardIs dl a o.guard false /\ undef = vl.getD i undef)
def VList2 (P : Program) (dl : List Nat) (vl : List Value) (Q : Exit -> Act -> World -> Prop) (a0 : Act) (w : World) : Nat -> List Oper -> Prop
 | _, [] => True
 | i, o :: os => VStep2 P dl vl Q a0 w i o /\ VList2 P dl vl Q a0 w (i + 1) os
theorem VList2.toG {dl : List Nat} {vl : List Value} {a0 : Act} {w : World} (hl : vl.length = dl.length) : ∀ (l : List Oper) (k : Nat), k + l.length <= dl.length -> (∀ o ∈ l, ∀ e ∈ o.after, Region.binds .any e = true -> e.on < dl.length) -> VList2 P dl vl Q a0 w k l ->
  RGListG P (Mod none') (vl.map fun v => fun (x : Value) (_ : World) => x = v) dl Q a0 w k l
 | [], _, _, _, _ => trivial
 | o :: l, k, hk, he, h => by
  refine ⟨fun a w' hr hs hd => ?_, VList2.toG hl l (k + 1) (by simp at hk; omega) (fun o ho => he o (List.mem_cons_of_mem _ ho)) h.2⟩
  rcases h.1 a w' hr hs fun e hm hb => (vl_get _ _ _ w').1 (hd e hm hb) (by rw [hl]; exact he o (List.mem_cons_self ..) e hm hb) with ⟨hg, hw⟩ | ⟨hg, hv⟩
  ·refine .inl ⟨hg, Oper.wp_mono ?_ hw⟩
   rintro a' w'' ⟨h1, h2⟩
   exact ⟨_, h1, h2, (vl_get _ _ _ _).2 fun _ => rfl⟩
  ·exact .inr ⟨hg, (vl_get _ _ _ _).2 fun _ => hv⟩
theorem region_vals2 {id : Nat} {l tl : List Oper} {a0 : Act} {w : World} (hm : P.follows .mixedOrders = true) (dl : List Nat) (vl : List Value) (hl : vl.length = dl.length) (hform : regFormG l dl = true) (hnd : dl.Nodup) (hb : ∀ d ∈ dl, d < a0.tmps.size) (htl0 : 0 < tl.length)
  (hchk : (Region.sinkB .any (l ++ tl).toArray l.length && Region.chainB .any (l ++ tl).toArray l.length && Region.seqB .any (l ++ tl).toArray tl.length l.length (headDone l.length tl.length) && regEdges l 0) = true)
  (steps : VList2 P dl vl Q a0 w 0 l)
  (htail : ∀ a w', Mod none' w w' -> SameBut (fun t => t ∈ dl) a0 a -> (∀ i, i < l.length -> Act.get a (dl.getD i 0) = vl.getD i undef) -> wpList P (l ++ tl).toArray Q tl a w') :
  (Code.region id (l ++ tl).toArray true).wp P Q a0 w := by
 have hlen : l.length = dl.length := by
  simp only [regFormG, beq_iff_eq] at hform
  have := congrArg List.length hform; simpa using this
 have hedge : ∀ o ∈ l, ∀ e ∈ o.after, Region.binds .any e = true -> e.on < dl.length := by
  intro o ho e he hbi
  simp only [Bool.and_eq_true] at hchk
  obtain ⟨i, hi, rfl⟩ := List.getElem_of_mem ho
  have := regEdges_spec l 0 hchk.2 i _ (List.getElem?_eq_getElem hi) e he hbi
  omega
 refine region_rlg hm (Mod none') (Mod.refl w).drew (fun a => .refl a) (fun _ _ _ h h' => h.trans h') dl _ ?_ hform hnd hb htl0 hchk (VList2.toG hl l 0 (by omega) hedge steps) ?_
 ·intro g hg v w1 w2 h1 _
  obtain ⟨u, _, rfl⟩ := List.mem_map.1 hg
  exact h1
 ·intro a w' hr hs hh
  exact htail a w' hr hs fun i hi => (vl_get _ _ _ w').1 (hh i hi) (by omega)
theorem Zt {o : Oper} {dl : List Nat} {a : Act} {v : Value} {w' : World} {t : Nat} {R : Prop} (hg : GuardIs dl a o.guard true) (ho : o.dst = some t) (h : (execOp a.eval o).run P w' = .ok (.value v) w') :
  (GuardIs dl a o.guard true /\ o.wp P a w' (fun a' w'' => a' = a.put (some t) v /\ Mod none' w' w'') Q) \/ R := .inl (vstep_val hg ho h)
end
end Go.Proofs.YtcldbjehliladaaDoor
