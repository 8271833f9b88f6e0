/-
  Comparisons, choices; regions that draw their order and whose operations yield known values. No program in it.
-/
import Derived.Test.YtcldbjehliladaaDoorPApp
import Derived.Test.YtcldbjehliladaaDoorPRegG
set_option linter.unusedSimpArgs false
set_option linter.unusedVariables false
namespace Go.Proofs.YtcldbjehliladaaDoor
open Go Go.RowKit
section
variable {P : Program} {ρ : Operand -> Value} {w : World} {d : Option Tmp} {ty : TypeId} {p : String} {af : Array Edge} {g : Option (Nat × Bool)}
theorem x_neqI {x y : Operand} {t u : TypeId} {k : IntKind} {m n : Int} (hx : ρ x = .int k m) (hy : ρ y = .int k n) : (execOp ρ ⟨d, .binOp .neq t x y u, ty, p, af, g⟩).run P w = .ok (.value (.bool (m != n))) w := by
 simp [execOp, hx, hy, eqGuard, binOp, Op.intCmp]
theorem x_eqlI {x y : Operand} {t u : TypeId} {k : IntKind} {m n : Int} (hx : ρ x = .int k m) (hy : ρ y = .int k n) : (execOp ρ ⟨d, .binOp .eql t x y u, ty, p, af, g⟩).run P w = .ok (.value (.bool (m == n))) w := by
 simp [execOp, hx, hy, eqGuard, binOp, Op.intCmp]
def isBool (P : Program) (t : TypeId) : Bool := match P.underlying t with
 | some .bool => true
 | _ => false
theorem isBool_spec {t : TypeId} (h : isBool P t = true) : P.underlying t = some .bool := by
 unfold isBool at h
 cases hu : P.underlying t with
 | none => simp [hu] at h
 | some ds => cases ds <;> simp_all
theorem equal_bool {t : TypeId} {b c : Bool} (h : isBool P t = true) : (Op.equal t (.bool b) (.bool c)).run P w = .ok (b == c) w := by
 show (Op.equalIn (9999 + 1) t (.bool b) (.bool c)).run P w = _
 rw [Op.equalIn]
 simp only [Sem.run_bind, run_underlying (isBool_spec h), Result.andThen_ok]
 rfl
theorem x_neqB {x y : Operand} {t u : TypeId} {b c : Bool} (ht : isBool P t = true) (hx : ρ x = .bool b) (hy : ρ y = .bool c) : (execOp ρ ⟨d, .binOp .neq t x y u, ty, p, af, g⟩).run P w = .ok (.value (.bool (b != c))) w := by
 simp [execOp, hx, hy, eqGuard, binOp, equal_bool ht]
 cases b <;> cases c <;> rfl
theorem x_eqlB {x y : Operand} {t u : TypeId} {b c : Bool} (ht : isBool P t = true) (hx : ρ x = .bool b) (hy : ρ y = .bool c) : (execOp ρ ⟨d, .binOp .eql t x y u, ty, p, af, g⟩).run P w = .ok (.value (.bool (b == c))) w := by
 simp [execOp, hx, hy, eqGuard, binOp, equal_bool ht]
theorem x_not {x : Operand} {t : TypeId} {b : Bool} (hx : ρ x = .bool b) : (execOp ρ ⟨d, .unOp .not t x, ty, p, af, g⟩).run P w = .ok (.value (.bool (!b))) w := by
 simp [execOp, hx, Op.unary]
theorem x_pick {x y z : Operand} {b : Bool} (hx : ρ x = .bool b) : (execOp ρ ⟨d, .pick x y z, ty, p, af, g⟩).run P w = .ok (.value (if b then ρ y else ρ z)) w := by
 simp [execOp, hx, asBool]
theorem x_neqIs {x y : Operand} {t u : TypeId} {k : IntKind} {m : Int} (hx : ρ x = .int k m) (hy : ρ y = .int k m) : (execOp ρ ⟨d, .binOp .neq t x y u, ty, p, af, g⟩).run P w = .ok (.value (.bool false)) w := (x_neqI hx hy).trans (by simp)
theorem x_neqBs {x y : Operand} {t u : TypeId} {b : Bool} (ht : isBool P t = true) (hx : ρ x = .bool b) (hy : ρ y = .bool b) : (execOp ρ ⟨d, .binOp .neq t x y u, ty, p, af, g⟩).run P w = .ok (.value (.bool false)) w := (x_neqB ht hx hy).trans (by simp)
theorem x_moveV {x : Operand} {v : Value} (h : ρ x = v) : (execOp ρ ⟨d, .move x, ty, p, af, g⟩).run P w = .ok (.value v) w := h ▸ Zm
theorem x_pickF {x y z : Operand} {v : Value} (hx : ρ x = .bool false) (hz : ρ z = v) : (execOp ρ ⟨d, .pick x y z, ty, p, af, g⟩).run P w = .ok (.value v) w := (x_pick hx).trans (by simp [hz])
theorem x_pickT {x y z : Operand} {v : Value} (hx : ρ x = .bool true) (hz : ρ y = v) : (execOp ρ ⟨d, .pick x y z, ty, p, af, g⟩).run P w = .ok (.value v) w := (x_pick hx).trans (by simp [hz])
theorem x_notV {x : Operand} {t : TypeId} {b c : Bool} (hx : ρ x = .bool b) (hc : (!b) = c) : (execOp ρ ⟨d, .unOp .not t x, ty, p, af, g⟩).run P w = .ok (.value (.bool c)) w := hc ▸ x_not hx
theorem x_extract {x : Operand} {vs : Array Value} {i : Nat} {v : Value} (hx : ρ x = .tuple vs) (hi : vs[i]? = some v) : (execOp ρ ⟨d, .extract x i, ty, p, af, g⟩).run P w = .ok (.value v) w := by
 simp [execOp, hx, Instr.extract, hi]
end
section
variable {P : Program} {Q : Exit -> Act -> World -> Prop}
def VStep (P : Program) (dl : List Nat) (vl : List Value) (Q : Exit -> Act -> World -> Prop) (a0 : Act) (w : World) (i : Nat) (o : Oper) : Prop :=
 ∀ a w', Mod none' w w' -> SameBut (fun t => t ∈ dl) a0 a -> (∀ e ∈ o.after, Region.binds .any e = true -> Act.get a (dl.getD e.on 0) = vl.getD e.on undef) ->
  GuardIs dl a o.guard true /\ o.wp P a w' (fun a' w'' => a' = a.put (some (dl.getD i 0)) (vl.getD i undef) /\ Mod none' w' w'') Q
def VList (P : Program) (dl : List Nat) (vl : List Value) (Q : Exit -> Act -> World -> Prop) (a0 : Act) (w : World) : Nat -> List Oper -> Prop
 | _, [] => True
 | i, o :: os => VStep P dl vl Q a0 w i o /\ VList P dl vl Q a0 w (i + 1) os
theorem vl_get (vl : List Value) (i : Nat) (x : Value) (w : World) : ((vl.map fun v => fun (x : Value) (_ : World) => x = v).getD i (fun _ _ => True)) x w ↔ (i < vl.length -> x = vl.getD i undef) := by
 by_cases h : i < vl.length
 ·simp [List.getD, List.getElem?_eq_getElem, h]
 ·simp [List.getD, List.getElem?_eq_none (Nat.le_of_not_lt h), h]
theorem VList.toG {dl : List Nat} {vl : List Value} {a0 : Act} {w : World} (hl : vl.length = dl.length) : ∀ (l : List Oper) (k : Nat), k + l.length <= dl.length -> (∀ o ∈ l, ∀ e ∈ o.after, Region.binds .any e = true -> e.on < dl.length) -> VList P dl vl Q a0 w k l ->
  RGListG P (Mod none') (vl.map fun v => fun (x : Value) (_ : World) => x = v) dl Q a0 w k l
 | [], _, _, _, _ => trivial
 | o :: l, k, hk, he, h => by
  refine ⟨fun a w' hr hs hd => ?_, VList.toG hl l (k + 1) (by simp at hk; omega) (fun o ho => he o (List.mem_cons_of_mem _ ho)) h.2⟩
  obtain ⟨hg, hw⟩ := h.1 a w' hr hs fun e hm hb => (vl_get _ _ _ w').1 (hd e hm hb) (by rw [hl]; exact he o (List.mem_cons_self ..) e hm hb)
  refine .inl ⟨hg, Oper.wp_mono ?_ hw⟩
  rintro a' w'' ⟨h1, h2⟩
  exact ⟨_, h1, h2, (vl_get _ _ _ _).2 fun _ => rfl⟩
theorem region_vals {id : Nat} {l tl : List Oper} {a0 : Act} {w : World} (hm : P.follows .mixedOrders = true) (dl : List Nat) (vl : List Value) (hl : vl.length = dl.length) (hform : regFormG l dl = true) (hnd : dl.Nodup) (hb : ∀ d ∈ dl, d < a0.tmps.size) (htl0 : 0 < tl.length)
  (hchk : (Region.sinkB .any (l ++ tl).toArray l.length && Region.chainB .any (l ++ tl).toArray l.length && Region.seqB .any (l ++ tl).toArray tl.length l.length (headDone l.length tl.length) && regEdges l 0) = true)
  (steps : VList P dl vl Q a0 w 0 l)
  (htail : ∀ a w', Mod none' w w' -> SameBut (fun t => t ∈ dl) a0 a -> (∀ i, i < l.length -> Act.get a (dl.getD i 0) = vl.getD i undef) -> wpList P (l ++ tl).toArray Q tl a w') :
  (Code.region id (l ++ tl).toArray true).wp P Q a0 w := by
 have hlen : l.length = dl.length := by
  simp only [regFormG, beq_iff_eq] at hform
  have := congrArg List.length hform; simpa using this
 have hedge : ∀ o ∈ l, ∀ e ∈ o.after, Region.binds .any e = true -> e.on < dl.length := by
  intro o ho e he hbi
  simp only [Bool.and_eq_true] at hchk
  obtain ⟨i, hi, rfl⟩ := List.getElem_of_mem ho
  have := regEdges_spec l 0 hchk.2 i _ (List.getElem?_eq_getElem hi) e he hbi
  omega
 refine region_rlg hm (Mod none') (Mod.refl w).drew (fun a => .refl a) (fun _ _ _ h h' => h.trans h') dl _ ?_ hform hnd hb htl0 hchk (VList.toG hl l 0 (by omega) hedge steps) ?_
 ·intro g hg v w1 w2 h1 _
  obtain ⟨u, _, rfl⟩ := List.mem_map.1 hg
  exact h1
 ·intro a w' hr hs hh
  exact htail a w' hr hs fun i hi => (vl_get _ _ _ w').1 (hh i hi) (by omega)
theorem wp_act {c : Code} {a : Act} {w : World} (p : Act -> Prop) (hp : p a) (h : ∀ a', p a' -> c.wp P Q a' w) : c.wp P Q a w := h a hp
/-- an operation whose result is known -/
theorem vstep_val {o : Oper} {dl : List Nat} {a : Act} {v : Value} {w' : World} {t : Nat} (hg : GuardIs dl a o.guard true) (ho : o.dst = some t) (h : (execOp a.eval o).run P w' = .ok (.value v) w') :
  GuardIs dl a o.guard true /\ o.wp P a w' (fun a' w'' => a' = a.put (some t) v /\ Mod none' w' w'') Q := by
 refine ⟨hg, Zw h ?_⟩
 rw [ho]
 exact ⟨rfl, .refl _⟩
end
end Go.Proofs.YtcldbjehliladaaDoor
