/-
  What single operations do, for a program that is a variable. No program in it.
-/
import Derived.Deep.MidRow
import Derived.Laws.AppendOwn
import Derived.Test.YtcldbjehliladaaDoorPReg
set_option linter.unusedSimpArgs false
set_option linter.unusedVariables false
namespace Go.Proofs.YtcldbjehliladaaDoor
open Go Go.RowKit
section
variable {P : Program} {ops : Array Oper} {rest : List Oper} {Q : Exit -> Act -> World -> Prop} {K : Act -> World -> Prop} {a : Act} {w : World} {ρ : Operand -> Value}
 {d : Option Tmp} {ty : TypeId} {p : String} {af : Array Edge} {g : Option (Nat × Bool)}
theorem Zw {o : Oper} {v : Value} {w' : World} (h : (execOp a.eval o).run P w = .ok (.value v) w') (hk : K (a.put o.dst v) w') : o.wp P a w K Q := by
 unfold Oper.wp; rw [h]; exact hk
theorem owp_skip {o : Oper} {w' : World} (h : (execOp a.eval o).run P w = .ok .skip w') (hk : K (a.put o.dst undef) w') : o.wp P a w K Q := by
 unfold Oper.wp; rw [h]; exact hk
theorem owp_call {o : Oper} {f : FuncId} {args : Array Value} {w' : World} {R : Ending -> World -> Prop} (h : (execOp a.eval o).run P w = .ok (.enter f args) w') (hc : Calls P f args w' R)
  (hk : ∀ e w'', R e w'' -> ∃ v, e = .returned v /\ K (a.put o.dst v) w'') : o.wp P a w K Q := by
 unfold Oper.wp; rw [h]
 refine hc.mono fun e w'' hr => ?_
 obtain ⟨v, rfl, hk'⟩ := hk e w'' hr
 exact hk'
theorem Zv {o : Oper} {v : Value} {w' : World} (hg : o.guard = none) (h : (execOp a.eval o).run P w = .ok (.value v) w') (hk : wpList P ops Q rest (a.put o.dst v) w') : wpList P ops Q (o :: rest) a w :=
 wpList_plain hg fun _ hK => Zw h (hK _ _ hk)
theorem wpl_skip {o : Oper} {w' : World} (hg : o.guard = none) (h : (execOp a.eval o).run P w = .ok .skip w') (hk : wpList P ops Q rest (a.put o.dst undef) w') : wpList P ops Q (o :: rest) a w :=
 wpList_plain hg fun _ hK => owp_skip h (hK _ _ hk)
theorem wpl_call {o : Oper} {f : FuncId} {args : Array Value} {w' : World} {R : Ending -> World -> Prop} (hg : o.guard = none) (h : (execOp a.eval o).run P w = .ok (.enter f args) w') (hc : Calls P f args w' R)
  (hk : ∀ e w'', R e w'' -> ∃ v, e = .returned v /\ wpList P ops Q rest (a.put o.dst v) w'') : wpList P ops Q (o :: rest) a w :=
 wpList_plain hg fun _ hK => owp_call h hc fun e w'' hr => let ⟨v, h1, h2⟩ := hk e w'' hr; ⟨v, h1, hK _ _ h2⟩
theorem wpl_abs (p : Act -> Prop) (hp : p a) (h : ∀ a', p a' -> wpList P ops Q rest a' w) : wpList P ops Q rest a w := h a hp
theorem Ze (t : Nat) : a.eval (.tmp t) = Act.get a t := rfl
theorem Zm {x : Operand} : (execOp ρ ⟨d, .move x, ty, p, af, g⟩).run P w = .ok (.value (ρ x)) w := rfl
theorem Zi {x : Operand} : (execOp ρ ⟨d, .assign x, ty, p, af, g⟩).run P w = .ok (.value (ρ x)) w := rfl
theorem x_nilCheck {x : Operand} {q : Addr} (h : ρ x = .pointer (some q)) : (execOp ρ ⟨d, .nilCheck x, ty, p, af, g⟩).run P w = .ok (.value (.pointer (some q))) w := by
 simp [execOp, h]
/-- may be called: it has a body -/
def bodied (P : Program) (f : FuncId) : Bool := match P.funcs[f]? with
 | some fn => fn.body.isSome && !(fn.name == "runtime.NumGoroutine")
 | none => false
theorem callFunc_run {f : FuncId} {args : Array Value} (hf : bodied P f = true) : (callFunc f args).run P w = .ok (.enter f args) w := by
 unfold bodied at hf
 cases hp : P.funcs[f]? with
 | none => simp [hp] at hf
 | some fn =>
  simp only [hp, Bool.and_eq_true, Bool.not_eq_true'] at hf
  obtain ⟨h1, h2⟩ := hf
  have h3 : fn.body.isNone = false := by cases hb : fn.body <;> simp_all
  simp only [callFunc, Sem.run_bind, run_program, Result.andThen_ok, hp, h2, h3, Bool.false_eq_true, if_false]
  rfl
theorem Zy {f : FuncId} {xs : Array Operand} {ts : Array TypeId} (hf : bodied P f = true) (hρ : ρ (.func f) = .func (.func f) #[] #[]) :
  (execOp ρ ⟨d, .call ⟨.value (.func f), xs, ts⟩, ty, p, af, g⟩).run P w = .ok (.enter f (xs.map ρ)) w := by
 simp only [execOp, resolve, Deferred.ofValue, hρ, Sem.run_bind, Sem.run_pure, Result.andThen_ok, invoke, Array.append_empty, Array.empty_append]
 exact callFunc_run hf
/-- where a struct's field lies -/
def fieldOff (P : Program) (T k : Nat) : Option Nat := match P.underlying T with
 | some (.struct fs) => match fs[k]? with
  | some f => match P.info? f.type with
   | some i => if i.size = 0 then none else some f.offset
   | none => none
  | none => none
 | _ => none
theorem Za {x : Operand} {T k o b o0 : Nat} (hf : fieldOff P T k = some o) (hx : ρ x = .pointer (some ⟨b, o0, none⟩)) :
  (execOp ρ ⟨d, .fieldAddr T x k, ty, p, af, g⟩).run P w = .ok (.value (.pointer (some ⟨b, o0 + o, none⟩))) w := by
 unfold fieldOff at hf
 cases hu : P.underlying T with
 | none => simp [hu] at hf
 | some ds =>
  cases ds with
  | struct fs =>
   cases hk : fs[k]? with
   | none => simp [hu, hk] at hf
   | some f =>
    cases hi : P.info? f.type with
    | none => simp [hu, hk, hi] at hf
    | some i =>
     simp only [hu, hk, hi] at hf
     split at hf
     ·cases hf
     ·rename_i h0
      obtain rfl : f.offset = o := by simpa using hf
      simp [execOp, Instr.fieldAt, run_underlying hu, hk, hx, Instr.sureAddr, fieldPlace, sizeOf, typeInfo, hi, h0, Addr.add_mid]
  | _ => simp [hu] at hf
/-- a type of one cell -/
def one (P : Program) (t : TypeId) : Bool := match P.underlying t with
 | some (.struct _) => false
 | some (.array _ _) => false
 | some _ => true
 | none => false
theorem isAgg_one {t : TypeId} (h : one P t = true) : (isAgg t).run P w = .ok false w := by
 unfold one at h
 cases hu : P.underlying t with
 | none => simp [hu] at h
 | some ds =>
  unfold isAgg
  rw [Sem.run_bind, run_underlying hu w]
  cases ds <;> simp_all
theorem Zl {x : Operand} {t b o : Nat} {v : Value} (h1 : one P t = true) (hx : ρ x = .pointer (some ⟨b, o, none⟩)) (hc : w.cell? ⟨b, o, none⟩ = some v) :
  (execOp ρ ⟨d, .load t x, ty, p, af, g⟩).run P w = .ok (.value v) w := by
 simp [execOp, hx, Instr.loadAt, Instr.sureAddr, loadVar, isAgg_one h1, hc]
/-- a struct or an array of so many cells -/
def many (P : Program) (t n : Nat) : Bool := match P.underlying t, P.info? t with
 | some (.struct _), some i => i.size == n
 | some (.array _ _), some i => i.size == n
 | _, _ => false
theorem many_spec {t n : Nat} (h : many P t n = true) : ∃ ds, P.underlying t = some ds /\ ds.isRow = true /\ (P.info? t).map (·.size) = some n := by
 unfold many at h
 cases hu : P.underlying t with
 | none => simp [hu] at h
 | some ds =>
  cases hi : P.info? t with
  | none => cases ds <;> simp [hu, hi] at h
  | some i => cases ds <;> simp_all
theorem x_loadN {x : Operand} {t b o : Nat} {cs : List Value} (h1 : many P t cs.length = true) (hx : ρ x = .pointer (some ⟨b, o, none⟩)) (hc : w.rangeAt b o cs) :
  (execOp ρ ⟨d, .load t x, ty, p, af, g⟩).run P w = .ok (.value (.agg cs.toArray)) w := by
 obtain ⟨ds, hu, hd, hi⟩ := many_spec h1
 have := run_loadAt_mid (P := P) w b o t cs ds hc hu hd hi
 simp [execOp, hx, this]
/-- the size of a type's cells -/
def sized (P : Program) (t n : Nat) : Bool := match P.info? t with
 | some i => i.size == n
 | none => false
theorem sizeOf_run {t n : Nat} (h : sized P t n = true) : (sizeOf t).run P w = .ok n w := by
 unfold sized at h
 cases hi : P.info? t with
 | none => simp [hi] at h
 | some i => simp [hi] at h; simp [sizeOf, typeInfo, hi, h]
theorem x_store1 {x y : Operand} {t b o : Nat} {v u : Value} (h1 : sized P t 1 = true) (hx : ρ x = .pointer (some ⟨b, o, none⟩)) (hy : ρ y = v) (hv : v.oneCell' = true) (hc : w.cell? ⟨b, o, none⟩ = some u)
  (hf : w.frozen? ⟨b, o, none⟩ = false) : (execOp ρ ⟨d, .store t x y, ty, p, af, g⟩).run P w = .ok .skip (w.setCell ⟨b, o, none⟩ v) := by
 have hcells : v.cells = #[v] := by cases v <;> first | rfl | (simp [Value.oneCell'] at hv)
 have hst := run_store P w ⟨b, o, none⟩ v .plain hv
 rw [hc] at hst
 simp only [hf, Bool.false_eq_true, if_false] at hst
 simp [execOp, hx, hy, Instr.storeAt, Instr.sureAddr, storeVar, sizeOf_run h1, hcells, storeCells, Addr.add, hst]
theorem x_storeN {x y : Operand} {t b o : Nat} {cs : Array Value} (h1 : sized P t cs.size = true) (hx : ρ x = .pointer (some ⟨b, o, none⟩)) (hy : ρ y = .agg cs) (hv : cs.all (·.oneCell') = true)
  (ht : w.there b o cs.size) : (execOp ρ ⟨d, .store t x y, ty, p, af, g⟩).run P w = .ok .skip (w.setCells b o cs.toList) := by
 have hi : (P.info? t).map (·.size) = some cs.size := by
  unfold sized at h1
  cases hi : P.info? t with
  | none => simp [hi] at h1
  | some i => simp [hi] at h1; simp [h1]
 have := run_storeAt_mid (P := P) w b o t cs ht hi hv
 simp [execOp, hx, hy, this]
/-- a slice's element: its cells -/
def elemSize (P : Program) (t : TypeId) : Option Nat := match P.underlying t with
 | some (.slice e) => (P.info? e).map (·.size)
 | _ => none
theorem Zx {x y : Operand} {t b o n cap i sz : Nat} {k : IntKind} (h1 : elemSize P t = some sz) (hx : ρ x = .slice (some ⟨b, o, none⟩) n cap) (hy : ρ y = .int k (i : Int)) (hi : i < n) :
  (execOp ρ ⟨d, .indexAddr t x y, ty, p, af, g⟩).run P w = .ok (.value (.pointer (some ⟨b, o + i * sz, none⟩))) w := by
 unfold elemSize at h1
 cases hu : P.underlying t with
 | none => simp [hu] at h1
 | some ds =>
  cases ds with
  | slice e =>
   simp only [hu] at h1
   cases hq : P.info? e with
   | none => simp [hq] at h1
   | some q =>
    simp [hq] at h1
    simp [execOp, hx, hy, Instr.indexAt, asIntOf, run_underlying hu, hi, sizeOf, typeInfo, hq, h1, Addr.add_mid]
  | _ => simp [hu] at h1
/-- what a type is when nothing was put in -/
def zeroOf (P : Program) (t : TypeId) : Option Value := (P.info? t).bind (·.zero)
theorem zeroValue_run {t : TypeId} {z : Value} (h : zeroOf P t = some z) : (zeroValue t).run P w = .ok z w := by
 unfold zeroOf at h
 cases hi : P.info? t with
 | none => simp [hi] at h
 | some i => simp [hi] at h; simp [zeroValue, typeInfo, hi, h]
theorem x_alloc {t : TypeId} {z : Value} (h : zeroOf P t = some z) : (execOp ρ ⟨d, .alloc t, ty, p, af, g⟩).run P w = .ok (.value (.pointer (some ⟨w.heap.size, 0, none⟩))) (w.alloc (.cells z.cells t)) := by
 simp [execOp, Instr.alloc, zeroValue_run h, newVar, newRow]
theorem x_box {t : TypeId} {x : Operand} : (execOp ρ ⟨d, .box t x, ty, p, af, g⟩).run P w = .ok (.value (.pointer (some ⟨w.heap.size, 0, none⟩))) (w.alloc (.cells (ρ x).cells t)) := by
 simp [execOp, Instr.box, newVar, newRow]
/-- a struct type's places, and what it is at first -/
def structParts (P : Program) (t : TypeId) : Option (List (Nat × Nat) × Value) := match P.info? t, P.underlying t with
 | some it, some (.struct fields) => match it.zero, fields.toList.mapM (fun f => (P.info? f.type).map fun i => (f.offset, i.size)) with
  | some z, some places => some (places, z)
  | _, _ => none
 | _, _ => none
theorem built_of {t : TypeId} {places : List (Nat × Nat)} {z : Value} (h : structParts P t = some (places, z)) (parts : List (Nat × Value)) : P.built t parts = Instr.fill (places.toArray[·]?) z.cells parts := by
 unfold structParts at h
 unfold Program.built
 cases hi : P.info? t with
 | none => simp [hi] at h
 | some it =>
  cases hu : P.underlying t with
  | none => simp [hi, hu] at h
  | some ds =>
   cases ds with
   | struct fields =>
    simp only [hi, hu] at h ⊢
    cases hz : it.zero with
    | none => simp [hz] at h
    | some z0 =>
     cases hm : fields.toList.mapM (fun f => (P.info? f.type).map fun i => (f.offset, i.size)) with
     | none => simp [hz, hm] at h
     | some pl =>
      simp only [hz, hm, Option.some.injEq, Prod.mk.injEq] at h ⊢
      obtain ⟨rfl, rfl⟩ := h
      rfl
   | _ => simp [hi, hu] at h
theorem x_len {x : Operand} {t n cap : Nat} {ao : Option Addr} {ts : Array TypeId} (h : (elemSize P t).isSome = true) (hts : ts[0]? = some t) (hx : ρ x = .slice ao n cap) :
  (execOp ρ ⟨d, .call ⟨.builtin .len, #[x], ts⟩, ty, p, af, g⟩).run P w = .ok (.value (.int .i64 n)) w := by
 unfold elemSize at h
 cases hu : P.underlying t with
 | none => simp [hu] at h
 | some ds =>
  cases ds with
  | slice e => simp [execOp, resolve, invoke, builtin, hx, Builtin.len_, hts, run_underlying hu, goInt]
  | _ => simp [hu] at h
theorem x_geq {x y : Operand} {t u : TypeId} {k : IntKind} {m n : Int} (hx : ρ x = .int k m) (hy : ρ y = .int k n) : (execOp ρ ⟨d, .binOp .geq t x y u, ty, p, af, g⟩).run P w = .ok (.value (.bool (decide (n <= m)))) w := by
 simp [execOp, hx, hy, eqGuard, binOp, Op.intCmp]
theorem x_leq {x y : Operand} {t u : TypeId} {k : IntKind} {m n : Int} (hx : ρ x = .int k m) (hy : ρ y = .int k n) : (execOp ρ ⟨d, .binOp .leq t x y u, ty, p, af, g⟩).run P w = .ok (.value (.bool (decide (m <= n)))) w := by
 simp [execOp, hx, hy, eqGuard, binOp, Op.intCmp]
theorem x_gtr {x y : Operand} {t u : TypeId} {k : IntKind} {m n : Int} (hx : ρ x = .int k m) (hy : ρ y = .int k n) : (execOp ρ ⟨d, .binOp .gtr t x y u, ty, p, af, g⟩).run P w = .ok (.value (.bool (decide (n < m)))) w := by
 simp [execOp, hx, hy, eqGuard, binOp, Op.intCmp]
theorem x_lss {x y : Operand} {t u : TypeId} {k : IntKind} {m n : Int} (hx : ρ x = .int k m) (hy : ρ y = .int k n) : (execOp ρ ⟨d, .binOp .lss t x y u, ty, p, af, g⟩).run P w = .ok (.value (.bool (decide (m < n)))) w := by
 simp [execOp, hx, hy, eqGuard, binOp, Op.intCmp]
end
end Go.Proofs.YtcldbjehliladaaDoor
