/-
  The doors: a new message, its version, reading and telling it. No program in it.
  The doors, whole: a new message is read and told. No program in it.
-/
import Derived.Test.YtcldbjehliladaaDoorPTelR
set_option linter.unusedSimpArgs false
set_option linter.unusedVariables false
namespace Go.Proofs.YtcldbjehliladaaDoor
open Go Go.RowKit
/-- an interface type -/
def isIface (P : Program) (t : TypeId) : Bool := match P.underlying t with
 | some (.interface _) => true
 | _ => false
theorem isIface_spec {P : Program} {t : TypeId} (h : isIface P t = true) : ∃ ms, P.underlying t = some (.interface ms) := by
 unfold isIface at h
 cases hu : P.underlying t with
 | none => simp [hu] at h
 | some ds => cases ds <;> simp_all
section
variable {P : Program} {ρ : Operand -> Value} {w : World} {d : Option Tmp} {ty : TypeId} {p : String} {af : Array Edge} {g : Option (Nat × Bool)}
theorem x_neqNil {x : Operand} {t u : TypeId} {v : Value} {b : Bool} (ht : isIface P t = true) (hρ : ∀ v, ρ (.const v) = v) (hx : ρ x = v) (hv : (b = true /\ ∃ tx vx, v = .iface tx vx) \/ (b = false /\ v = .nilIface)) :
  (execOp ρ ⟨d, .binOp .neq t x (.const .nilIface) u, ty, p, af, g⟩).run P w = .ok (.value (.bool b)) w := by
 obtain ⟨ms, hu⟩ := isIface_spec ht
 rcases hv with ⟨rfl, tx, vx, rfl⟩ | ⟨rfl, rfl⟩
 ·have he : (Op.equal t (.iface tx vx) .nilIface).run P w = .ok false w := by
   show (Op.equalIn (9999 + 1) t (.iface tx vx) .nilIface).run P w = _
   rw [Op.equalIn]
   simp only [Sem.run_bind, run_underlying hu, Result.andThen_ok]
   rfl
  simp [execOp, hx, hρ, eqGuard, binOp, he]
 ·have he : (Op.equal t .nilIface .nilIface).run P w = .ok true w := by
   show (Op.equalIn (9999 + 1) t .nilIface .nilIface).run P w = _
   rw [Op.equalIn]
   simp only [Sem.run_bind, run_underlying hu, Result.andThen_ok]
   rfl
  simp [execOp, hx, hρ, eqGuard, binOp, he]
end
end Go.Proofs.YtcldbjehliladaaDoor
set_option linter.unusedSimpArgs false
set_option linter.unusedVariables false
namespace Go.Proofs.YtcldbjehliladaaDoor
open Go Go.RowKit
def intTy (P : Program) (t : TypeId) (k : IntKind) : Bool := match P.underlying t with
 | some (.int k') => k == k'
 | _ => false
theorem intTy_spec {P : Program} {t : TypeId} {k : IntKind} (h : intTy P t k = true) : P.underlying t = some (.int k) := by
 unfold intTy at h
 cases hu : P.underlying t with
 | none => simp [hu] at h
 | some ds => cases ds <;> simp_all
section
variable {P : Program} {ρ : Operand -> Value} {w : World} {d : Option Tmp} {ty : TypeId} {p : String} {af : Array Edge} {g : Option (Nat × Bool)} {ops : Array Oper} {rest : List Oper} {a : Act} {Q : Exit -> Act -> World -> Prop}
theorem x_convInt {x : Operand} {s t : TypeId} {k k' : IntKind} {n : Int} (h1 : intTy P s k = true) (h2 : intTy P t k' = true) (hx : ρ x = .int k n) : (execOp ρ ⟨d, .convert s t x, ty, p, af, g⟩).run P w = .ok (.value (.int k' (k'.wrap n))) w := by
 simp [execOp, hx, convert, run_underlying (intTy_spec h1), run_underlying (intTy_spec h2), Conv.intToInt]
/-- a slice value that holds these octets -/
def Srcs (w : World) (v : Value) (bs : List UInt8) : Prop := (bs = [] /\ ∃ ao cap, v = .slice ao 0 cap) \/ ∃ sb off cap c tc fr, v = .slice (some ⟨sb, off, none⟩) bs.length cap /\ w.heap[sb]? = some (.cells c tc fr) /\ ∀ i (h : i < bs.length), c[off + i]? = some (.int .u8 (bs[i]).toNat)
theorem Srcs.mod {w w' : World} {v : Value} {bs : List UInt8} (h : Srcs w v bs) (hm : Mod none' w w') : Srcs w' v bs := by
 rcases h with h | ⟨sb, off, cap, c, tc, fr, h1, h2, h3⟩
 ·exact .inl h
 ·exact .inr ⟨sb, off, cap, c, tc, fr, h1, hm.some h2 (fun f => f), h3⟩
theorem Srcs.shape {w : World} {v : Value} {bs : List UInt8} (h : Srcs w v bs) : ∃ ao cap, v = .slice ao bs.length cap := by
 rcases h with ⟨rfl, ao, cap, h⟩ | ⟨sb, off, cap, c, tc, fr, h1, h2, h3⟩
 ·exact ⟨ao, cap, h⟩
 ·exact ⟨_, _, h1⟩
theorem wpl_copy {s x : Operand} {t e : Nat} {srcv : Value} {bs : List UInt8} (hI : elemInfo P t e 1 = true) (hs : a.eval s = .slice none 0 0) (hx : a.eval x = srcv) (hsrc : Srcs w srcv bs) (hl : bs.length <= 4294967295)
  (hk : ∀ v' w', Mod none' w w' -> (bs = [] /\ v' = .slice none 0 0 \/ ∃ g, w.heap.size <= g /\ g < w'.heap.size /\ Src w' v' g bs false /\ bs.isEmpty = false) -> wpList P ops Q rest (a.put d v') w') :
  wpList P ops Q (⟨d, .call ⟨.builtin .append, #[s, x], #[t, t]⟩, ty, p, af, none⟩ :: rest) a w := by
 by_cases hb : bs = []
 ·subst hb
  obtain ⟨ao, c, rfl⟩ := hsrc.shape
  obtain ⟨hu, i, z, hi, hz, h2, h3, h4, h5, h6⟩ := elemInfo_spec hI
  refine Zv rfl (v := .slice none 0 0) (w' := w) ?_ (hk _ w (.refl w) (.inl ⟨rfl, rfl⟩))
  cases ao <;> simp [execOp, resolve, invoke, builtin, hs, hx, Builtin.append_, run_underlying hu, sizeOf, typeInfo, hi, Builtin.lenOf, Builtin.firstCells, loadCells, loadCellsFrom]
 ·obtain ⟨sb, off, cap, c, tc, fr, hv, hh, hc⟩ := hsrc.resolve_left (fun h => hb h.1)
  refine wpl_append (e := e) (sz := 1) (base := w.heap.size) (v := .slice none 0 0) (n := 0) (xs := []) (ad := ⟨sb, off, none⟩) (m := bs.length) (c := cap) (news := bs.map fun x => Value.int .u8 x.toNat) hI hs (hx.trans hv) (World.ownsRow_nil _ _ _ _) (by simp) (fun j u hu => by
   rw [Addr.add_mid, Zc hh]
   simp only [List.getElem?_map, Option.map_eq_some_iff] at hu
   obtain ⟨q, hq, rfl⟩ := hu
   obtain ⟨hj, rfl⟩ := List.getElem?_eq_some_iff.1 hq
   exact hc j hj) (fun u hu => by obtain ⟨q, _, rfl⟩ := List.mem_map.1 hu; rfl) (by omega) (Nat.le_refl _) ?_
  intro v' w' ho hm hn _
  refine hk v' w' (hm.mono fun i _ h => by simp [Value.ownBlock] at h) (.inr ?_)
  rcases ho.2 with ⟨h1, h2⟩ | ⟨g, cap', cur, h1, h2, h3, h4, h5, h6, h7⟩
  ·exact (hb (List.eq_nil_of_length_eq_zero (by omega))).elim
  ·refine ⟨g, h2, lt_of_block h3, ?_, by cases bs; exact (hb rfl).elim; rfl⟩
   rw [Nat.zero_add] at h1 h4 h7
   refine .inr ⟨rfl, 0, cap', cur, e, (0, 0), h1, h4, h5, h3, fun i hi => ?_⟩
   have : (cur.toList.take (bs.length * 1))[i]? = (bs.map fun x => Value.int .u8 x.toNat)[i]? := by rw [h7]; simp
   rw [List.getElem?_take, if_pos (by omega), Array.getElem?_toList] at this
   rw [Nat.zero_add, this]
   simp [hi]
end
theorem results_cellN_tmp {fn : Func} {p q : Tmp} {ty : TypeId} (h : fn.results = #[.cell p ty, .tmp q]) {P : Program} {tmps : Array Value} {w : World} {b o : Nat} {cs : List Value} {v : Value} (hp : tmps.getD p undef = .pointer (some ⟨b, o, none⟩))
  (hq : tmps.getD q undef = v) (h1 : Go.Proofs.YtcldbjehliladaaDoor.many P ty cs.length = true) (hc : w.rangeAt b o cs) : (results fn tmps).run P w = .ok (.tuple #[.agg cs.toArray, v]) w := by
 obtain ⟨ds, hu, hd, hi⟩ := many_spec h1
 have hp' : tmps[p]?.getD undef = .pointer (some ⟨b, o, none⟩) := by simpa using hp
 have hq' : tmps[q]?.getD undef = v := by simpa using hq
 have := run_loadVar_mid (P := P) w b o ty cs ds hc hu hd hi
 simp [results, h, hp', hq', asAddr, this]
end Go.Proofs.YtcldbjehliladaaDoor
