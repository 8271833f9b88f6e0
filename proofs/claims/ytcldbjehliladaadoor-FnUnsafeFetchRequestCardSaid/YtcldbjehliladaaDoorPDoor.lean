/-
  The doors: a new message, its version, reading and telling it. No program in it.
  The doors, whole: a new message is read and told. No program in it.
-/
import Derived.Test.YtcldbjehliladaaDoorPTelR
set_option linter.unusedSimpArgs false
set_option linter.unusedVariables false
namespace Go.Proofs.YtcldbjehliladaaDoor
open Go Go.RowKit
/-- an interface type -/
def isIface (P : Program) (t : TypeId) : Bool := match P.underlying t with
 | some (.interface _) => true
 | _ => false
theorem isIface_spec {P : Program} {t : TypeId} (h : isIface P t = true) : ∃ ms, P.underlying t = some (.interface ms) := by
 unfold isIface at h
 cases hu : P.underlying t with
 | none => simp [hu] at h
 | some ds => cases ds <;> simp_all
section
variable {P : Program} {ρ : Operand -> Value} {w : World} {d : Option Tmp} {ty : TypeId} {p : String} {af : Array Edge} {g : Option (Nat × Bool)}
theorem x_neqNil {x : Operand} {t u : TypeId} {v : Value} {b : Bool} (ht : isIface P t = true) (hρ : ∀ v, ρ (.const v) = v) (hx : ρ x = v) (hv : (b = true /\ ∃ tx vx, v = .iface tx vx) \/ (b = false /\ v = .nilIface)) :
  (execOp ρ ⟨d, .binOp .neq t x (.const .nilIface) u, ty, p, af, g⟩).run P w = .ok (.value (.bool b)) w := by
 obtain ⟨ms, hu⟩ := isIface_spec ht
 rcases hv with ⟨rfl, tx, vx, rfl⟩ | ⟨rfl, rfl⟩
 ·have he : (Op.equal t (.iface tx vx) .nilIface).run P w = .ok false w := by
   show (Op.equalIn (9999 + 1) t (.iface tx vx) .nilIface).run P w = _
   rw [Op.equalIn]
   simp only [Sem.run_bind, run_underlying hu, Result.andThen_ok]
   rfl
  simp [execOp, hx, hρ, eqGuard, binOp, he]
 ·have he : (Op.equal t .nilIface .nilIface).run P w = .ok true w := by
   show (Op.equalIn (9999 + 1) t .nilIface .nilIface).run P w = _
   rw [Op.equalIn]
   simp only [Sem.run_bind, run_underlying hu, Result.andThen_ok]
   rfl
  simp [execOp, hx, hρ, eqGuard, binOp, he]
end
/-- a new message: what it is at first -/
def NewC (P : Program) (f : FuncId) (σ : St) (v : SV) : Prop := ∀ w, Calls P f #[] w fun e w' => e = .returned (.pointer (some ⟨w.heap.size, 0, none⟩)) /\ Mod none' w w' /\ w.heap.size < w'.heap.size /\ Cur σ none' w.heap.size 0 v w'
/-- its version is set -/
def SetC (P : Program) (f : FuncId) (σ : St) : Prop := ∀ blk v ver w, fits .i16 ver -> Cur σ none' blk 0 v w -> Calls P f #[.pointer (some ⟨blk, 0, none⟩), .int .i16 ver] w fun e w' => ∃ r, e = .returned r /\ Mod (only blk) w w' /\ Cur σ none' blk 0 (v.1.set 0 (.num ver), v.2) w'
/-- it is read -/
def RFC (P : Program) (f : FuncId) (σ : St) (flexible : Int -> Bool) (ft : FT) : Prop :=
 ∀ vb v ver srcv sb bs nil ev w, ErrIs w ev -> vb ≠ gErr -> vb ≠ sb -> sb < w.heap.size -> Cur σ none' vb 0 v w -> v.1[0]? = some (.num ver) -> Src w srcv sb bs nil -> ft ver (flexible ver) v ⟨bs, nil, false⟩ ≠ .stuck ->
  Calls P f #[.pointer (some ⟨vb, 0, none⟩), srcv] w fun e w' => ∃ r, e = .returned r /\ Mod (only vb) w w' /\ match ft ver (flexible ver) v ⟨bs, nil, false⟩ with
   | .ok v' s' => r = endErr ev s'.bad /\ Cur σ (fun k => k = sb \/ w.heap.size <= k) vb 0 v' w'
   | .early => r = ev
   | .stuck => False
section
variable {P : Program} {σ : St} {fn : Func} {f fd fr : FuncId} {T i0 i1 i2 i3 : Nat} {ts : Array TypeId}
 {y0 y1 y2 y3 y4 y5 y6 : TypeId} {p0 p1 p2 p3 p4 p5 p6 : String} {e0 e1 e2 e3 e4 e5 e6 : Array Edge}
theorem new_rule {d : SV -> SV} {v0 : SV} {z : Value} (hf : P.funcs[f]? = some fn) (hN : fn.ntmps = 3) (hres : fn.results = #[.tmp 0])
  (hbody : fn.body = some (.seq (.region i0 #[⟨some 0, .assign (.const (.pointer none)), y0, p0, e0, none⟩] false) (.seq (.region i1 #[⟨some 1, .alloc T, y1, p1, e1, none⟩] false)
   (.seq (.region i2 #[⟨some 2, .call ⟨.value (.func fd), #[.tmp 1], ts⟩, y2, p2, e2, none⟩] false) (.seq (.region i3 #[⟨some 0, .assign (.tmp 1), y3, p3, e3, none⟩] false) .ret)))))
  (hz : zeroOf P T = some z) (hzs : σ.sz <= z.cells.size) (h0 : ∀ w, RepL w none' σ.lay (from' z.cells 0) v0.1 /\ (match σ.tg with | some o => TagsR w none' (from' z.cells 0 o) v0.2 | none => v0.2 = []))
  (hd : DfC P fd σ d) (hbd : bodied P fd = true) : NewC P f σ (d v0) := by
 intro w
 refine calls_of_wp hf hbody ?_
 rw [hN]
 refine wp_act (fun a : Act => a.tmps.size = 3 /\ a.defers = []) ⟨by simp, rfl⟩ ?_
 rintro a ⟨aN, ad⟩
 refine wp_seq (wp_region_lit (Zv rfl Zi (wpList_nil ?_)))
 refine wp_seq (wp_region_lit (Zv rfl (x_alloc hz) (wpList_nil ?_)))
 have hb1 := Zh w (.cells z.cells T)
 have hm1 : Mod none' w (w.alloc (.cells z.cells T)) := (Mod.refl w).alloc _
 have hs1 : (w.alloc (.cells z.cells T)).heap.size = w.heap.size + 1 := by simp
 generalize w.alloc (.cells z.cells T) = w1 at *
 have hC : Cur σ none' w.heap.size 0 v0 w1 := ⟨⟨z.cells, T, hb1, by omega, (h0 w1).1, (h0 w1).2⟩⟩
 refine wp_seq (wp_region_lit (wpl_call rfl (Zy hbd rfl) (R := fun e w' => (∃ r, e = .returned r) /\ Mod (only w.heap.size) w1 w' /\ Cur σ none' w.heap.size 0 (d v0) w' /\
  ∀ C t, w1.heap[w.heap.size]? = some (.cells C t (0, 0)) -> ∃ C', w'.heap[w.heap.size]? = some (.cells C' t (0, 0)) /\ C'.size = C.size /\ ∀ j, j < 0 \/ 0 + σ.sz <= j -> C'[j]? = C[j]?) ?_ ?_))
 ·have e0 : ∀ a : Act, Act.get a 1 = .pointer (some ⟨w.heap.size, 0, none⟩) -> (#[Operand.tmp 1] : Array Operand).map a.eval = #[.pointer (some ⟨w.heap.size, 0, none⟩)] := fun a h => by simp [Ze, h]
  rw [e0 _ (by rw [Zq (by simp only [Zs]; omega)])]
  exact hd none' _ 0 v0 w1 hC (fun _ f => f.elim)
 rintro e w2 ⟨⟨r, rfl⟩, hm2, hC2, _⟩
 refine ⟨r, rfl, wpList_nil (wp_seq (wp_region_lit (Zv rfl Zi (wpList_nil (wp_ret (bodyPost_ret (results_tmp hres _ P w2) ?_ ⟨?_, ?_, ?_, hC2⟩))))))⟩
 ·simp only [Zd]; exact ad
 ·show Ending.returned (Act.get _ 0) = _
  simp (disch := first | omega | simp only [Zs]; omega) only [Zo, Ze, Zn, Zq]
 ·exact hm1.trans' hm2 (fun _ _ f => f) (fun i hi e => by have : i = w.heap.size := e; omega)
 ·have := hm2.size; omega
theorem set_rule (hf : P.funcs[f]? = some fn) (hN : fn.ntmps = 8) (hres : fn.results = #[])
  (hbody : fn.body = some (.region i0 #[⟨some 4, .move (.tmp 0), y0, p0, e0, none⟩, ⟨some 5, .move (.tmp 1), y1, p1, e1, none⟩, ⟨some 6, .nilCheck (.tmp 4), y2, p2, e2, none⟩, ⟨some 7, .fieldAddr T (.tmp 6) 0, y3, p3, e3, none⟩, ⟨none, .store y5 (.tmp 7) (.tmp 5), y4, p4, e4, none⟩] false))
  (hver : fieldOff P T 0 = some 0) (hsz : sized P y5 1 = true) (hlay : σ.lay.at 0 = some (0, .int .i16)) (hok : σ.lay.ok 0 σ.sz = true) (htg : TagIn σ.tg σ.sz = true) (htg0 : σ.tg ≠ some 0) : SetC P f σ := by
 intro blk v ver w hfit hC
 obtain ⟨C, t, h1, h2, h3, h4⟩ := hC.mem
 have hin := Lay.at_in _ _ _ _ _ _ hok hlay
 simp only [Ty.size] at hin
 have h0C : 0 < C.size := by omega
 refine calls_of_wp hf hbody ?_
 rw [hN]
 refine wp_act (fun a : Act => Act.get a 0 = .pointer (some ⟨blk, 0, none⟩) /\ Act.get a 1 = .int .i16 ver /\ a.tmps.size = 8 /\ a.defers = []) ⟨by rw [Zj _ _ _ (by simp)]; rfl, by rw [Zj _ _ _ (by simp)]; rfl, by simp, rfl⟩ ?_
 rintro a ⟨a0, a1, aN, ad⟩
 refine wp_region_lit (Zv rfl Zm (Zv rfl Zm (Zv rfl (x_nilCheck (q := ⟨blk, 0, none⟩) ?_) (Zv rfl (Za hver (b := blk) (o0 := 0) ?_) (wpl_skip rfl (x_store1 hsz (b := blk) (o := 0 + 0) (v := .int .i16 ver) (u := C[0]) ?_ ?_ rfl ?_ ?_) (wpList_nil ?_))))))
 ·simp (disch := first | omega | simp only [Zs]; omega) only [Zo, Ze, Zn, Zq, a0]
 ·simp (disch := first | omega | simp only [Zs]; omega) only [Zo, Ze, Zn, Zq]
 ·simp (disch := first | omega | simp only [Zs]; omega) only [Zo, Ze, Zn, Zq]
 ·simp (disch := first | omega | simp only [Zs]; omega) only [Zo, Ze, Zn, Zq, a1]
 ·rw [Zc h1]; exact Array.getElem?_eq_getElem h0C
 ·exact Zz h1
 refine ⟨?_, .tuple #[], by simp [results, hres], _, rfl, (Mod.refl w).put _ _, ⟨C.setIfInBounds 0 (.int .i16 ver), t, heap_setCell_same h1 _, by simpa using h2, ?_, ?_⟩⟩
 ·simp only [Zd]; exact ad
 ·have hmm : Mod (only blk) w (w.setCell ⟨blk, 0 + 0, none⟩ (.int .i16 ver)) := (Mod.refl w).put _ _
  refine RepL.set σ.lay 0 σ.sz 0 0 (.int .i16) (from' C 0) _ v.1 (.num ver) hok hlay (fun j h1 h2 h3 => ?_) ?_ (h3.mod hmm (fun _ f => f.elim) (fun _ f => f.elim))
  ·simp only [Ty.size] at h3
   simp only [from', Nat.zero_add, Array.getD_eq_getD_getElem?]
   rw [Array.getElem?_setIfInBounds_ne (by omega)]
  ·refine ⟨ver, ?_, hfit, rfl⟩
   simp [from', h0C]
 ·have hmm : Mod (only blk) w (w.setCell ⟨blk, 0 + 0, none⟩ (.int .i16 ver)) := (Mod.refl w).put _ _
  cases hg : σ.tg with
  | none => rw [hg] at h4; exact h4
  | some o =>
   rw [hg] at h4
   have ho : 0 ≠ o := fun e => htg0 (by rw [hg, <- e])
   have e1 : from' (C.setIfInBounds 0 (.int .i16 ver)) 0 o = from' C 0 o := by
    simp only [from', Nat.zero_add, Array.getD_eq_getD_getElem?]
    rw [Array.getElem?_setIfInBounds_ne ho]
   show TagsR _ _ (from' (C.setIfInBounds 0 (.int .i16 ver)) 0 o) v.2
   rw [e1]
   exact TagsR.mod h4 hmm (fun _ f => f.elim) (fun _ f => f.elim)
theorem rf_rule {flexible : Int -> Bool} {ft : FT} {b : Bool} (hf : P.funcs[f]? = some fn) (hN : fn.ntmps = 8) (hres : fn.results = #[.tmp 4])
  (hbody : fn.body = some (.seq (.region i0 #[⟨some 4, .assign (.const .nilIface), y0, p0, e0, none⟩] false) (.seq (.region i1 #[⟨some 5, .move (.tmp 0), y1, p1, e1, none⟩, ⟨some 6, .move (.tmp 1), y2, p2, e2, none⟩,
   ⟨some 7, .call ⟨.value (.func fr), #[.tmp 5, .tmp 6, .const (.bool b)], ts⟩, y3, p3, e3, none⟩, ⟨some 4, .assign (.tmp 7), y4, p4, e4, none⟩] false) .ret)))
  (hr : ReadC P fr σ flexible ft) (hbd : bodied P fr = true) : RFC P f σ flexible ft := by
 intro vb v ver srcv sb bs nil ev w hE hg hvs hsb hC hv0 hsrc hns
 refine calls_of_wp hf hbody ?_
 rw [hN]
 refine wp_act (fun a : Act => Act.get a 0 = .pointer (some ⟨vb, 0, none⟩) /\ Act.get a 1 = srcv /\ a.tmps.size = 8 /\ a.defers = []) ⟨by rw [Zj _ _ _ (by simp)]; rfl, by rw [Zj _ _ _ (by simp)]; rfl, by simp, rfl⟩ ?_
 rintro a ⟨a0, a1, aN, ad⟩
 refine wp_seq (wp_region_lit (Zv rfl Zi (wpList_nil ?_)))
 refine wp_seq (wp_region_lit (Zv rfl Zm (Zv rfl Zm (wpl_call rfl (Zy hbd rfl) (R := fun e w' => ∃ r, e = .returned r /\ Mod (only vb) w w' /\ match ft ver (flexible ver) v ⟨bs, nil, false⟩ with
   | .ok v' s' => r = endErr ev s'.bad /\ Cur σ (fun k => k = sb \/ w.heap.size <= k) vb 0 v' w'
   | .early => r = ev
   | .stuck => False) ?_ ?_))))
 ·have e0 : ∀ a : Act, Act.get a 5 = .pointer (some ⟨vb, 0, none⟩) -> Act.get a 6 = srcv -> (#[Operand.tmp 5, .tmp 6, .const (.bool b)] : Array Operand).map a.eval = #[.pointer (some ⟨vb, 0, none⟩), srcv, .bool b] := fun a h h' => by
   simp [Ze, h, h']
   rfl
  rw [e0 _ ?_ ?_]
  ·exact hr vb v ver b srcv sb bs nil ev w hE hg hvs hsb hC hv0 hsrc hns
  ·simp (disch := first | omega | simp only [Zs]; omega) only [Zo, Ze, Zn, Zq, a0]
  ·simp (disch := first | omega | simp only [Zs]; omega) only [Zo, Ze, Zn, Zq, a1]
 ·rintro e w' ⟨r, rfl, hm, ho⟩
  refine ⟨r, rfl, Zv rfl Zi (wpList_nil (wp_ret (bodyPost_ret (results_tmp hres _ P w') ?_ ⟨_, rfl, hm, ?_⟩)))⟩
  ·simp only [Zd]; exact ad
  ·have er : ∀ a : Act, 4 < a.tmps.size -> 7 < a.tmps.size -> ((a.put (some 7) r).put (some 4) ((a.put (some 7) r).eval (.tmp 7))).tmps.getD 4 undef = r := fun a h h' => by
    show Act.get _ 4 = _
    rw [Zq (by simpa only [Zs] using h), Ze, Zq h']
   have := er (((a.put (some 4) (a.eval (.const .nilIface))).put (some 5) (Act.eval (a.put (some 4) (a.eval (.const .nilIface))) (.tmp 0))).put (some 6) (Act.eval ((a.put (some 4) (a.eval (.const .nilIface))).put (some 5) (Act.eval (a.put (some 4) (a.eval (.const .nilIface))) (.tmp 0))) (.tmp 1))) (by simp only [Zs]; omega) (by simp only [Zs]; omega)
   rw [show (Act.tmps _).getD 4 undef = r from this]
   exact ho
end
end Go.Proofs.YtcldbjehliladaaDoor
set_option linter.unusedSimpArgs false
set_option linter.unusedVariables false
namespace Go.Proofs.YtcldbjehliladaaDoor
open Go Go.RowKit
def intTy (P : Program) (t : TypeId) (k : IntKind) : Bool := match P.underlying t with
 | some (.int k') => k == k'
 | _ => false
theorem intTy_spec {P : Program} {t : TypeId} {k : IntKind} (h : intTy P t k = true) : P.underlying t = some (.int k) := by
 unfold intTy at h
 cases hu : P.underlying t with
 | none => simp [hu] at h
 | some ds => cases ds <;> simp_all
section
variable {P : Program} {ρ : Operand -> Value} {w : World} {d : Option Tmp} {ty : TypeId} {p : String} {af : Array Edge} {g : Option (Nat × Bool)} {ops : Array Oper} {rest : List Oper} {a : Act} {Q : Exit -> Act -> World -> Prop}
theorem x_convInt {x : Operand} {s t : TypeId} {k k' : IntKind} {n : Int} (h1 : intTy P s k = true) (h2 : intTy P t k' = true) (hx : ρ x = .int k n) : (execOp ρ ⟨d, .convert s t x, ty, p, af, g⟩).run P w = .ok (.value (.int k' (k'.wrap n))) w := by
 simp [execOp, hx, convert, run_underlying (intTy_spec h1), run_underlying (intTy_spec h2), Conv.intToInt]
/-- a slice value that holds these octets -/
def Srcs (w : World) (v : Value) (bs : List UInt8) : Prop := (bs = [] /\ ∃ ao cap, v = .slice ao 0 cap) \/ ∃ sb off cap c tc fr, v = .slice (some ⟨sb, off, none⟩) bs.length cap /\ w.heap[sb]? = some (.cells c tc fr) /\ ∀ i (h : i < bs.length), c[off + i]? = some (.int .u8 (bs[i]).toNat)
theorem Srcs.mod {w w' : World} {v : Value} {bs : List UInt8} (h : Srcs w v bs) (hm : Mod none' w w') : Srcs w' v bs := by
 rcases h with h | ⟨sb, off, cap, c, tc, fr, h1, h2, h3⟩
 ·exact .inl h
 ·exact .inr ⟨sb, off, cap, c, tc, fr, h1, hm.some h2 (fun f => f), h3⟩
theorem Srcs.shape {w : World} {v : Value} {bs : List UInt8} (h : Srcs w v bs) : ∃ ao cap, v = .slice ao bs.length cap := by
 rcases h with ⟨rfl, ao, cap, h⟩ | ⟨sb, off, cap, c, tc, fr, h1, h2, h3⟩
 ·exact ⟨ao, cap, h⟩
 ·exact ⟨_, _, h1⟩
theorem wpl_copy {s x : Operand} {t e : Nat} {srcv : Value} {bs : List UInt8} (hI : elemInfo P t e 1 = true) (hs : a.eval s = .slice none 0 0) (hx : a.eval x = srcv) (hsrc : Srcs w srcv bs) (hl : bs.length <= 4294967295)
  (hk : ∀ v' w', Mod none' w w' -> (bs = [] /\ v' = .slice none 0 0 \/ ∃ g, w.heap.size <= g /\ g < w'.heap.size /\ Src w' v' g bs false /\ bs.isEmpty = false) -> wpList P ops Q rest (a.put d v') w') :
  wpList P ops Q (⟨d, .call ⟨.builtin .append, #[s, x], #[t, t]⟩, ty, p, af, none⟩ :: rest) a w := by
 by_cases hb : bs = []
 ·subst hb
  obtain ⟨ao, c, rfl⟩ := hsrc.shape
  obtain ⟨hu, i, z, hi, hz, h2, h3, h4, h5, h6⟩ := elemInfo_spec hI
  refine Zv rfl (v := .slice none 0 0) (w' := w) ?_ (hk _ w (.refl w) (.inl ⟨rfl, rfl⟩))
  cases ao <;> simp [execOp, resolve, invoke, builtin, hs, hx, Builtin.append_, run_underlying hu, sizeOf, typeInfo, hi, Builtin.lenOf, Builtin.firstCells, loadCells, loadCellsFrom]
 ·obtain ⟨sb, off, cap, c, tc, fr, hv, hh, hc⟩ := hsrc.resolve_left (fun h => hb h.1)
  refine wpl_append (e := e) (sz := 1) (base := w.heap.size) (v := .slice none 0 0) (n := 0) (xs := []) (ad := ⟨sb, off, none⟩) (m := bs.length) (c := cap) (news := bs.map fun x => Value.int .u8 x.toNat) hI hs (hx.trans hv) (World.ownsRow_nil _ _ _ _) (by simp) (fun j u hu => by
   rw [Addr.add_mid, Zc hh]
   simp only [List.getElem?_map, Option.map_eq_some_iff] at hu
   obtain ⟨q, hq, rfl⟩ := hu
   obtain ⟨hj, rfl⟩ := List.getElem?_eq_some_iff.1 hq
   exact hc j hj) (fun u hu => by obtain ⟨q, _, rfl⟩ := List.mem_map.1 hu; rfl) (by omega) (Nat.le_refl _) ?_
  intro v' w' ho hm hn _
  refine hk v' w' (hm.mono fun i _ h => by simp [Value.ownBlock] at h) (.inr ?_)
  rcases ho.2 with ⟨h1, h2⟩ | ⟨g, cap', cur, h1, h2, h3, h4, h5, h6, h7⟩
  ·exact (hb (List.eq_nil_of_length_eq_zero (by omega))).elim
  ·refine ⟨g, h2, lt_of_block h3, ?_, by cases bs; exact (hb rfl).elim; rfl⟩
   rw [Nat.zero_add] at h1 h4 h7
   refine .inr ⟨rfl, 0, cap', cur, e, (0, 0), h1, h4, h5, h3, fun i hi => ?_⟩
   have : (cur.toList.take (bs.length * 1))[i]? = (bs.map fun x => Value.int .u8 x.toNat)[i]? := by rw [h7]; simp
   rw [List.getElem?_take, if_pos (by omega), Array.getElem?_toList] at this
   rw [Nat.zero_add, this]
   simp [hi]
end
theorem results_cellN_tmp {fn : Func} {p q : Tmp} {ty : TypeId} (h : fn.results = #[.cell p ty, .tmp q]) {P : Program} {tmps : Array Value} {w : World} {b o : Nat} {cs : List Value} {v : Value} (hp : tmps.getD p undef = .pointer (some ⟨b, o, none⟩))
  (hq : tmps.getD q undef = v) (h1 : Go.Proofs.YtcldbjehliladaaDoor.many P ty cs.length = true) (hc : w.rangeAt b o cs) : (results fn tmps).run P w = .ok (.tuple #[.agg cs.toArray, v]) w := by
 obtain ⟨ds, hu, hd, hi⟩ := many_spec h1
 have hp' : tmps[p]?.getD undef = .pointer (some ⟨b, o, none⟩) := by simpa using hp
 have hq' : tmps[q]?.getD undef = v := by simpa using hq
 have := run_loadVar_mid (P := P) w b o ty cs ds hc hu hd hi
 simp [results, h, hp', hq', asAddr, this]
/-- what a door that reads and tells answers -/
def DoorC (P : Program) (f : FuncId) (flexible : Int -> Bool) (ft : FT) (v1 : SV) (G : SV -> List Tr) : Prop :=
 ∀ n srcv bs ev w, ErrIs w ev -> (∃ tx vx, ev = .iface tx vx) -> Srcs w srcv bs -> bs.length <= 4294967295 ->
  ft (IntKind.i16.wrap n) (flexible (IntKind.i16.wrap n)) (v1.1.set 0 (.num (IntKind.i16.wrap n)), v1.2) ⟨bs, bs.isEmpty, false⟩ ≠ .stuck ->
  Calls P f #[.int .i64 n, srcv] w fun e w' => ∃ cs ok, e = .returned (.tuple #[.agg cs, .bool ok]) /\ Mod none' w w' /\ cs.size = 5 /\ cs.all (·.oneCell') = true /\
   match ft (IntKind.i16.wrap n) (flexible (IntKind.i16.wrap n)) (v1.1.set 0 (.num (IntKind.i16.wrap n)), v1.2) ⟨bs, bs.isEmpty, false⟩ with
   | .ok v' s' => ok = !s'.bad /\ (ok = true -> TreeR w' (From w) (from' cs 0) (.part (G v') v'.2))
   | .early => ok = false
   | .stuck => False
section
variable {P : Program} {σ : St} {fn : Func} {f fNew fSet fRF fTell : FuncId} {TI TL T i0 i1 i2 i3 i4 i5 yi y16 yb eb yE : Nat} {ts1 ts2 ts3 ts5 : Array TypeId}
 {y00 y01 y10 y11 y20 y21 y22 y23 y30 y31 y32 y33 y34 y40 y41 y42 y50 y51 y52 y53 yg : TypeId} {p00 p01 p10 p11 p20 p21 p22 p23 p30 p31 p32 p33 p34 p40 p41 p42 p50 p51 p52 p53 : String} {e00 e01 e10 e11 e20 e21 e22 e23 e30 e31 e32 e33 e34 e40 e41 e42 e50 e51 e52 e53 : Array Edge}
set_option maxHeartbeats 400000 in
theorem door_rule {flexible : Int -> Bool} {ft : FT} {v1 : SV} {G : SV -> List Tr} (hf : P.funcs[f]? = some fn) (hN : fn.ntmps = 20) (hres : fn.results = #[.cell 4 TI, .tmp 5]) (hT : TellT P TI TL)
  (hbody : fn.body = some (.seq (.region i0 #[⟨some 4, .alloc TI, y00, p00, e00, none⟩, ⟨some 5, .assign (.const (.bool false)), y01, p01, e01, none⟩] false)
   (.seq (.region i1 #[⟨some 7, .call ⟨.value (.func fNew), #[], ts1⟩, y10, p10, e10, none⟩, ⟨some 6, .assign (.tmp 7), y11, p11, e11, none⟩] false)
   (.seq (.region i2 #[⟨some 8, .move (.tmp 6), y20, p20, e20, none⟩, ⟨some 9, .move (.tmp 0), y21, p21, e21, none⟩, ⟨some 10, .convert yi y16 (.tmp 9), y22, p22, e22, none⟩, ⟨some 11, .call ⟨.value (.func fSet), #[.tmp 8, .tmp 10], ts2⟩, y23, p23, e23, none⟩] false)
   (.seq (.seq (.region i3 #[⟨some 12, .move (.tmp 6), y30, p30, e30, none⟩, ⟨some 13, .move (.tmp 1), y31, p31, e31, none⟩, ⟨some 14, .call ⟨.builtin .append, #[.const (.slice none 0 0), .tmp 13], #[yb, yb]⟩, y32, p32, e32, none⟩,
     ⟨some 15, .call ⟨.value (.func fRF), #[.tmp 12, .tmp 14], ts3⟩, y33, p33, e33, none⟩, ⟨some 16, .binOp .neq yE (.tmp 15) (.const .nilIface) yg, y34, p34, e34, none⟩] false)
    (.cond (.tmp 16) (.seq (.region i4 #[⟨some 17, .build TI #[], y40, p40, e40, none⟩, ⟨none, .store TI (.tmp 4) (.tmp 17), y41, p41, e41, none⟩, ⟨some 5, .assign (.const (.bool false)), y42, p42, e42, none⟩] false) .ret) .skip))
   (.seq (.region i5 #[⟨some 18, .move (.tmp 6), y50, p50, e50, none⟩, ⟨some 19, .call ⟨.value (.func fTell), #[.tmp 18], ts5⟩, y51, p51, e51, none⟩, ⟨none, .store TI (.tmp 4) (.tmp 19), y52, p52, e52, none⟩, ⟨some 5, .assign (.const (.bool true)), y53, p53, e53, none⟩] false) .ret))))))
  (hb1 : bodied P fNew = true) (hb2 : bodied P fSet = true) (hb3 : bodied P fRF = true) (hb4 : bodied P fTell = true) (hi : intTy P yi .i64 = true) (h16 : intTy P y16 .i16 = true) (hby : elemInfo P yb eb 1 = true) (hE : isIface P yE = true)
  (hNew : NewC P fNew σ v1) (hSet : SetC P fSet σ) (hRF : RFC P fRF σ flexible ft) (hTell : TellC P fTell σ G) (hv1 : 0 < v1.1.length) : DoorC P f flexible ft v1 G := by
 intro n srcv bs ev w hEr hev hsrc hbl hns
 have hgl : gErr < w.heap.size := World.block_lt_of_cell? _ _ hEr.1
 refine calls_of_wp hf hbody ?_
 rw [hN]
 refine wp_act (fun a : Act => Act.get a 0 = .int .i64 n /\ Act.get a 1 = srcv /\ a.tmps.size = 20 /\ a.defers = []) ⟨by rw [Zj _ _ _ (by simp)]; rfl, by rw [Zj _ _ _ (by simp)]; rfl, by simp, rfl⟩ ?_
 rintro a ⟨a0, a1, aN, ad⟩
 -- the answer's place
 refine wp_seq (wp_region_lit (Zv rfl (x_alloc hT.zero) (Zv rfl Zi (wpList_nil ?_))))
 have r1 := Zh w (.cells (Value.agg #[.int .i64 0, .slice none 0 0, .bool false, .slice none 0 0, .slice none 0 0]).cells TI)
 have m1 : Mod none' w (w.alloc (.cells (Value.agg #[.int .i64 0, .slice none 0 0, .bool false, .slice none 0 0, .slice none 0 0]).cells TI)) := (Mod.refl w).alloc _
 have s1 : (w.alloc (.cells (Value.agg #[.int .i64 0, .slice none 0 0, .bool false, .slice none 0 0, .slice none 0 0]).cells TI)).heap.size = w.heap.size + 1 := by simp
 generalize w.alloc (.cells (Value.agg #[.int .i64 0, .slice none 0 0, .bool false, .slice none 0 0, .slice none 0 0]).cells TI) = w1 at *
 obtain ⟨rb, hrb⟩ : ∃ rb, rb = w.heap.size := ⟨_, rfl⟩
 rw [<- hrb] at r1 s1 ⊢
 replace r1 : w1.heap[rb]? = some (.cells #[.int .i64 0, .slice none 0 0, .bool false, .slice none 0 0, .slice none 0 0] TI (0, 0)) := r1
 -- a new message
 refine wp_seq (wp_region_lit (wpl_call rfl (Zy hb1 rfl) (R := fun e w' => e = .returned (.pointer (some ⟨w1.heap.size, 0, none⟩)) /\ Mod none' w1 w' /\ w1.heap.size < w'.heap.size /\ Cur σ none' w1.heap.size 0 v1 w') (by simpa using hNew w1) ?_))
 rintro e w2 ⟨rfl, m2, s2, c2⟩
 refine ⟨_, rfl, Zv rfl Zi (wpList_nil ?_)⟩
 obtain ⟨vb, hvb⟩ : ∃ vb, vb = w1.heap.size := ⟨_, rfl⟩
 rw [<- hvb] at c2 ⊢
 -- its version
 have hfit : fits .i16 (IntKind.i16.wrap n) := fits_wrap _ _
 refine wp_seq (wp_region_lit (Zv rfl Zm (Zv rfl Zm (Zv rfl (x_convInt (n := n) hi h16 ?_) (wpl_call rfl (Zy hb2 rfl) (R := fun e w' => ∃ r, e = .returned r /\ Mod (only vb) w2 w' /\ Cur σ none' vb 0 (v1.1.set 0 (.num (IntKind.i16.wrap n)), v1.2) w') ?_ ?_)))))
 ·simp (disch := first | omega | simp only [Zs]; omega) only [Zo, Ze, Zn, Zq, a0]
 ·have e0 : ∀ a : Act, Act.get a 8 = .pointer (some ⟨vb, 0, none⟩) -> Act.get a 10 = .int .i16 (IntKind.i16.wrap n) -> (#[Operand.tmp 8, .tmp 10] : Array Operand).map a.eval = #[.pointer (some ⟨vb, 0, none⟩), .int .i16 (IntKind.i16.wrap n)] := fun a h h' => by simp [Ze, h, h']
  rw [e0 _ ?_ ?_]
  ·exact hSet vb v1 _ w2 hfit c2
  ·simp (disch := first | omega | simp only [Zs]; omega) only [Zo, Ze, Zn, Zq]
  ·simp (disch := first | omega | simp only [Zs]; omega) only [Zo, Ze, Zn, Zq]
 rintro e w3 ⟨r3, rfl, m3, c3⟩
 refine ⟨r3, rfl, wpList_nil ?_⟩
 have m03 : Mod none' w w3 := (m1.trans m2).trans' m3 (fun _ _ f => f) (fun i hi e => by have : i = vb := e; omega)
 refine wp_act (fun a : Act => Act.get a 1 = srcv /\ Act.get a 4 = .pointer (some ⟨rb, 0, none⟩) /\ Act.get a 6 = .pointer (some ⟨vb, 0, none⟩) /\ a.tmps.size = 20 /\ a.defers = []) ⟨?_, ?_, ?_, ?_, ?_⟩ ?_
 ·simp (disch := first | omega | simp only [Zs]; omega) only [Zo, Ze, Zn, Zq, a1]
 ·simp (disch := first | omega | simp only [Zs]; omega) only [Zo, Ze, Zn, Zq]
 ·simp (disch := first | omega | simp only [Zs]; omega) only [Zo, Ze, Zn, Zq]
 ·simp only [Zs]; exact aN
 ·simp only [Zd]; exact ad
 clear a0 a1 aN ad
 rintro a ⟨a1, a4, a6, aN, ad⟩
 -- it is read
 have hsrc3 : Srcs w3 srcv bs := hsrc.mod m03
 refine wp_seq (wp_seq (wp_region_lit (Zv rfl Zm (Zv rfl Zm (wpl_copy hby rfl ?_ hsrc3 hbl ?_)))))
 ·simp (disch := first | omega | simp only [Zs]; omega) only [Zo, Ze, Zn, Zq, a1]
 intro v4 w4 m4 h4
 have hvb3 : vb < w3.heap.size := by have := m3.size; omega
 obtain ⟨sb4, hsb4, hsb4', hs4⟩ : ∃ sb4, sb4 < w4.heap.size /\ vb ≠ sb4 /\ Src w4 v4 sb4 bs bs.isEmpty := by
  have := m03.size
  have := m4.size
  rcases h4 with ⟨rfl, rfl⟩ | ⟨g, g1, g2, g3, g4⟩
  ·exact ⟨gErr, by omega, by omega, .inl ⟨rfl, rfl, rfl⟩⟩
  ·exact ⟨g, g2, by omega, by rw [g4]; exact g3⟩
 have hE4 : ErrIs w4 ev := (hEr.mod m03 (fun f => f)).mod m4 (fun f => f)
 have c4 : Cur σ none' vb 0 (v1.1.set 0 (.num (IntKind.i16.wrap n)), v1.2) w4 := c3.later m4 (fun f => f) (fun _ f => f.elim)
 have m04 : Mod none' w w4 := m03.trans m4
 refine wpl_call rfl (Zy hb3 rfl) (R := fun e w' => ∃ r, e = .returned r /\ Mod (only vb) w4 w' /\ match ft (IntKind.i16.wrap n) (flexible (IntKind.i16.wrap n)) (v1.1.set 0 (.num (IntKind.i16.wrap n)), v1.2) ⟨bs, bs.isEmpty, false⟩ with
   | .ok v' s' => r = endErr ev s'.bad /\ Cur σ (fun k => k = sb4 \/ w4.heap.size <= k) vb 0 v' w'
   | .early => r = ev
   | .stuck => False) ?_ ?_
 ·have e0 : ∀ a : Act, Act.get a 12 = .pointer (some ⟨vb, 0, none⟩) -> Act.get a 14 = v4 -> (#[Operand.tmp 12, .tmp 14] : Array Operand).map a.eval = #[.pointer (some ⟨vb, 0, none⟩), v4] := fun a h h' => by simp [Ze, h, h']
  rw [e0 _ ?_ ?_]
  ·exact hRF vb _ _ v4 sb4 bs _ ev w4 hE4 (by omega) hsb4' hsb4 c4 (by simp [hv1]) hs4 hns
  ·simp (disch := first | omega | simp only [Zs]; omega) only [Zo, Ze, Zn, Zq, a6]
  ·simp (disch := first | omega | simp only [Zs]; omega) only [Zo, Ze, Zn, Zq]
 rintro e w5 ⟨r5, rfl, m5, h5⟩
 refine ⟨r5, rfl, ?_⟩
 have m05 : Mod none' w w5 := m04.trans' m5 (fun _ _ f => f) (fun i hi e => by have : i = vb := e; omega)
 have hr5 : w5.heap[rb]? = some (.cells #[.int .i64 0, .slice none 0 0, .bool false, .slice none 0 0, .slice none 0 0] TI (0, 0)) :=
  m5.some (m4.some (m3.some (m2.some r1 (fun f => f)) (fun e => by have : rb = vb := e; omega)) (fun f => f)) (fun e => by have : rb = vb := e; omega)
 obtain ⟨isbad, hisbad⟩ : ∃ bad : Bool, (bad = true /\ r5 = ev \/ bad = false /\ r5 = .nilIface) /\ (match ft (IntKind.i16.wrap n) (flexible (IntKind.i16.wrap n)) (v1.1.set 0 (.num (IntKind.i16.wrap n)), v1.2) ⟨bs, bs.isEmpty, false⟩ with
   | .ok v' s' => bad = s'.bad /\ Cur σ (fun k => k = sb4 \/ w4.heap.size <= k) vb 0 v' w5
   | .early => bad = true
   | .stuck => False) := by
  revert h5
  cases ft (IntKind.i16.wrap n) (flexible (IntKind.i16.wrap n)) (v1.1.set 0 (.num (IntKind.i16.wrap n)), v1.2) ⟨bs, bs.isEmpty, false⟩ with
  | ok v' s' =>
   rintro ⟨h1, h2⟩
   refine ⟨s'.bad, ?_, rfl, h2⟩
   cases hb : s'.bad
   ·exact .inr ⟨rfl, by rw [h1, hb]; rfl⟩
   ·exact .inl ⟨rfl, by rw [h1, hb]; rfl⟩
  | early => intro h; exact ⟨true, .inl ⟨rfl, h⟩, rfl⟩
  | stuck => intro h; exact h.elim
 obtain ⟨hbad, hout⟩ := hisbad
 obtain ⟨tx, vx, hevv⟩ := hev
 refine Zv rfl (x_neqNil (v := r5) (b := isbad) hE (fun _ => rfl) ?_ ?_) (wpList_nil ?_)
 ·rw [Ze, Zq (by simp only [Zs]; omega)]
 ·rcases hbad with ⟨h1, h2⟩ | ⟨h1, h2⟩
  ·exact .inl ⟨h1, tx, vx, h2.trans hevv⟩
  ·exact .inr ⟨h1, h2⟩
 cases isbad with
 | true =>
  refine wp_cond_true ?_ ?_
  ·rw [Ze, Zq (by simp only [Zs]; omega)]
  refine wp_seq (wp_region_lit ?_)
  refine Zv rfl (x_build (cells := #[.int .i64 0, .slice none 0 0, .bool false, .slice none 0 0, .slice none 0 0]) ?_) ?_
  ·simp only [List.map_toArray, List.map_nil]
   rw [built_of hT.parts]
   rfl
  refine wpl_skip rfl (x_storeN (cs := #[.int .i64 0, .slice none 0 0, .bool false, .slice none 0 0, .slice none 0 0]) (b := rb) (o := 0) hT.size ?_ ?_ (by simp [Value.oneCell']) ?_) (Zv rfl Zi (wpList_nil ?_))
  ·simp (disch := first | omega | simp only [Zs]; omega) only [Zo, Ze, Zn, Zq, a4]
  ·simp (disch := first | omega | simp only [Zs]; omega) only [Zo, Ze, Zn, Zq]
  ·intro j hj
   simp at hj
   rw [Zc hr5, Zz hr5, Array.getElem?_eq_getElem (by simpa using hj)]
   exact ⟨rfl, rfl⟩
  obtain ⟨C3, k1, k2, k3, k4⟩ := heap_setCells (w := w5) [.int .i64 0, .slice none 0 0, .bool false, .slice none 0 0, .slice none 0 0] 0 _ hr5
  have hC3 : C3 = #[.int .i64 0, .slice none 0 0, .bool false, .slice none 0 0, .slice none 0 0] := by
   apply Array.ext
   ·exact k2
   ·intro i h1 h2
    have hi : i < 5 := by simpa using h2
    have := k3 i (by simpa using hi) (by simpa using hi)
    rw [Nat.zero_add, Array.getElem?_eq_getElem h1] at this
    simpa using this
  subst hC3
  have hm6 := mod_setCells rb w5 0 [.int .i64 0, .slice none 0 0, .bool false, .slice none 0 0, .slice none 0 0]
  refine wp_act (c := .ret) (fun a : Act => a.tmps.getD 4 undef = .pointer (some ⟨rb, 0, none⟩) /\ a.tmps.getD 5 undef = .bool false /\ a.defers = []) ⟨?_, ?_, ?_⟩ ?_
  ·rw [show ∀ (a : Act) t, a.tmps.getD t undef = Act.get a t from fun _ _ => rfl]
   simp (disch := first | omega | simp only [Zs]; omega) only [Zo, Ze, Zn, Zq, a4]
  ·rw [show ∀ (a : Act) t, a.tmps.getD t undef = Act.get a t from fun _ _ => rfl]
   simp (disch := first | omega | simp only [Zs]; omega) only [Zo, Ze, Zn, Zq]
   rfl
  ·simp only [Zd]; exact ad
  rintro a9 ⟨z4, z5, zd⟩
  refine wp_ret ?_
  try simp only [Exit.then]
  refine bodyPost_ret (v := .tuple #[.agg #[.int .i64 0, .slice none 0 0, .bool false, .slice none 0 0, .slice none 0 0], .bool false]) (results_cellN_tmp hres (b := rb) (o := 0) (cs := [.int .i64 0, .slice none 0 0, .bool false, .slice none 0 0, .slice none 0 0]) (v := .bool false) z4 z5 hT.many (fun j v hv => by rw [Zc k1, Nat.zero_add]; simpa using hv)) zd ⟨#[.int .i64 0, .slice none 0 0, .bool false, .slice none 0 0, .slice none 0 0], false, rfl, m05.trans' hm6 (fun _ _ f => f) (fun j hj e => by have : j = rb := e; omega), rfl, by simp [Value.oneCell'], ?_⟩
  ·revert hout
   cases ft (IntKind.i16.wrap n) (flexible (IntKind.i16.wrap n)) (v1.1.set 0 (.num (IntKind.i16.wrap n)), v1.2) ⟨bs, bs.isEmpty, false⟩ with
   | ok v' s' => rintro ⟨h1, h2⟩; exact ⟨by rw [<- h1]; rfl, fun h => by cases h⟩
   | early => intro _; rfl
   | stuck => intro h; exact h.elim
 | false =>
  refine wp_cond_false ?_ (wp_skip ?_)
  ·rw [Ze, Zq (by simp only [Zs]; omega)]
  obtain ⟨v', s', hft, hs', hc5⟩ : ∃ v' s', ft (IntKind.i16.wrap n) (flexible (IntKind.i16.wrap n)) (v1.1.set 0 (.num (IntKind.i16.wrap n)), v1.2) ⟨bs, bs.isEmpty, false⟩ = .ok v' s' /\ s'.bad = false /\ Cur σ (fun k => k = sb4 \/ w4.heap.size <= k) vb 0 v' w5 := by
   revert hout
   cases ft (IntKind.i16.wrap n) (flexible (IntKind.i16.wrap n)) (v1.1.set 0 (.num (IntKind.i16.wrap n)), v1.2) ⟨bs, bs.isEmpty, false⟩ with
   | ok v' s' => rintro ⟨h1, h2⟩; exact ⟨v', s', rfl, h1.symm, h2⟩
   | early => intro h; cases h
   | stuck => intro h; exact h.elim
  refine wp_seq (wp_region_lit (Zv rfl Zm (wpl_call rfl (Zy hb4 rfl) (R := fun e w' => ∃ r, e = .returned r /\ Mod none' w5 w' /\ TreeV w' (From w5) r (.part (G v') v'.2)) ?_ ?_)))
  ·have e0 : ∀ a : Act, Act.get a 18 = .pointer (some ⟨vb, 0, none⟩) -> (#[Operand.tmp 18] : Array Operand).map a.eval = #[.pointer (some ⟨vb, 0, none⟩)] := fun a h => by simp [Ze, h]
   rw [e0 _ ?_]
   ·exact hTell vb 0 v' _ w5 hc5
   ·simp (disch := first | omega | simp only [Zs]; omega) only [Zo, Ze, Zn, Zq, a6]
  rintro e w6 ⟨r6, rfl, m6, cs, rfl, q2, q3, q4⟩
  refine ⟨_, rfl, ?_⟩
  have hr6 := m6.some hr5 (fun f => f)
  refine wpl_skip rfl (x_storeN (cs := cs) (b := rb) (o := 0) (by rw [q2]; exact hT.size) ?_ ?_ q3 ?_) (Zv rfl Zi (wpList_nil ?_))
  ·simp (disch := first | omega | simp only [Zs]; omega) only [Zo, Ze, Zn, Zq, a4]
  ·simp (disch := first | omega | simp only [Zs]; omega) only [Zo, Ze, Zn, Zq]
  ·intro j hj
   rw [Zc hr6, Zz hr6, Array.getElem?_eq_getElem (by simp; omega)]
   exact ⟨rfl, rfl⟩
  obtain ⟨C3, k1, k2, k3, k4⟩ := heap_setCells (w := w6) cs.toList 0 _ hr6
  have hC3 : C3 = cs := by
   apply Array.ext
   ·rw [k2, q2]; rfl
   ·intro i h1 h2
    have := k3 i (by simpa using h2) (by simp; omega)
    rw [Nat.zero_add, Array.getElem?_eq_getElem h1] at this
    simpa [h2] using this
  subst hC3
  have hm7 := mod_setCells rb w6 0 C3.toList
  have hmm : Mod none' w (w6.setCells rb 0 C3.toList) := (m05.trans m6).trans' hm7 (fun _ _ f => f) (fun j hj e => by have : j = rb := e; omega)
  refine wp_act (c := .ret) (fun a : Act => a.tmps.getD 4 undef = .pointer (some ⟨rb, 0, none⟩) /\ a.tmps.getD 5 undef = .bool true /\ a.defers = []) ⟨?_, ?_, ?_⟩ ?_
  ·rw [show ∀ (a : Act) t, a.tmps.getD t undef = Act.get a t from fun _ _ => rfl]
   simp (disch := first | omega | simp only [Zs]; omega) only [Zo, Ze, Zn, Zq, a4]
  ·rw [show ∀ (a : Act) t, a.tmps.getD t undef = Act.get a t from fun _ _ => rfl]
   simp (disch := first | omega | simp only [Zs]; omega) only [Zo, Ze, Zn, Zq]
   rfl
  ·simp only [Zd]; exact ad
  rintro a9 ⟨z4, z5, zd⟩
  refine wp_ret ?_
  try simp only [Exit.then]
  refine bodyPost_ret (v := .tuple #[.agg C3, .bool true]) (results_cellN_tmp hres (b := rb) (o := 0) (cs := C3.toList) (v := .bool true) z4 z5 (by rw [Array.length_toList, q2]; exact hT.many) (fun j v hv => by rw [Zc k1, Nat.zero_add]; simpa using hv)) zd ⟨C3, true, rfl, hmm, q2, q3, ?_⟩
  ·rw [hft]
   refine ⟨by rw [hs']; rfl, fun _ => ?_⟩
   have hsz := m05.size
   have hsz5 : rb < w5.heap.size := lt_of_block hr5
   have := q4.mod hm7 (F' := From w) (fun k hk e => by have h1 : k = rb := e; have h2 : w5.heap.size <= k := hk; omega) (fun k hk => by have h2 : w5.heap.size <= k := hk; show w.heap.size <= k; omega)
   exact this
end
end Go.Proofs.YtcldbjehliladaaDoor
