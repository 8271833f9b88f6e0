/-
  The doors: a new message, its version, reading and telling it. No program in it.
  The doors, whole: a new message is read and told. No program in it.
-/
import Derived.Test.YthkpmmjcmldjhaaDoorPTelR
set_option linter.unusedSimpArgs false
set_option linter.unusedVariables false
namespace Go.Proofs.YthkpmmjcmldjhaaDoor
open Go Go.RowKit
/-- an interface type -/
def isIface (P : Program) (t : TypeId) : Bool := match P.underlying t with
 | some (.interface _) => true
 | _ => false
theorem isIface_spec {P : Program} {t : TypeId} (h : isIface P t = true) : ∃ ms, P.underlying t = some (.interface ms) := by
 unfold isIface at h
 cases hu : P.underlying t with
 | none => simp [hu] at h
 | some ds => cases ds <;> simp_all
section
variable {P : Program} {ρ : Operand -> Value} {w : World} {d : Option Tmp} {ty : TypeId} {p : String} {af : Array Edge} {g : Option (Nat × Bool)}
theorem x_neqNil {x : Operand} {t u : TypeId} {v : Value} {b : Bool} (ht : isIface P t = true) (hρ : ∀ v, ρ (.const v) = v) (hx : ρ x = v) (hv : (b = true /\ ∃ tx vx, v = .iface tx vx) \/ (b = false /\ v = .nilIface)) :
  (execOp ρ ⟨d, .binOp .neq t x (.const .nilIface) u, ty, p, af, g⟩).run P w = .ok (.value (.bool b)) w := by
 obtain ⟨ms, hu⟩ := isIface_spec ht
 rcases hv with ⟨rfl, tx, vx, rfl⟩ | ⟨rfl, rfl⟩
 ·have he : (Op.equal t (.iface tx vx) .nilIface).run P w = .ok false w := by
   show (Op.equalIn (9999 + 1) t (.iface tx vx) .nilIface).run P w = _
   rw [Op.equalIn]
   simp only [Sem.run_bind, run_underlying hu, Result.andThen_ok]
   rfl
  simp [execOp, hx, hρ, eqGuard, binOp, he]
 ·have he : (Op.equal t .nilIface .nilIface).run P w = .ok true w := by
   show (Op.equalIn (9999 + 1) t .nilIface .nilIface).run P w = _
   rw [Op.equalIn]
   simp only [Sem.run_bind, run_underlying hu, Result.andThen_ok]
   rfl
  simp [execOp, hx, hρ, eqGuard, binOp, he]
end
/-- a new message: what it is at first -/
def NewC (P : Program) (f : FuncId) (σ : St) (v : SV) : Prop := ∀ w, Calls P f #[] w fun e w' => e = .returned (.pointer (some ⟨w.heap.size, 0, none⟩)) /\ Mod none' w w' /\ w.heap.size < w'.heap.size /\ Cur σ none' w.heap.size 0 v w'
/-- its version is set -/
def SetC (P : Program) (f : FuncId) (σ : St) : Prop := ∀ blk v ver w, fits .i16 ver -> Cur σ none' blk 0 v w -> Calls P f #[.pointer (some ⟨blk, 0, none⟩), .int .i16 ver] w fun e w' => ∃ r, e = .returned r /\ Mod (only blk) w w' /\ Cur σ none' blk 0 (v.1.set 0 (.num ver), v.2) w'
/-- it is read -/
def RFC (P : Program) (f : FuncId) (σ : St) (flexible : Int -> Bool) (ft : FT) : Prop :=
 ∀ vb v ver srcv sb bs nil ev w, ErrIs w ev -> vb ≠ gErr -> vb ≠ sb -> sb < w.heap.size -> Cur σ none' vb 0 v w -> v.1[0]? = some (.num ver) -> Src w srcv sb bs nil -> ft ver (flexible ver) v ⟨bs, nil, false⟩ ≠ .stuck ->
  Calls P f #[.pointer (some ⟨vb, 0, none⟩), srcv] w fun e w' => ∃ r, e = .returned r /\ Mod (only vb) w w' /\ match ft ver (flexible ver) v ⟨bs, nil, false⟩ with
   | .ok v' s' => r = endErr ev s'.bad /\ Cur σ (fun k => k = sb \/ w.heap.size <= k) vb 0 v' w'
   | .early => r = ev
   | .stuck => False
section
variable {P : Program} {σ : St} {fn : Func} {f fd fr : FuncId} {T i0 i1 i2 i3 : Nat} {ts : Array TypeId}
 {y0 y1 y2 y3 y4 y5 y6 : TypeId} {p0 p1 p2 p3 p4 p5 p6 : String} {e0 e1 e2 e3 e4 e5 e6 : Array Edge}
theorem new_rule {d : SV -> SV} {v0 : SV} {z : Value} (hf : P.funcs[f]? = some fn) (hN : fn.ntmps = 3) (hres : fn.results = #[.tmp 0])
  (hbody : fn.body = some (.seq (.region i0 #[⟨some 0, .assign (.const (.pointer none)), y0, p0, e0, none⟩] false) (.seq (.region i1 #[⟨some 1, .alloc T, y1, p1, e1, none⟩] false)
   (.seq (.region i2 #[⟨some 2, .call ⟨.value (.func fd), #[.tmp 1], ts⟩, y2, p2, e2, none⟩] false) (.seq (.region i3 #[⟨some 0, .assign (.tmp 1), y3, p3, e3, none⟩] false) .ret)))))
  (hz : zeroOf P T = some z) (hzs : σ.sz <= z.cells.size) (h0 : ∀ w, RepL w none' σ.lay (from' z.cells 0) v0.1 /\ (match σ.tg with | some o => TagsR w none' (from' z.cells 0 o) v0.2 | none => v0.2 = []))
  (hd : DfC P fd σ d) (hbd : bodied P fd = true) : NewC P f σ (d v0) := by
 intro w
 refine calls_of_wp hf hbody ?_
 rw [hN]
 refine wp_act (fun a : Act => a.tmps.size = 3 /\ a.defers = []) ⟨by simp, rfl⟩ ?_
 rintro a ⟨aN, ad⟩
 refine wp_seq (wp_region_lit (Zv rfl Zi (wpList_nil ?_)))
 refine wp_seq (wp_region_lit (Zv rfl (x_alloc hz) (wpList_nil ?_)))
 have hb1 := Zh w (.cells z.cells T)
 have hm1 : Mod none' w (w.alloc (.cells z.cells T)) := (Mod.refl w).alloc _
 have hs1 : (w.alloc (.cells z.cells T)).heap.size = w.heap.size + 1 := by simp
 generalize w.alloc (.cells z.cells T) = w1 at *
 have hC : Cur σ none' w.heap.size 0 v0 w1 := ⟨⟨z.cells, T, hb1, by omega, (h0 w1).1, (h0 w1).2⟩⟩
 refine wp_seq (wp_region_lit (wpl_call rfl (Zy hbd rfl) (R := fun e w' => (∃ r, e = .returned r) /\ Mod (only w.heap.size) w1 w' /\ Cur σ none' w.heap.size 0 (d v0) w' /\
  ∀ C t, w1.heap[w.heap.size]? = some (.cells C t (0, 0)) -> ∃ C', w'.heap[w.heap.size]? = some (.cells C' t (0, 0)) /\ C'.size = C.size /\ ∀ j, j < 0 \/ 0 + σ.sz <= j -> C'[j]? = C[j]?) ?_ ?_))
 ·have e0 : ∀ a : Act, Act.get a 1 = .pointer (some ⟨w.heap.size, 0, none⟩) -> (#[Operand.tmp 1] : Array Operand).map a.eval = #[.pointer (some ⟨w.heap.size, 0, none⟩)] := fun a h => by simp [Ze, h]
  rw [e0 _ (by rw [Zq (by simp only [Zs]; omega)])]
  exact hd none' _ 0 v0 w1 hC (fun _ f => f.elim)
 rintro e w2 ⟨⟨r, rfl⟩, hm2, hC2, _⟩
 refine ⟨r, rfl, wpList_nil (wp_seq (wp_region_lit (Zv rfl Zi (wpList_nil (wp_ret (bodyPost_ret (results_tmp hres _ P w2) ?_ ⟨?_, ?_, ?_, hC2⟩))))))⟩
 ·simp only [Zd]; exact ad
 ·show Ending.returned (Act.get _ 0) = _
  simp (disch := first | omega | simp only [Zs]; omega) only [Zo, Ze, Zn, Zq]
 ·exact hm1.trans' hm2 (fun _ _ f => f) (fun i hi e => by have : i = w.heap.size := e; omega)
 ·have := hm2.size; omega
theorem set_rule (hf : P.funcs[f]? = some fn) (hN : fn.ntmps = 8) (hres : fn.results = #[])
  (hbody : fn.body = some (.region i0 #[⟨some 4, .move (.tmp 0), y0, p0, e0, none⟩, ⟨some 5, .move (.tmp 1), y1, p1, e1, none⟩, ⟨some 6, .nilCheck (.tmp 4), y2, p2, e2, none⟩, ⟨some 7, .fieldAddr T (.tmp 6) 0, y3, p3, e3, none⟩, ⟨none, .store y5 (.tmp 7) (.tmp 5), y4, p4, e4, none⟩] false))
  (hver : fieldOff P T 0 = some 0) (hsz : sized P y5 1 = true) (hlay : σ.lay.at 0 = some (0, .int .i16)) (hok : σ.lay.ok 0 σ.sz = true) (htg : TagIn σ.tg σ.sz = true) (htg0 : σ.tg ≠ some 0) : SetC P f σ := by
 intro blk v ver w hfit hC
 obtain ⟨C, t, h1, h2, h3, h4⟩ := hC.mem
 have hin := Lay.at_in _ _ _ _ _ _ hok hlay
 simp only [Ty.size] at hin
 have h0C : 0 < C.size := by omega
 refine calls_of_wp hf hbody ?_
 rw [hN]
 refine wp_act (fun a : Act => Act.get a 0 = .pointer (some ⟨blk, 0, none⟩) /\ Act.get a 1 = .int .i16 ver /\ a.tmps.size = 8 /\ a.defers = []) ⟨by rw [Zj _ _ _ (by simp)]; rfl, by rw [Zj _ _ _ (by simp)]; rfl, by simp, rfl⟩ ?_
 rintro a ⟨a0, a1, aN, ad⟩
 refine wp_region_lit (Zv rfl Zm (Zv rfl Zm (Zv rfl (x_nilCheck (q := ⟨blk, 0, none⟩) ?_) (Zv rfl (Za hver (b := blk) (o0 := 0) ?_) (wpl_skip rfl (x_store1 hsz (b := blk) (o := 0 + 0) (v := .int .i16 ver) (u := C[0]) ?_ ?_ rfl ?_ ?_) (wpList_nil ?_))))))
 ·simp (disch := first | omega | simp only [Zs]; omega) only [Zo, Ze, Zn, Zq, a0]
 ·simp (disch := first | omega | simp only [Zs]; omega) only [Zo, Ze, Zn, Zq]
 ·simp (disch := first | omega | simp only [Zs]; omega) only [Zo, Ze, Zn, Zq]
 ·simp (disch := first | omega | simp only [Zs]; omega) only [Zo, Ze, Zn, Zq, a1]
 ·rw [Zc h1]; exact Array.getElem?_eq_getElem h0C
 ·exact Zz h1
 refine ⟨?_, .tuple #[], by simp [results, hres], _, rfl, (Mod.refl w).put _ _, ⟨C.setIfInBounds 0 (.int .i16 ver), t, heap_setCell_same h1 _, by simpa using h2, ?_, ?_⟩⟩
 ·simp only [Zd]; exact ad
 ·have hmm : Mod (only blk) w (w.setCell ⟨blk, 0 + 0, none⟩ (.int .i16 ver)) := (Mod.refl w).put _ _
  refine RepL.set σ.lay 0 σ.sz 0 0 (.int .i16) (from' C 0) _ v.1 (.num ver) hok hlay (fun j h1 h2 h3 => ?_) ?_ (h3.mod hmm (fun _ f => f.elim) (fun _ f => f.elim))
  ·simp only [Ty.size] at h3
   simp only [from', Nat.zero_add, Array.getD_eq_getD_getElem?]
   rw [Array.getElem?_setIfInBounds_ne (by omega)]
  ·refine ⟨ver, ?_, hfit, rfl⟩
   simp [from', h0C]
 ·have hmm : Mod (only blk) w (w.setCell ⟨blk, 0 + 0, none⟩ (.int .i16 ver)) := (Mod.refl w).put _ _
  cases hg : σ.tg with
  | none => rw [hg] at h4; exact h4
  | some o =>
   rw [hg] at h4
   have ho : 0 ≠ o := fun e => htg0 (by rw [hg, <- e])
   have e1 : from' (C.setIfInBounds 0 (.int .i16 ver)) 0 o = from' C 0 o := by
    simp only [from', Nat.zero_add, Array.getD_eq_getD_getElem?]
    rw [Array.getElem?_setIfInBounds_ne ho]
   show TagsR _ _ (from' (C.setIfInBounds 0 (.int .i16 ver)) 0 o) v.2
   rw [e1]
   exact TagsR.mod h4 hmm (fun _ f => f.elim) (fun _ f => f.elim)
theorem rf_rule {flexible : Int -> Bool} {ft : FT} {b : Bool} (hf : P.funcs[f]? = some fn) (hN : fn.ntmps = 8) (hres : fn.results = #[.tmp 4])
  (hbody : fn.body = some (.seq (.region i0 #[⟨some 4, .assign (.const .nilIface), y0, p0, e0, none⟩] false) (.seq (.region i1 #[⟨some 5, .move (.tmp 0), y1, p1, e1, none⟩, ⟨some 6, .move (.tmp 1), y2, p2, e2, none⟩,
   ⟨some 7, .call ⟨.value (.func fr), #[.tmp 5, .tmp 6, .const (.bool b)], ts⟩, y3, p3, e3, none⟩, ⟨some 4, .assign (.tmp 7), y4, p4, e4, none⟩] false) .ret)))
  (hr : ReadC P fr σ flexible ft) (hbd : bodied P fr = true) : RFC P f σ flexible ft := by
 intro vb v ver srcv sb bs nil ev w hE hg hvs hsb hC hv0 hsrc hns
 refine calls_of_wp hf hbody ?_
 rw [hN]
 refine wp_act (fun a : Act => Act.get a 0 = .pointer (some ⟨vb, 0, none⟩) /\ Act.get a 1 = srcv /\ a.tmps.size = 8 /\ a.defers = []) ⟨by rw [Zj _ _ _ (by simp)]; rfl, by rw [Zj _ _ _ (by simp)]; rfl, by simp, rfl⟩ ?_
 rintro a ⟨a0, a1, aN, ad⟩
 refine wp_seq (wp_region_lit (Zv rfl Zi (wpList_nil ?_)))
 refine wp_seq (wp_region_lit (Zv rfl Zm (Zv rfl Zm (wpl_call rfl (Zy hbd rfl) (R := fun e w' => ∃ r, e = .returned r /\ Mod (only vb) w w' /\ match ft ver (flexible ver) v ⟨bs, nil, false⟩ with
   | .ok v' s' => r = endErr ev s'.bad /\ Cur σ (fun k => k = sb \/ w.heap.size <= k) vb 0 v' w'
   | .early => r = ev
   | .stuck => False) ?_ ?_))))
 ·have e0 : ∀ a : Act, Act.get a 5 = .pointer (some ⟨vb, 0, none⟩) -> Act.get a 6 = srcv -> (#[Operand.tmp 5, .tmp 6, .const (.bool b)] : Array Operand).map a.eval = #[.pointer (some ⟨vb, 0, none⟩), srcv, .bool b] := fun a h h' => by
   simp [Ze, h, h']
   rfl
  rw [e0 _ ?_ ?_]
  ·exact hr vb v ver b srcv sb bs nil ev w hE hg hvs hsb hC hv0 hsrc hns
  ·simp (disch := first | omega | simp only [Zs]; omega) only [Zo, Ze, Zn, Zq, a0]
  ·simp (disch := first | omega | simp only [Zs]; omega) only [Zo, Ze, Zn, Zq, a1]
 ·rintro e w' ⟨r, rfl, hm, ho⟩
  refine ⟨r, rfl, Zv rfl Zi (wpList_nil (wp_ret (bodyPost_ret (results_tmp hres _ P w') ?_ ⟨_, rfl, hm, ?_⟩)))⟩
  ·simp only [Zd]; exact ad
  ·have er : ∀ a : Act, 4 < a.tmps.size -> 7 < a.tmps.size -> ((a.put (some 7) r).put (some 4) ((a.put (some 7) r).eval (.tmp 7))).tmps.getD 4 undef = r := fun a h h' => by
    show Act.get _ 4 = _
    rw [Zq (by simpa only [Zs] using h), Ze, Zq h']
   have := er (((a.put (some 4) (a.eval (.const .nilIface))).put (some 5) (Act.eval (a.put (some 4) (a.eval (.const .nilIface))) (.tmp 0))).put (some 6) (Act.eval ((a.put (some 4) (a.eval (.const .nilIface))).put (some 5) (Act.eval (a.put (some 4) (a.eval (.const .nilIface))) (.tmp 0))) (.tmp 1))) (by simp only [Zs]; omega) (by simp only [Zs]; omega)
   rw [show (Act.tmps _).getD 4 undef = r from this]
   exact ho
end
end Go.Proofs.YthkpmmjcmldjhaaDoor
set_option linter.unusedSimpArgs false
set_option linter.unusedVariables false
namespace Go.Proofs.YthkpmmjcmldjhaaDoor
open Go Go.RowKit
def intTy (P : Program) (t : TypeId) (k : IntKind) : Bool := match P.underlying t with
 | some (.int k') => k == k'
 | _ => false
theorem intTy_spec {P : Program} {t : TypeId} {k : IntKind} (h : intTy P t k = true) : P.underlying t = some (.int k) := by
 unfold intTy at h
 cases hu : P.underlying t with
 | none => simp [hu] at h
 | some ds => cases ds <;> simp_all
section
variable {P : Program} {ρ : Operand -> Value} {w : World} {d : Option Tmp} {ty : TypeId} {p : String} {af : Array Edge} {g : Option (Nat × Bool)} {ops : Array Oper} {rest : List Oper} {a : Act} {Q : Exit -> Act -> World -> Prop}
theorem x_convInt {x : Operand} {s t : TypeId} {k k' : IntKind} {n : Int} (h1 : intTy P s k = true) (h2 : intTy P t k' = true) (hx : ρ x = .int k n) : (execOp ρ ⟨d, .convert s t x, ty, p, af, g⟩).run P w = .ok (.value (.int k' (k'.wrap n))) w := by
 simp [execOp, hx, convert, run_underlying (intTy_spec h1), run_underlying (intTy_spec h2), Conv.intToInt]
/-- a slice value that holds these octets -/
def Srcs (w : World) (v : Value) (bs : List UInt8) : Prop := (bs = [] /\ ∃ ao cap, v = .slice ao 0 cap) \/ ∃ sb off cap c tc fr, v = .slice (some ⟨sb, off, none⟩) bs.length cap /\ w.heap[sb]? = some (.cells c tc fr) /\ ∀ i (h : i < bs.length), c[off + i]? = some (.int .u8 (bs[i]).toNat)
theorem Srcs.mod {w w' : World} {v : Value} {bs : List UInt8} (h : Srcs w v bs) (hm : Mod none' w w') : Srcs w' v bs := by
 rcases h with h | ⟨sb, off, cap, c, tc, fr, h1, h2, h3⟩
 ·exact .inl h
 ·exact .inr ⟨sb, off, cap, c, tc, fr, h1, hm.some h2 (fun f => f), h3⟩
theorem Srcs.shape {w : World} {v : Value} {bs : List UInt8} (h : Srcs w v bs) : ∃ ao cap, v = .slice ao bs.length cap := by
 rcases h with ⟨rfl, ao, cap, h⟩ | ⟨sb, off, cap, c, tc, fr, h1, h2, h3⟩
 ·exact ⟨ao, cap, h⟩
 ·exact ⟨_, _, h1⟩
theorem wpl_copy {s x : Operand} {t e : Nat} {srcv : Value} {bs : List UInt8} (hI : elemInfo P t e 1 = true) (hs : a.eval s = .slice none 0 0) (hx : a.eval x = srcv) (hsrc : Srcs w srcv bs) (hl : bs.length <= 4294967295)
  (hk : ∀ v' w', Mod none' w w' -> (bs = [] /\ v' = .slice none 0 0 \/ ∃ g, w.heap.size <= g /\ g < w'.heap.size /\ Src w' v' g bs false /\ bs.isEmpty = false) -> wpList P ops Q rest (a.put d v') w') :
  wpList P ops Q (⟨d, .call ⟨.builtin .append, #[s, x], #[t, t]⟩, ty, p, af, none⟩ :: rest) a w := by
 by_cases hb : bs = []
 ·subst hb
  obtain ⟨ao, c, rfl⟩ := hsrc.shape
  obtain ⟨hu, i, z, hi, hz, h2, h3, h4, h5, h6⟩ := elemInfo_spec hI
  refine Zv rfl (v := .slice none 0 0) (w' := w) ?_ (hk _ w (.refl w) (.inl ⟨rfl, rfl⟩))
  cases ao <;> simp [execOp, resolve, invoke, builtin, hs, hx, Builtin.append_, run_underlying hu, sizeOf, typeInfo, hi, Builtin.lenOf, Builtin.firstCells, loadCells, loadCellsFrom]
 ·obtain ⟨sb, off, cap, c, tc, fr, hv, hh, hc⟩ := hsrc.resolve_left (fun h => hb h.1)
  refine wpl_append (e := e) (sz := 1) (base := w.heap.size) (v := .slice none 0 0) (n := 0) (xs := []) (ad := ⟨sb, off, none⟩) (m := bs.length) (c := cap) (news := bs.map fun x => Value.int .u8 x.toNat) hI hs (hx.trans hv) (World.ownsRow_nil _ _ _ _) (by simp) (fun j u hu => by
   rw [Addr.add_mid, Zc hh]
   simp only [List.getElem?_map, Option.map_eq_some_iff] at hu
   obtain ⟨q, hq, rfl⟩ := hu
   obtain ⟨hj, rfl⟩ := List.getElem?_eq_some_iff.1 hq
   exact hc j hj) (fun u hu => by obtain ⟨q, _, rfl⟩ := List.mem_map.1 hu; rfl) (by omega) (Nat.le_refl _) ?_
  intro v' w' ho hm hn _
  refine hk v' w' (hm.mono fun i _ h => by simp [Value.ownBlock] at h) (.inr ?_)
  rcases ho.2 with ⟨h1, h2⟩ | ⟨g, cap', cur, h1, h2, h3, h4, h5, h6, h7⟩
  ·exact (hb (List.eq_nil_of_length_eq_zero (by omega))).elim
  ·refine ⟨g, h2, lt_of_block h3, ?_, by cases bs; exact (hb rfl).elim; rfl⟩
   rw [Nat.zero_add] at h1 h4 h7
   refine .inr ⟨rfl, 0, cap', cur, e, (0, 0), h1, h4, h5, h3, fun i hi => ?_⟩
   have : (cur.toList.take (bs.length * 1))[i]? = (bs.map fun x => Value.int .u8 x.toNat)[i]? := by rw [h7]; simp
   rw [List.getElem?_take, if_pos (by omega), Array.getElem?_toList] at this
   rw [Nat.zero_add, this]
   simp [hi]
end
end Go.Proofs.YthkpmmjcmldjhaaDoor
