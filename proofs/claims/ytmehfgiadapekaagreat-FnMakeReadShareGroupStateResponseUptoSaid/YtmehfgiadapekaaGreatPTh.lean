/-
  The doors: a new message, its version, reading and telling it. No program in it.
  The doors, whole: a new message is read and told. No program in it.
  Tags.Set and internalReadTags.
-/
import Derived.Test.YtmehfgiadapekaaGreatPTelR
import Derived.Test.YtmehfgiadapekaaGreatPTg
set_option linter.unusedSimpArgs false
set_option linter.unusedVariables false
namespace Go.Proofs.YtmehfgiadapekaaGreat
open Go Go.RowKit
/-- its version is set -/
def SetC (P : Program) (f : FuncId) (σ : St) : Prop := ∀ blk v ver w, fits .i16 ver -> Cur σ none' blk 0 v w -> Calls P f #[.pointer (some ⟨blk, 0, none⟩), .int .i16 ver] w fun e w' => ∃ r, e = .returned r /\ Mod (only blk) w w' /\ Cur σ none' blk 0 (v.1.set 0 (.num ver), v.2) w'
section
variable {P : Program} {σ : St} {fn : Func} {f fd fr : FuncId} {T i0 i1 i2 i3 : Nat} {ts : Array TypeId}
 {y0 y1 y2 y3 y4 y5 y6 : TypeId} {p0 p1 p2 p3 p4 p5 p6 : String} {e0 e1 e2 e3 e4 e5 e6 : Array Edge}
theorem set_rule (hf : P.funcs[f]? = some fn) (hN : fn.ntmps = 8) (hres : fn.results = #[])
  (hbody : fn.body = some (.region i0 #[⟨some 4, .move (.tmp 0), y0, p0, e0, none⟩, ⟨some 5, .move (.tmp 1), y1, p1, e1, none⟩, ⟨some 6, .nilCheck (.tmp 4), y2, p2, e2, none⟩, ⟨some 7, .fieldAddr T (.tmp 6) 0, y3, p3, e3, none⟩, ⟨none, .store y5 (.tmp 7) (.tmp 5), y4, p4, e4, none⟩] false))
  (hver : fieldOff P T 0 = some 0) (hsz : sized P y5 1 = true) (hlay : σ.lay.at 0 = some (0, .int .i16)) (hok : σ.lay.ok 0 σ.sz = true) (htg : TagIn σ.tg σ.sz = true) (htg0 : σ.tg ≠ some 0) : SetC P f σ := by
 intro blk v ver w hfit hC
 obtain ⟨C, t, h1, h2, h3, h4⟩ := hC.mem
 have hin := Lay.at_in _ _ _ _ _ _ hok hlay
 simp only [Ty.size] at hin
 have h0C : 0 < C.size := by omega
 refine calls_of_wp hf hbody ?_
 rw [hN]
 refine wp_act (fun a : Act => Act.get a 0 = .pointer (some ⟨blk, 0, none⟩) /\ Act.get a 1 = .int .i16 ver /\ a.tmps.size = 8 /\ a.defers = []) ⟨by rw [Zj _ _ _ (by simp)]; rfl, by rw [Zj _ _ _ (by simp)]; rfl, by simp, rfl⟩ ?_
 rintro a ⟨a0, a1, aN, ad⟩
 refine wp_region_lit (Zv rfl Zm (Zv rfl Zm (Zv rfl (x_nilCheck (q := ⟨blk, 0, none⟩) ?_) (Zv rfl (Za hver (b := blk) (o0 := 0) ?_) (wpl_skip rfl (x_store1 hsz (b := blk) (o := 0 + 0) (v := .int .i16 ver) (u := C[0]) ?_ ?_ rfl ?_ ?_) (wpList_nil ?_))))))
 ·simp (disch := first | omega | simp only [Zs]; omega) only [Zo, Ze, Zn, Zq, a0]
 ·simp (disch := first | omega | simp only [Zs]; omega) only [Zo, Ze, Zn, Zq]
 ·simp (disch := first | omega | simp only [Zs]; omega) only [Zo, Ze, Zn, Zq]
 ·simp (disch := first | omega | simp only [Zs]; omega) only [Zo, Ze, Zn, Zq, a1]
 ·rw [Zc h1]; exact Array.getElem?_eq_getElem h0C
 ·exact Zz h1
 refine ⟨?_, .tuple #[], by simp [results, hres], _, rfl, (Mod.refl w).put _ _, ⟨C.setIfInBounds 0 (.int .i16 ver), t, heap_setCell_same h1 _, by simpa using h2, ?_, ?_⟩⟩
 ·simp only [Zd]; exact ad
 ·have hmm : Mod (only blk) w (w.setCell ⟨blk, 0 + 0, none⟩ (.int .i16 ver)) := (Mod.refl w).put _ _
  refine RepL.set σ.lay 0 σ.sz 0 0 (.int .i16) (from' C 0) _ v.1 (.num ver) hok hlay (fun j h1 h2 h3 => ?_) ?_ (h3.mod hmm (fun _ f => f.elim) (fun _ f => f.elim))
  ·simp only [Ty.size] at h3
   simp only [from', Nat.zero_add, Array.getD_eq_getD_getElem?]
   rw [Array.getElem?_setIfInBounds_ne (by omega)]
  ·refine ⟨ver, ?_, hfit, rfl⟩
   simp [from', h0C]
 ·have hmm : Mod (only blk) w (w.setCell ⟨blk, 0 + 0, none⟩ (.int .i16 ver)) := (Mod.refl w).put _ _
  cases hg : σ.tg with
  | none => rw [hg] at h4; exact h4
  | some o =>
   rw [hg] at h4
   have ho : 0 ≠ o := fun e => htg0 (by rw [hg, <- e])
   have e1 : from' (C.setIfInBounds 0 (.int .i16 ver)) 0 o = from' C 0 o := by
    simp only [from', Nat.zero_add, Array.getD_eq_getD_getElem?]
    rw [Array.getElem?_setIfInBounds_ne ho]
   show TagsR _ _ (from' (C.setIfInBounds 0 (.int .i16 ver)) 0 o) v.2
   rw [e1]
   exact TagsR.mod h4 hmm (fun _ f => f.elim) (fun _ f => f.elim)
end
end Go.Proofs.YtmehfgiadapekaaGreat
set_option linter.unusedSimpArgs false
set_option linter.unusedVariables false
namespace Go.Proofs.YtmehfgiadapekaaGreat
open Go Go.RowKit
def intTy (P : Program) (t : TypeId) (k : IntKind) : Bool := match P.underlying t with
 | some (.int k') => k == k'
 | _ => false
theorem intTy_spec {P : Program} {t : TypeId} {k : IntKind} (h : intTy P t k = true) : P.underlying t = some (.int k) := by
 unfold intTy at h
 cases hu : P.underlying t with
 | none => simp [hu] at h
 | some ds => cases ds <;> simp_all
section
variable {P : Program} {ρ : Operand -> Value} {w : World} {d : Option Tmp} {ty : TypeId} {p : String} {af : Array Edge} {g : Option (Nat × Bool)} {ops : Array Oper} {rest : List Oper} {a : Act} {Q : Exit -> Act -> World -> Prop}
theorem x_convInt {x : Operand} {s t : TypeId} {k k' : IntKind} {n : Int} (h1 : intTy P s k = true) (h2 : intTy P t k' = true) (hx : ρ x = .int k n) : (execOp ρ ⟨d, .convert s t x, ty, p, af, g⟩).run P w = .ok (.value (.int k' (k'.wrap n))) w := by
 simp [execOp, hx, convert, run_underlying (intTy_spec h1), run_underlying (intTy_spec h2), Conv.intToInt]
/-- a slice value that holds these octets -/
def Srcs (w : World) (v : Value) (bs : List UInt8) : Prop := (bs = [] /\ ∃ ao cap, v = .slice ao 0 cap) \/ ∃ sb off cap c tc fr, v = .slice (some ⟨sb, off, none⟩) bs.length cap /\ w.heap[sb]? = some (.cells c tc fr) /\ ∀ i (h : i < bs.length), c[off + i]? = some (.int .u8 (bs[i]).toNat)
theorem Srcs.mod {w w' : World} {v : Value} {bs : List UInt8} (h : Srcs w v bs) (hm : Mod none' w w') : Srcs w' v bs := by
 rcases h with h | ⟨sb, off, cap, c, tc, fr, h1, h2, h3⟩
 ·exact .inl h
 ·exact .inr ⟨sb, off, cap, c, tc, fr, h1, hm.some h2 (fun f => f), h3⟩
theorem Srcs.shape {w : World} {v : Value} {bs : List UInt8} (h : Srcs w v bs) : ∃ ao cap, v = .slice ao bs.length cap := by
 rcases h with ⟨rfl, ao, cap, h⟩ | ⟨sb, off, cap, c, tc, fr, h1, h2, h3⟩
 ·exact ⟨ao, cap, h⟩
 ·exact ⟨_, _, h1⟩
end
end Go.Proofs.YtmehfgiadapekaaGreat
set_option linter.unusedSimpArgs false
set_option linter.unusedVariables false
namespace Go.Proofs.YtmehfgiadapekaaGreat
open Go Go.RowKit
section
variable {P : Program} {ρ : Operand -> Value} {w : World} {d : Option Tmp} {ty : TypeId} {p : String} {af : Array Edge} {g : Option (Nat × Bool)}
theorem x_eqlMap {x : Operand} {t u : TypeId} {m : Option Nat} (ht : isMap32 P t = true) (hρ : ∀ v, ρ (.const v) = v) (hx : ρ x = .map m) : (execOp ρ ⟨d, .binOp .eql t x (.const (.map none)) u, ty, p, af, g⟩).run P w = .ok (.value (.bool m.isNone)) w := by
 obtain ⟨kt, et, hu, _⟩ := isMap32_spec ht
 have he : (Op.equal t (.map m) (.map none)).run P w = .ok m.isNone w := by
  show (Op.equalIn (9999 + 1) t (.map m) (.map none)).run P w = _
  rw [Op.equalIn]
  simp only [Sem.run_bind, run_underlying hu, Result.andThen_ok]
  cases m <;> rfl
 simp [execOp, hx, hρ, eqGuard, binOp, he]
theorem x_makeMap {t : TypeId} : (execOp ρ ⟨d, .makeMap t none, ty, p, af, g⟩).run P w = .ok (.value (.map (some w.heap.size))) (w.alloc (.map #[] 0)) := by
 simp [execOp, run_makeMap]
theorem x_mapUpdate {x y z : Operand} {t : TypeId} {mv kv v : Value} {w' : World} (hx : ρ x = mv) (hy : ρ y = kv) (hz : ρ z = v) (h : (Instr.mapUpdate t mv kv v).run P w = .ok () w') :
  (execOp ρ ⟨d, .mapUpdate t x y z, ty, p, af, g⟩).run P w = .ok .skip w' := by
 simp [execOp, hx, hy, hz, h]
theorem x_sub {x y : Operand} {t u : TypeId} {k : IntKind} {m n : Int} (hx : ρ x = .int k m) (hy : ρ y = .int k n) : (execOp ρ ⟨d, .binOp .sub t x y u, ty, p, af, g⟩).run P w = .ok (.value (.int k (k.wrap (m - n)))) w := by
 simp [execOp, hx, hy, eqGuard, binOp, Op.intArith]
end
/-- what setting a tag does -/
def SetTagC (P : Program) (f : FuncId) : Prop := ∀ (w : World) (tb off : Nat) (C : Array Value) (t : TypeId) (F : Nat -> Prop) (mv : Value) (u : Tags) (k : Int) (v : Value) (bs : List UInt8) (nil : Bool), w.heap[tb]? = some (.cells C t (0, 0)) -> C[off]? = some mv -> TagsR w F mv u -> ¬ F tb -> F w.heap.size ->
 (0 <= k /\ k < 4294967296) -> Oct w F v bs nil -> u.length < 4294967295 -> bs.length <= 4294967295 -> Calls P f #[.pointer (some ⟨tb, off, none⟩), .int .u32 k, v] w fun e w' => ∃ r', e = .returned r' /\ ∃ r, F r /\ (mv = .map (some r) \/ (mv = .map none /\ r = w.heap.size)) /\ Mod (fun b => b = tb \/ b = r) w w' /\
  (∃ C', w'.heap[tb]? = some (.cells C' t (0, 0)) /\ C'.size = C.size /\ C'[off]? = some (.map (some r)) /\ ∀ j, j ≠ off -> C'[j]? = C[j]?) /\ MapAt w' F r (setTag u k bs)
theorem TagsR.split {w : World} {F : Nat -> Prop} {mv : Value} {u : Tags} (h : TagsR w F mv u) : (mv = .map none /\ u = []) \/ ∃ r, F r /\ mv = .map (some r) /\ MapAt w F r u := by
 rcases h with h | ⟨r, es, clock, h1, h2, h3, h4⟩
 ·exact .inl h
 ·exact .inr ⟨r, h1, h2, es, clock, h3, h4⟩
theorem tagTypes : (fieldOff Tryz.prog 55 0 = some 0) /\ one Tryz.prog 53 = true /\ isMap32 Tryz.prog 53 = true /\ sized Tryz.prog 53 1 = true := ⟨by kernel_rfl, by kernel_rfl, by kernel_rfl, by kernel_rfl⟩
theorem setTag_spec : SetTagC Tryz.prog 41 := by
 intro w tb off C t F mv u k v bs nil hb hc hT htb hfr hk hv hlen hbl
 have hoC : off < C.size := (Array.getElem?_eq_some_iff.1 hc).1
 have hcell : w.cell? ⟨tb, off + 0, none⟩ = some mv := by rw [Zc hb]; exact hc
 refine calls_of_wp Tryz.func41 rfl ?_
 rw [Tryz.ntmps41]
 refine wp_act (fun a : Act => Act.get a 0 = .pointer (some ⟨tb, off, none⟩) /\ Act.get a 1 = .int .u32 k /\ Act.get a 2 = v /\ a.tmps.size = 21 /\ a.defers = []) ⟨by rw [Zj _ _ _ (by simp)]; rfl, by rw [Zj _ _ _ (by simp)]; rfl, by rw [Zj _ _ _ (by simp)]; rfl, by simp, rfl⟩ ?_
 rintro a ⟨a0, a1, a2, aN, ad⟩
 obtain ⟨m, hm⟩ : ∃ m, mv = .map m := by rcases hT.split with ⟨h, _⟩ | ⟨r, _, h, _⟩ <;> exact ⟨_, h⟩
 obtain ⟨hF0, h1, hM, hS⟩ := tagTypes
 refine wp_seq (wp_mono (Q := fun e a w1 => e = .normal /\ Act.get a 0 = .pointer (some ⟨tb, off, none⟩) /\ Act.get a 1 = .int .u32 k /\ Act.get a 2 = v /\ a.tmps.size = 21 /\ a.defers = [] /\ ∃ r C1, w1.heap[tb]? = some (.cells C1 t (0, 0)) /\ C1.size = C.size /\ C1[off]? = some (.map (some r)) /\ (∀ j, j ≠ off -> C1[j]? = C[j]?) /\
   Mod (fun b => b = tb \/ b = r) w w1 /\ F r /\ (mv = .map (some r) \/ (mv = .map none /\ r = w.heap.size)) /\ MapAt w1 F r u /\ Oct w1 F v bs nil) ?_ ?_)
 ·refine wp_seq (wp_region_lit (Zv rfl Zm (Zv rfl (x_nilCheck (q := ⟨tb, off, none⟩) ?_) (Zv rfl (Za hF0 (b := tb) (o0 := off) ?_) (Zv rfl (Zl h1 (b := tb) (o := off + 0) ?_ hcell) (Zv rfl (x_eqlMap (m := m) hM (fun _ => rfl) ?_) (wpList_nil ?_)))))))
  ·simp (disch := first | omega | simp only [Zs]; omega) only [Zo, Ze, Zn, Zq, a0]
  ·simp (disch := first | omega | simp only [Zs]; omega) only [Zo, Ze, Zn, Zq]
  ·simp (disch := first | omega | simp only [Zs]; omega) only [Zo, Ze, Zn, Zq]
  ·simp (disch := first | omega | simp only [Zs]; omega) only [Zo, Ze, Zn, Zq, hm]
  refine wp_act (fun a : Act => Act.get a 0 = .pointer (some ⟨tb, off, none⟩) /\ Act.get a 1 = .int .u32 k /\ Act.get a 2 = v /\ Act.get a 10 = .bool m.isNone /\ a.tmps.size = 21 /\ a.defers = []) ⟨?_, ?_, ?_, ?_, ?_, ?_⟩ ?_
  ·simp (disch := first | omega | simp only [Zs]; omega) only [Zo, Ze, Zn, Zq, a0]
  ·simp (disch := first | omega | simp only [Zs]; omega) only [Zo, Ze, Zn, Zq, a1]
  ·simp (disch := first | omega | simp only [Zs]; omega) only [Zo, Ze, Zn, Zq, a2]
  ·simp (disch := first | omega | simp only [Zs]; omega) only [Zo, Ze, Zn, Zq]
  ·simp only [Zs]; exact aN
  ·simp only [Zd]; exact ad
  clear a0 a1 a2 aN ad
  rintro a ⟨a0, a1, a2, a10, aN, ad⟩
  rcases hT.split with ⟨hmv, hu⟩ | ⟨r, hr, hmv, hMA⟩
  ·have hmn : m = none := by rw [hm] at hmv; simpa using hmv
   subst hmn
   refine wp_cond_true (by rw [Ze]; exact a10) (wp_region_lit (Zv rfl Zm (Zv rfl x_makeMap (Zv rfl (x_nilCheck (q := ⟨tb, off, none⟩) ?_) (Zv rfl (Za hF0 (b := tb) (o0 := off) ?_) ?_)))))
   ·simp (disch := first | omega | simp only [Zs]; omega) only [Zo, Ze, Zn, Zq, a0]
   ·simp (disch := first | omega | simp only [Zs]; omega) only [Zo, Ze, Zn, Zq]
   have hw1 : Mod none' w (w.alloc (.map #[] 0)) := (Mod.refl w).alloc _
   have hMA := mapAt_new w F
   have hb1 := hw1.some hb (fun f => f)
   have htl : tb < w.heap.size := lt_of_block hb
   have hs1 : (w.alloc (.map #[] 0)).heap.size = w.heap.size + 1 := by simp
   have hv1 := hv.mod (F' := F) hw1 (fun _ _ f => f) (fun _ h => h)
   generalize w.alloc (.map #[] 0) = w1 at *
   refine wpl_skip rfl (x_store1 hS (b := tb) (o := off + 0) (v := .map (some w.heap.size)) (u := mv) ?_ ?_ rfl (by rw [Zc hb1]; exact hc) (Zz hb1)) (wpList_nil ?_)
   ·simp (disch := first | omega | simp only [Zs]; omega) only [Zo, Ze, Zn, Zq]
   ·simp (disch := first | omega | simp only [Zs]; omega) only [Zo, Ze, Zn, Zq]
   have hm2 : Mod (only tb) w1 (w1.setCell ⟨tb, off + 0, none⟩ (.map (some w.heap.size))) := (Mod.refl w1).put _ _
   refine ⟨rfl, ?_, ?_, ?_, ?_, ?_, w.heap.size, C.setIfInBounds (off + 0) (.map (some w.heap.size)), heap_setCell_same hb1 _, by simp, by simp [hoC], fun j hj => by rw [Array.getElem?_setIfInBounds_ne (by omega)], hw1.none.trans (hm2.mono fun _ _ e => .inl e), hfr, .inr ⟨hmv, rfl⟩, ?_, ?_⟩
   ·simp (disch := first | omega | simp only [Zs]; omega) only [Zo, Ze, Zn, Zq, a0]
   ·simp (disch := first | omega | simp only [Zs]; omega) only [Zo, Ze, Zn, Zq, a1]
   ·simp (disch := first | omega | simp only [Zs]; omega) only [Zo, Ze, Zn, Zq, a2]
   ·simp only [Zo, Zs]; exact aN
   ·simp only [Zo, Zd]; exact ad
   ·obtain ⟨es, clock, q1, q2, q3, q4, kb, q5, q6, q7, q8⟩ := hMA
    rw [hu]
    have hkb : kb = [] := by simpa using q5
    subst hkb
    exact ⟨es, clock, hm2.some q1 (fun e => by have : w.heap.size = tb := e; omega), q2, q3, q4, [], q5, q6, q7, fun i hi => by simp at hi⟩
   ·exact hv1.mod hm2 (fun q hq e => htb (by have e' : q = tb := e; rw [<- e']; exact hq)) (fun _ h => h)
  ·have hmn : m = some r := by rw [hm] at hmv; simpa using hmv
   subst hmn
   refine wp_cond_false (by rw [Ze]; exact a10) (wp_skip ⟨rfl, a0, a1, a2, aN, ad, r, C, hb, rfl, by rw [hc, hmv], fun _ _ => rfl, .refl w, hr, .inl hmv, hMA, hv⟩)
 clear a0 a1 a2 aN ad hcell
 rintro e a w1 ⟨rfl, a0, a1, a2, aN, ad, r, C1, hb1, hsz, hc1, hout, hmod, hFr, hwhich, hMA, hv1⟩
 obtain ⟨w2, hrun, hm2, hMA2⟩ := run_mapSet (P := Tryz.prog) (t := 53) hM hMA hk hv1 hlen hbl
 refine wp_region_lit (Zv rfl Zm (Zv rfl (x_nilCheck (q := ⟨tb, off, none⟩) ?_) (Zv rfl (Za hF0 (b := tb) (o0 := off) ?_) (Zv rfl (Zl h1 (b := tb) (o := off + 0) (v := .map (some r)) ?_ (by rw [Zc hb1]; exact hc1)) (Zv rfl Zm (Zv rfl Zm (wpl_skip rfl (x_mapUpdate ?_ ?_ ?_ hrun) (wpList_nil ?_))))))))
 ·simp (disch := first | omega | simp only [Zs]; omega) only [Zo, Ze, Zn, Zq, a0]
 ·simp (disch := first | omega | simp only [Zs]; omega) only [Zo, Ze, Zn, Zq]
 ·simp (disch := first | omega | simp only [Zs]; omega) only [Zo, Ze, Zn, Zq]
 ·simp (disch := first | omega | simp only [Zs]; omega) only [Zo, Ze, Zn, Zq]
 ·simp (disch := first | omega | simp only [Zs]; omega) only [Zo, Ze, Zn, Zq, a1]
 ·simp (disch := first | omega | simp only [Zs]; omega) only [Zo, Ze, Zn, Zq, a2]
 have hrt : r ≠ tb := fun e => htb (e ▸ hFr)
 refine ⟨?_, .tuple #[], by simp [results, Tryz.results41], _, rfl, r, hFr, hwhich, hmod.trans (hm2.mono fun _ _ e => .inr e), ⟨C1, hm2.some hb1 (fun e => hrt (Eq.symm e)), hsz, hc1, hout⟩, hMA2⟩
 simp only [Zo, Zd]; exact ad
end Go.Proofs.YtmehfgiadapekaaGreat
