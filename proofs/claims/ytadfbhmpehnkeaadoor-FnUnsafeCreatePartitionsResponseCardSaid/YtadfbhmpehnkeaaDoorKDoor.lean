/-
  The doors: a new message, its version, reading and telling it. No program in it.
-/
import Derived.Test.YtadfbhmpehnkeaaDoorKTelR
set_option linter.unusedSimpArgs false
set_option linter.unusedVariables false
namespace Go.Proofs.YtadfbhmpehnkeaaDoor
open Go Go.RowKit

/-- an interface type -/
def isIface (P : Program) (t : TypeId) : Bool := match P.underlying t with
  | some (.interface _) => true
  | _ => false
theorem isIface_spec {P : Program} {t : TypeId} (h : isIface P t = true) : ∃ ms, P.underlying t = some (.interface ms) := by
  unfold isIface at h
  cases hu : P.underlying t with
  | none => simp [hu] at h
  | some ds => cases ds <;> simp_all
section
variable {P : Program} {ρ : Operand → Value} {w : World} {d : Option Tmp} {ty : TypeId} {p : String} {af : Array Edge} {g : Option (Nat × Bool)}
theorem x_neqNil {x : Operand} {t u : TypeId} {v : Value} {b : Bool} (ht : isIface P t = true) (hρ : ∀ v, ρ (.const v) = v) (hx : ρ x = v) (hv : (b = true ∧ ∃ tx vx, v = .iface tx vx) ∨ (b = false ∧ v = .nilIface)) :
    (execOp ρ ⟨d, .binOp .neq t x (.const .nilIface) u, ty, p, af, g⟩).run P w = .ok (.value (.bool b)) w := by
  obtain ⟨ms, hu⟩ := isIface_spec ht
  rcases hv with ⟨rfl, tx, vx, rfl⟩ | ⟨rfl, rfl⟩
  · have he : (Op.equal t (.iface tx vx) .nilIface).run P w = .ok false w := by
      show (Op.equalIn (9999 + 1) t (.iface tx vx) .nilIface).run P w = _
      rw [Op.equalIn]
      simp only [Sem.run_bind, run_underlying hu, Result.andThen_ok]
      rfl
    simp [execOp, hx, hρ, eqGuard, binOp, he]
  · have he : (Op.equal t .nilIface .nilIface).run P w = .ok true w := by
      show (Op.equalIn (9999 + 1) t .nilIface .nilIface).run P w = _
      rw [Op.equalIn]
      simp only [Sem.run_bind, run_underlying hu, Result.andThen_ok]
      rfl
    simp [execOp, hx, hρ, eqGuard, binOp, he]
end

/-- a new message: what it is at first -/
def NewC (P : Program) (f : FuncId) (σ : St) (v : SV) : Prop := ∀ w, Calls P f #[] w fun e w' => e = .returned (.pointer (some ⟨w.heap.size, 0, none⟩)) ∧ Mod none' w w' ∧ w.heap.size < w'.heap.size ∧ Cur σ none' w.heap.size 0 v w'
/-- its version is set -/
def SetC (P : Program) (f : FuncId) (σ : St) : Prop := ∀ blk v ver w, fits .i16 ver → Cur σ none' blk 0 v w → Calls P f #[.pointer (some ⟨blk, 0, none⟩), .int .i16 ver] w fun e w' => ∃ r, e = .returned r ∧ Mod (only blk) w w' ∧ Cur σ none' blk 0 (v.1.set 0 (.num ver), v.2) w'
/-- it is read -/
def RFC (P : Program) (f : FuncId) (σ : St) (flexible : Int → Bool) (ft : FT) : Prop :=
  ∀ vb v ver srcv sb bs nil ev w, ErrIs w ev → vb ≠ gErr → vb ≠ sb → sb < w.heap.size → Cur σ none' vb 0 v w → v.1[0]? = some (.num ver) → Src w srcv sb bs nil → ft ver (flexible ver) v ⟨bs, nil, false⟩ ≠ .stuck →
    Calls P f #[.pointer (some ⟨vb, 0, none⟩), srcv] w fun e w' => ∃ r, e = .returned r ∧ Mod (only vb) w w' ∧ match ft ver (flexible ver) v ⟨bs, nil, false⟩ with
      | .ok v' s' => r = endErr ev s'.bad ∧ Cur σ (fun k => k = sb ∨ w.heap.size ≤ k) vb 0 v' w'
      | .early => r = ev
      | .stuck => False

section
variable {P : Program} {σ : St} {fn : Func} {f fd fr : FuncId} {T i0 i1 i2 i3 : Nat} {ts : Array TypeId}
  {y0 y1 y2 y3 y4 y5 y6 : TypeId} {p0 p1 p2 p3 p4 p5 p6 : String} {e0 e1 e2 e3 e4 e5 e6 : Array Edge}

theorem new_rule {d : SV → SV} {v0 : SV} {z : Value} (hf : P.funcs[f]? = some fn) (hN : fn.ntmps = 3) (hres : fn.results = #[.tmp 0])
    (hbody : fn.body = some (.seq (.region i0 #[⟨some 0, .assign (.const (.pointer none)), y0, p0, e0, none⟩] false) (.seq (.region i1 #[⟨some 1, .alloc T, y1, p1, e1, none⟩] false)
      (.seq (.region i2 #[⟨some 2, .call ⟨.value (.func fd), #[.tmp 1], ts⟩, y2, p2, e2, none⟩] false) (.seq (.region i3 #[⟨some 0, .assign (.tmp 1), y3, p3, e3, none⟩] false) .ret)))))
    (hz : zeroOf P T = some z) (hzs : σ.sz ≤ z.cells.size) (h0 : ∀ w, RepL w none' σ.lay (from' z.cells 0) v0.1 ∧ (match σ.tg with | some o => TagsR w none' (from' z.cells 0 o) v0.2 | none => v0.2 = []))
    (hd : DfC P fd σ d) (hbd : bodied P fd = true) : NewC P f σ (d v0) := by
  intro w
  refine calls_of_wp hf hbody ?_
  rw [hN]
  refine wp_act (fun a : Act => a.tmps.size = 3 ∧ a.defers = []) ⟨by simp, rfl⟩ ?_
  rintro a ⟨aN, ad⟩
  refine wp_seq (wp_region_lit (wpl_val rfl x_assign (wpList_nil ?_)))
  refine wp_seq (wp_region_lit (wpl_val rfl (x_alloc hz) (wpList_nil ?_)))
  have hb1 := heap_alloc_new w (.cells z.cells T)
  have hm1 : Mod none' w (w.alloc (.cells z.cells T)) := (Mod.refl w).alloc _
  have hs1 : (w.alloc (.cells z.cells T)).heap.size = w.heap.size + 1 := by simp
  generalize w.alloc (.cells z.cells T) = w1 at *
  have hC : Cur σ none' w.heap.size 0 v0 w1 := ⟨⟨z.cells, T, hb1, by omega, (h0 w1).1, (h0 w1).2⟩⟩
  refine wp_seq (wp_region_lit (wpl_call rfl (x_callf hbd rfl) (R := fun e w' => (∃ r, e = .returned r) ∧ Mod (only w.heap.size) w1 w' ∧ Cur σ none' w.heap.size 0 (d v0) w' ∧
    ∀ C t, w1.heap[w.heap.size]? = some (.cells C t (0, 0)) → ∃ C', w'.heap[w.heap.size]? = some (.cells C' t (0, 0)) ∧ C'.size = C.size ∧ ∀ j, j < 0 ∨ 0 + σ.sz ≤ j → C'[j]? = C[j]?) ?_ ?_))
  · have e0 : ∀ a : Act, Act.get a 1 = .pointer (some ⟨w.heap.size, 0, none⟩) → (#[Operand.tmp 1] : Array Operand).map a.eval = #[.pointer (some ⟨w.heap.size, 0, none⟩)] := fun a h => by simp [eval_tmp, h]
    rw [e0 _ (by rw [Act.get_put_eq (by simp only [Act.size_put]; omega)])]
    exact hd none' _ 0 v0 w1 hC (fun _ f => f.elim)
  rintro e w2 ⟨⟨r, rfl⟩, hm2, hC2, _⟩
  refine ⟨r, rfl, wpList_nil (wp_seq (wp_region_lit (wpl_val rfl x_assign (wpList_nil (wp_ret (bodyPost_ret (results_tmp hres _ P w2) ?_ ⟨?_, ?_, ?_, hC2⟩))))))⟩
  · simp only [Act.defers_put]; exact ad
  · show Ending.returned (Act.get _ 0) = _
    simp (disch := (first | omega | (simp only [Act.size_put]; omega))) only [Act.put_none, eval_tmp, Act.get_put_ne, Act.get_put_eq]
  · exact hm1.trans' hm2 (fun _ _ f => f) (fun i hi e => by have : i = w.heap.size := e; omega)
  · have := hm2.size; omega

theorem set_rule (hf : P.funcs[f]? = some fn) (hN : fn.ntmps = 8) (hres : fn.results = #[])
    (hbody : fn.body = some (.region i0 #[⟨some 4, .move (.tmp 0), y0, p0, e0, none⟩, ⟨some 5, .move (.tmp 1), y1, p1, e1, none⟩, ⟨some 6, .nilCheck (.tmp 4), y2, p2, e2, none⟩, ⟨some 7, .fieldAddr T (.tmp 6) 0, y3, p3, e3, none⟩, ⟨none, .store y5 (.tmp 7) (.tmp 5), y4, p4, e4, none⟩] false))
    (hver : fieldOff P T 0 = some 0) (hsz : sized P y5 1 = true) (hlay : σ.lay.at 0 = some (0, .int .i16)) (hok : σ.lay.ok 0 σ.sz = true) (htg : TagIn σ.tg σ.sz = true) (htg0 : σ.tg ≠ some 0) : SetC P f σ := by
  intro blk v ver w hfit hC
  obtain ⟨C, t, h1, h2, h3, h4⟩ := hC.mem
  have hin := Lay.at_in _ _ _ _ _ _ hok hlay
  simp only [Ty.size] at hin
  have h0C : 0 < C.size := by omega
  refine calls_of_wp hf hbody ?_
  rw [hN]
  refine wp_act (fun a : Act => Act.get a 0 = .pointer (some ⟨blk, 0, none⟩) ∧ Act.get a 1 = .int .i16 ver ∧ a.tmps.size = 8 ∧ a.defers = []) ⟨by rw [get_nil_args _ _ _ (by simp)]; rfl, by rw [get_nil_args _ _ _ (by simp)]; rfl, by simp, rfl⟩ ?_
  rintro a ⟨a0, a1, aN, ad⟩
  refine wp_region_lit (wpl_val rfl x_move (wpl_val rfl x_move (wpl_val rfl (x_nilCheck (q := ⟨blk, 0, none⟩) ?_) (wpl_val rfl (x_fieldAddr hver (b := blk) (o0 := 0) ?_) (wpl_skip rfl (x_store1 hsz (b := blk) (o := 0 + 0) (v := .int .i16 ver) (u := C[0]) ?_ ?_ rfl ?_ ?_) (wpList_nil ?_))))))
  · simp (disch := (first | omega | (simp only [Act.size_put]; omega))) only [Act.put_none, eval_tmp, Act.get_put_ne, Act.get_put_eq, a0]
  · simp (disch := (first | omega | (simp only [Act.size_put]; omega))) only [Act.put_none, eval_tmp, Act.get_put_ne, Act.get_put_eq]
  · simp (disch := (first | omega | (simp only [Act.size_put]; omega))) only [Act.put_none, eval_tmp, Act.get_put_ne, Act.get_put_eq]
  · simp (disch := (first | omega | (simp only [Act.size_put]; omega))) only [Act.put_none, eval_tmp, Act.get_put_ne, Act.get_put_eq, a1]
  · rw [cell_of_heap h1]; exact Array.getElem?_eq_getElem h0C
  · exact frozen_of_heap h1
  refine ⟨?_, .tuple #[], by simp [results, hres], _, rfl, (Mod.refl w).put _ _, ⟨C.setIfInBounds 0 (.int .i16 ver), t, heap_setCell_same h1 _, by simpa using h2, ?_, ?_⟩⟩
  · simp only [Act.defers_put]; exact ad
  · have hmm : Mod (only blk) w (w.setCell ⟨blk, 0 + 0, none⟩ (.int .i16 ver)) := (Mod.refl w).put _ _
    refine RepL.set σ.lay 0 σ.sz 0 0 (.int .i16) (from' C 0) _ v.1 (.num ver) hok hlay (fun j h1 h2 h3 => ?_) ?_ (h3.mod hmm (fun _ f => f.elim) (fun _ f => f.elim))
    · simp only [Ty.size] at h3
      simp only [from', Nat.zero_add, Array.getD_eq_getD_getElem?]
      rw [Array.getElem?_setIfInBounds_ne (by omega)]
    · refine ⟨ver, ?_, hfit, rfl⟩
      simp [from', h0C]
  · have hmm : Mod (only blk) w (w.setCell ⟨blk, 0 + 0, none⟩ (.int .i16 ver)) := (Mod.refl w).put _ _
    cases hg : σ.tg with
    | none => rw [hg] at h4; exact h4
    | some o =>
      rw [hg] at h4
      have ho : 0 ≠ o := fun e => htg0 (by rw [hg, ← e])
      have e1 : from' (C.setIfInBounds 0 (.int .i16 ver)) 0 o = from' C 0 o := by
        simp only [from', Nat.zero_add, Array.getD_eq_getD_getElem?]
        rw [Array.getElem?_setIfInBounds_ne ho]
      show TagsR _ _ (from' (C.setIfInBounds 0 (.int .i16 ver)) 0 o) v.2
      rw [e1]
      exact TagsR.mod h4 hmm (fun _ f => f.elim) (fun _ f => f.elim)

theorem rf_rule {flexible : Int → Bool} {ft : FT} {b : Bool} (hf : P.funcs[f]? = some fn) (hN : fn.ntmps = 8) (hres : fn.results = #[.tmp 4])
    (hbody : fn.body = some (.seq (.region i0 #[⟨some 4, .assign (.const .nilIface), y0, p0, e0, none⟩] false) (.seq (.region i1 #[⟨some 5, .move (.tmp 0), y1, p1, e1, none⟩, ⟨some 6, .move (.tmp 1), y2, p2, e2, none⟩,
      ⟨some 7, .call ⟨.value (.func fr), #[.tmp 5, .tmp 6, .const (.bool b)], ts⟩, y3, p3, e3, none⟩, ⟨some 4, .assign (.tmp 7), y4, p4, e4, none⟩] false) .ret)))
    (hr : ReadC P fr σ flexible ft) (hbd : bodied P fr = true) : RFC P f σ flexible ft := by
  intro vb v ver srcv sb bs nil ev w hE hg hvs hsb hC hv0 hsrc hns
  refine calls_of_wp hf hbody ?_
  rw [hN]
  refine wp_act (fun a : Act => Act.get a 0 = .pointer (some ⟨vb, 0, none⟩) ∧ Act.get a 1 = srcv ∧ a.tmps.size = 8 ∧ a.defers = []) ⟨by rw [get_nil_args _ _ _ (by simp)]; rfl, by rw [get_nil_args _ _ _ (by simp)]; rfl, by simp, rfl⟩ ?_
  rintro a ⟨a0, a1, aN, ad⟩
  refine wp_seq (wp_region_lit (wpl_val rfl x_assign (wpList_nil ?_)))
  refine wp_seq (wp_region_lit (wpl_val rfl x_move (wpl_val rfl x_move (wpl_call rfl (x_callf hbd rfl) (R := fun e w' => ∃ r, e = .returned r ∧ Mod (only vb) w w' ∧ match ft ver (flexible ver) v ⟨bs, nil, false⟩ with
      | .ok v' s' => r = endErr ev s'.bad ∧ Cur σ (fun k => k = sb ∨ w.heap.size ≤ k) vb 0 v' w'
      | .early => r = ev
      | .stuck => False) ?_ ?_))))
  · have e0 : ∀ a : Act, Act.get a 5 = .pointer (some ⟨vb, 0, none⟩) → Act.get a 6 = srcv → (#[Operand.tmp 5, .tmp 6, .const (.bool b)] : Array Operand).map a.eval = #[.pointer (some ⟨vb, 0, none⟩), srcv, .bool b] := fun a h h' => by
      simp [eval_tmp, h, h']
      rfl
    rw [e0 _ ?_ ?_]
    · exact hr vb v ver b srcv sb bs nil ev w hE hg hvs hsb hC hv0 hsrc hns
    · simp (disch := (first | omega | (simp only [Act.size_put]; omega))) only [Act.put_none, eval_tmp, Act.get_put_ne, Act.get_put_eq, a0]
    · simp (disch := (first | omega | (simp only [Act.size_put]; omega))) only [Act.put_none, eval_tmp, Act.get_put_ne, Act.get_put_eq, a1]
  · rintro e w' ⟨r, rfl, hm, ho⟩
    refine ⟨r, rfl, wpl_val rfl x_assign (wpList_nil (wp_ret (bodyPost_ret (results_tmp hres _ P w') ?_ ⟨_, rfl, hm, ?_⟩)))⟩
    · simp only [Act.defers_put]; exact ad
    · have er : ∀ a : Act, 4 < a.tmps.size → 7 < a.tmps.size → ((a.put (some 7) r).put (some 4) ((a.put (some 7) r).eval (.tmp 7))).tmps.getD 4 undef = r := fun a h h' => by
        show Act.get _ 4 = _
        rw [Act.get_put_eq (by simpa only [Act.size_put] using h), eval_tmp, Act.get_put_eq h']
      have := er (((a.put (some 4) (a.eval (.const .nilIface))).put (some 5) (Act.eval (a.put (some 4) (a.eval (.const .nilIface))) (.tmp 0))).put (some 6) (Act.eval ((a.put (some 4) (a.eval (.const .nilIface))).put (some 5) (Act.eval (a.put (some 4) (a.eval (.const .nilIface))) (.tmp 0))) (.tmp 1))) (by simp only [Act.size_put]; omega) (by simp only [Act.size_put]; omega)
      rw [show (Act.tmps _).getD 4 undef = r from this]
      exact ho
end
end Go.Proofs.YtadfbhmpehnkeaaDoor
