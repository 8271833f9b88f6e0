/-
  Tags.Each: the tags by rising numbers, one by one.
-/
import Derived.Maps.RangeRun
import Derived.Test.YtcldbjehliladaaDoorPSo
import Derived.Test.YtcldbjehliladaaDoorPTh
set_option linter.unusedSimpArgs false
set_option linter.unusedVariables false
namespace Go.Proofs.YtcldbjehliladaaDoor
open Go Go.RowKit
open Go.ChangeMaps (setBlock)
section
variable {P : Program} {ρ : Operand -> Value} {w w' : World} {d : Option Tmp} {ty : TypeId} {p : String} {af : Array Edge} {g : Option (Nat × Bool)}
theorem x_range {x : Operand} {t : TypeId} {xv v : Value} (hx : ρ x = xv) (h : (Instr.range t xv).run P w = .ok v w') : (execOp ρ ⟨d, .range t x, ty, p, af, g⟩).run P w = .ok (.value v) w' := by simp [execOp, hx, h]
theorem x_next {x : Operand} {xv v : Value} (hx : ρ x = xv) (h : (Instr.next xv false ty).run P w = .ok v w') : (execOp ρ ⟨d, .next x false, ty, p, af, g⟩).run P w = .ok (.value v) w' := by simp [execOp, hx, h]
theorem x_entry {x : Operand} {xv v : Value} (hx : ρ x = xv) (h : (Instr.entry xv).run P w = .ok v w') : (execOp ρ ⟨d, .entry x, ty, p, af, g⟩).run P w = .ok (.value v) w' := by simp [execOp, hx, h]
theorem x_lookup {x y : Operand} {t : TypeId} {xv yv v : Value} (hx : ρ x = xv) (hy : ρ y = yv) (h : (Instr.lookup t xv yv false).run P w = .ok v w') : (execOp ρ ⟨d, .lookup t x y false, ty, p, af, g⟩).run P w = .ok (.value v) w' := by simp [execOp, hx, hy, h]
theorem x_makeFunc {f : FuncId} {xs : Array Operand} : (execOp ρ ⟨d, .makeFunc (.func f) #[] xs, ty, p, af, g⟩).run P w = .ok (.value (.func (.func f) #[] (xs.map ρ))) w := by
 simp [execOp, Instr.makeFunc]
def notIface (P : Program) (t : TypeId) : Bool := match P.underlying t with
 | some (.interface _) => false
 | some _ => true
 | none => false
theorem x_makeIface {x : Operand} {t : TypeId} {xv : Value} (ht : notIface P t = true) (hx : ρ x = xv) : (execOp ρ ⟨d, .makeInterface t x, ty, p, af, g⟩).run P w = .ok (.value (.iface t xv)) w := by
 unfold notIface at ht
 cases hu : P.underlying t with
 | none => simp [hu] at ht
 | some ds => cases ds <;> simp_all [execOp, Instr.makeInterface, run_underlying hu]
theorem x_callv {f : FuncId} {c : Operand} {lb : Array Value} {xs : Array Operand} {ts : Array TypeId} (hf : bodied P f = true) (hc : ρ c = .func (.func f) #[] lb) :
  (execOp ρ ⟨d, .call ⟨.value c, xs, ts⟩, ty, p, af, g⟩).run P w = .ok (.enter f (xs.map ρ ++ lb)) w := by
 simp only [execOp, resolve, Deferred.ofValue, hc, Sem.run_bind, Sem.run_pure, Result.andThen_ok, invoke, Array.append_empty, Array.empty_append]
 exact callFunc_run hf
theorem x_lenMap {x : Operand} {t r : Nat} {es : Array MapEntry} {clock : Nat} {ts : Array TypeId} (ht : isMap32 P t = true) (hts : ts[0]? = some t) (hx : ρ x = .map (some r)) (hb : w.heap[r]? = some (.map es clock)) :
  (execOp ρ ⟨d, .call ⟨.builtin .len, #[x], ts⟩, ty, p, af, g⟩).run P w = .ok (.value (.int .i64 es.size)) w := by
 obtain ⟨kt, et, hu, _⟩ := isMap32_spec ht
 simp [execOp, resolve, invoke, builtin, hx, Builtin.len_, hts, run_underlying hu, MapKept.run_getObj_map hb, goInt]
theorem x_lenMap0 {x : Operand} {t : Nat} {ts : Array TypeId} (ht : isMap32 P t = true) (hts : ts[0]? = some t) (hx : ρ x = .map none) :
  (execOp ρ ⟨d, .call ⟨.builtin .len, #[x], ts⟩, ty, p, af, g⟩).run P w = .ok (.value (.int .i64 0)) w := by
 obtain ⟨kt, et, hu, _⟩ := isMap32_spec ht
 simp [execOp, resolve, invoke, builtin, hx, Builtin.len_, hts, run_underlying hu, goInt]
theorem x_makeRoom {x y : Operand} {t e n : Nat} (hI : elemInfo P t e 1 = true) (hx : ρ x = .int .i64 0) (hy : ρ y = .int .i64 n) (hn : n <= 4294967296) :
  ∃ C : Array Value, C.size = n /\ (execOp ρ ⟨d, .makeSlice t x y, ty, p, af, g⟩).run P w = .ok (.value (.slice (some ⟨w.heap.size, 0, none⟩) 0 n)) (w.alloc (.cells C e)) := by
 obtain ⟨hu, i, z, hi, hz, h2, h3, h4, h5, h6⟩ := elemInfo_spec hI
 have hb : (i.bytes : Int) * (n : Int) <= 281474976710656 := by
  have : i.bytes * n <= 1024 * 4294967296 := Nat.mul_le_mul h4 hn
  have h : ((i.bytes * n : Nat) : Int) <= 281474976710656 := by omega
  rwa [Int.natCast_mul] at h
 have hr := run_make (P := P) w t e i z hu hi hz .i64 .i64 0 n (by omega) (by omega) hb (by omega)
 refine ⟨_, ?_, by simp only [execOp, hx, hy, Sem.run_bind, hr, Result.andThen_ok]; rfl⟩
 simp [madeCells, h2]
end
theorem wpl_makeRoom {P : Program} {ops : Array Oper} {rest : List Oper} {Q : Exit -> Act -> World -> Prop} {a : Act} {w : World} {d : Option Tmp} {ty : TypeId} {p : String} {af : Array Edge} {x y : Operand} {t e n : Nat} (hI : elemInfo P t e 1 = true) (hx : a.eval x = .int .i64 0) (hy : a.eval y = .int .i64 n) (hn : n <= 4294967296)
  (hk : ∀ C : Array Value, C.size = n -> wpList P ops Q rest (a.put d (.slice (some ⟨w.heap.size, 0, none⟩) 0 n)) (w.alloc (.cells C e))) : wpList P ops Q (⟨d, .makeSlice t x y, ty, p, af, none⟩ :: rest) a w := by
 obtain ⟨C, hC, hr⟩ := x_makeRoom (P := P) (ρ := a.eval) (w := w) (d := d) (ty := ty) (p := p) (af := af) (g := none) hI hx hy hn
 exact Zv rfl hr (hk C hC)
/-- a loop whose test stands ahead, what follows in one piece -/
theorem wp_while {P : Program} {Q : Exit -> Act -> World -> Prop} {a : Act} {w : World} {b0 t : Nat} {ct rest : Code}
  (I J : Nat -> Act -> World -> Prop) (n : Nat) (h0 : I n a w)
  (ht : ∀ m a w, I m a w -> ct.wp P (fun e a' w' => e = .normal /\ ((∃ m', m' < m /\ Act.get a' t = .bool true /\ J m' a' w') \/ (Act.get a' t = .bool false /\ Q .normal a' w'))) a w)
  (hr : ∀ m a w, J m a w -> rest.wp P (fun e a' w' => match e with | .normal => I m a' w' | .ret => Q .ret a' w' | _ => False) a w) :
  (Code.block b0 (.loop (.seq ct (.seq (.cond (.tmp t) .skip (.exit b0)) rest)))).wp P Q a w := by
 refine wp_block (wp_loop_ghost I n h0 ?_)
 intro m a w hI
 refine wp_seq (wp_mono (ht m a w hI) ?_)
 rintro e a1 w1 ⟨rfl, h⟩
 rcases h with ⟨m', hm, hb1, hJ⟩ | ⟨hb1, hQ⟩
 ·refine wp_seq (wp_cond_true (by rw [Ze]; exact hb1) (wp_skip ?_))
  refine wp_mono (hr m' a1 w1 hJ) ?_
  intro e a2 w2 h2
  cases e with
  | normal => exact ⟨m', hm, h2⟩
  | ret => exact h2
  | _ => exact h2.elim
 ·refine wp_seq (wp_cond_false (by rw [Ze]; exact hb1) (wp_exit ?_))
  simp [Exit.then, Exit.inBlock]
  exact hQ
theorem wp_block_plain {P : Program} {R : Exit -> Act -> World -> Prop} {a : Act} {w : World} {b : Nat} {c : Code} (hR : ∀ id a w, ¬ R (.exit id) a w) (h : c.wp P R a w) : (Code.block b c).wp P R a w := by
 refine wp_block (wp_mono h ?_)
 intro e a w hq
 cases e with
 | exit id => exact (hR id a w hq).elim
 | _ => exact hq
def keyOf (e : MapEntry) : Int := match e.key with | .int _ n => n | _ => 0
/-- each tag, by rising numbers, is handed to a function -/
def EachC (P : Program) (fEach : FuncId) : Prop := ∀ (w0 : World) (tb off : Nat) (mv : Value) (u : Tags) (F : Nat -> Prop) (g : FuncId) (lb : Array Value) (S : Nat -> Prop) (Inv : Nat -> Tags -> World -> Prop),
 w0.cell? ⟨tb, off, none⟩ = some mv -> TagsR w0 F mv u -> ¬ S tb -> (∀ k, F k -> ¬ S k) -> (∀ k, S k -> k < w0.heap.size) -> bodied P g = true ->
 (∀ B w, w0.heap.size <= B -> B <= w.heap.size -> Mod none' w0 w -> Inv B [] w) ->
 (∀ B pre p suf w1 val nil, u = pre ++ p :: suf -> w0.heap.size <= B -> B <= w1.heap.size -> Inv B pre w1 -> Oct w1 F val p.2 nil -> (0 <= p.1 /\ p.1 < 4294967296 /\ p.2.length <= 4294967295) -> Calls P g (#[.int .u32 p.1, val] ++ lb) w1 fun e w2 => (∃ r, e = .returned r) /\ Inv B (pre ++ [p]) w2 /\ Mod (fun k => S k \/ B <= k) w1 w2) ->
 Calls P fEach #[.pointer (some ⟨tb, off, none⟩), .func (.func g) #[] lb] w0 fun e w' => (∃ r, e = .returned r) /\ (∃ B, w0.heap.size <= B /\ B <= w'.heap.size /\ Inv B u w') /\ Mod S w0 w'
theorem run_mapGet {P : Program} {w : World} {t : TypeId} {r i : Nat} {es : Array MapEntry} {clock : Nat} {k : Int} {val : Value} (ht : isMap32 P t = true) (hb : w.heap[r]? = some (.map es clock)) (hf : Instr.findNow (.int .u32) (.int .u32 k) es.toList 0 = some (some (i, val))) :
  (Instr.lookup t (.map (some r)) (.int .u32 k) false).run P w = .ok val w := by
 obtain ⟨kt, et, hu, hkt⟩ := isMap32_spec ht
 have hc : ∀ e, (Instr.checkKey e 10000 kt (.int .u32 k)).run P w = .ok () w := fun e => MapKept.run_checkKey (k := .int .u32 k) hkt (by simp [MapKept.IsKey]) e 9999
 have hfind := MapKept.run_findKey (P := P) (w := w) hkt hf
 simp [Instr.lookup, run_underlying hu, MapKept.run_getObj_map hb, hc, hfind, Result.andThen]
theorem nodup_len : ∀ (l m : List Nat), l.Nodup -> (∀ x ∈ l, x ∈ m) -> l.length <= m.length
 | [], _, _, _ => by simp
 | x :: l, m, hn, hs => by
  have h1 := List.nodup_cons.1 hn
  have hx : x ∈ m := hs x (by simp)
  have := nodup_len l (m.erase x) h1.2 (fun y hy => (List.mem_erase_of_ne (fun e => h1.1 (by rw [<- e]; exact hy))).2 (hs y (by simp [hy])))
  rw [List.length_erase_of_mem hx] at this
  have hl : 0 < m.length := List.length_pos_of_mem hx
  simp; omega
theorem vs_perm {es vs : List MapEntry} (h1 : (es.map (·.born)).Nodup) (h2 : (vs.map (·.born)).Nodup) (h3 : ∀ e ∈ vs, e ∈ es) (h4 : ∀ e ∈ es, ∃ e' ∈ vs, e'.born = e.born) : vs.Perm es := by
 have inj : ∀ a ∈ es, ∀ b ∈ es, a.born = b.born -> a = b := by
  intro a ha b hb e
  obtain ⟨i, hi, rfl⟩ := List.getElem_of_mem ha
  obtain ⟨j, hj, rfl⟩ := List.getElem_of_mem hb
  have : i = j := by
   have hn := List.pairwise_iff_getElem.1 h1
   rcases Nat.lt_trichotomy i j with h | h | h
   ·exact (hn i j (by simpa using hi) (by simpa using hj) h (by simpa using e)).elim
   ·exact h
   ·exact (hn j i (by simpa using hj) (by simpa using hi) h (by simpa using e.symm)).elim
  subst this; rfl
 have n1 : es.Nodup := by rw [List.Nodup, List.pairwise_map] at h1; exact h1.imp (fun h e => h (by rw [e]))
 have n2 : vs.Nodup := by rw [List.Nodup, List.pairwise_map] at h2; exact h2.imp (fun h e => h (by rw [e]))
 refine (List.perm_ext_iff_of_nodup n2 n1).2 (fun a => ⟨h3 a, fun ha => ?_⟩)
 obtain ⟨b, hb, e⟩ := h4 a ha
 rw [<- inj b (h3 b hb) a ha e]
 exact hb
theorem eachTypes : elemInfo Tryd.prog 126 58 1 = true /\ one Tryd.prog 126 = true /\ sized Tryd.prog 126 1 = true /\ (∃ z : Value, zeroOf Tryd.prog 126 = some z /\ z.cells = #[.slice none 0 0]) /\ notIface Tryd.prog 126 = true /\ one Tryd.prog 58 = true /\ intTy Tryd.prog 58 .u32 = true :=
 ⟨by kernel_rfl, by kernel_rfl, by kernel_rfl, ⟨.slice none 0 0, by kernel_rfl, rfl⟩, by kernel_rfl, by kernel_rfl, by kernel_rfl⟩
set_option maxHeartbeats 2000000 in
theorem each_spec : EachC Tryd.prog 45 := by
 intro w0 tb off mv u F g lb S Inv hcell hT hStb hFS hS0 hbg hstart hstep
 obtain ⟨hF0, h1M, hM, hSM⟩ := tagTypes
 obtain ⟨hI, h1S, hsS, ⟨zS, hzS, hzSc⟩, hNI, h1U, hiU⟩ := eachTypes
 have hcell' : w0.cell? ⟨tb, off + 0, none⟩ = some mv := hcell
 refine calls_of_wp Tryd.func45 rfl ?_
 rw [Tryd.ntmps45]
 refine wp_act (fun a : Act => Act.get a 0 = .pointer (some ⟨tb, off, none⟩) /\ Act.get a 1 = .func (.func g) #[] lb /\ a.tmps.size = 53 /\ a.defers = []) ⟨by rw [Zj _ _ _ (by simp)]; rfl, by rw [Zj _ _ _ (by simp)]; rfl, by simp, rfl⟩ ?_
 rintro a ⟨a0, a1, aN, ad⟩
 rcases hT.split with ⟨hmv, hu⟩ | ⟨r, hFr, hmv, hMA⟩
 ·-- none
  subst hmv
  subst hu
  refine wp_seq (wp_seq (wp_region_lit (Zv rfl Zm (Zv rfl (x_nilCheck (q := ⟨tb, off, none⟩) ?_) (Zv rfl (Za hF0 (b := tb) (o0 := off) ?_) (Zv rfl (Zl h1M (b := tb) (o := off + 0) ?_ hcell') (Zv rfl (x_lenMap0 hM rfl ?_) (Zv rfl (x_eqlI (k := .i64) (m := 0) (n := 0) ?_ rfl) (wpList_nil (wp_cond_true ?_ (wp_ret ?_)))))))))))
  ·simp (disch := first | omega | simp only [Zs]; omega) only [Zo, Ze, Zn, Zq, a0]
  ·simp (disch := first | omega | simp only [Zs]; omega) only [Zo, Ze, Zn, Zq]
  ·simp (disch := first | omega | simp only [Zs]; omega) only [Zo, Ze, Zn, Zq]
  ·simp (disch := first | omega | simp only [Zs]; omega) only [Zo, Ze, Zn, Zq]
  ·simp (disch := first | omega | simp only [Zs]; omega) only [Zo, Ze, Zn, Zq]
  ·simp (disch := first | omega | simp only [Zs]; omega) only [Zo, Ze, Zn, Zq]
   rfl
  simp only [Exit.then]
  refine bodyPost_ret (v := .tuple #[]) (by simp [results, Tryd.results45]) (by simp only [Zd]; exact ad) ⟨⟨_, rfl⟩, ⟨w0.heap.size, Nat.le_refl _, Nat.le_refl _, hstart _ w0 (Nat.le_refl _) (Nat.le_refl _) (.refl w0)⟩, .refl w0⟩
 subst hmv
 obtain ⟨es, clock, hes, hsorted, hulen, hkeys, kb, hperm, hkbl, hborn, hents⟩ := hMA
 have hkl : kb.length = u.length := hperm.length_eq
 have hrl : r < w0.heap.size := lt_of_block hes
 have htl : tb < w0.heap.size := World.block_lt_of_cell? _ _ hcell
 by_cases hes0 : es.size = 0
 ·-- an empty map
  have hu : u = [] := List.eq_nil_of_length_eq_zero (by omega)
  subst hu
  refine wp_seq (wp_seq (wp_region_lit (Zv rfl Zm (Zv rfl (x_nilCheck (q := ⟨tb, off, none⟩) ?_) (Zv rfl (Za hF0 (b := tb) (o0 := off) ?_) (Zv rfl (Zl h1M (b := tb) (o := off + 0) ?_ hcell') (Zv rfl (x_lenMap (r := r) (es := es) (clock := clock) hM rfl ?_ hes) (Zv rfl (x_eqlI (k := .i64) (m := es.size) (n := 0) ?_ rfl) (wpList_nil (wp_cond_true ?_ (wp_ret ?_)))))))))))
  ·simp (disch := first | omega | simp only [Zs]; omega) only [Zo, Ze, Zn, Zq, a0]
  ·simp (disch := first | omega | simp only [Zs]; omega) only [Zo, Ze, Zn, Zq]
  ·simp (disch := first | omega | simp only [Zs]; omega) only [Zo, Ze, Zn, Zq]
  ·simp (disch := first | omega | simp only [Zs]; omega) only [Zo, Ze, Zn, Zq]
  ·simp (disch := first | omega | simp only [Zs]; omega) only [Zo, Ze, Zn, Zq]
  ·simp (disch := first | omega | simp only [Zs]; omega) only [Zo, Ze, Zn, Zq]
   rw [hes0]; rfl
  simp only [Exit.then]
  refine bodyPost_ret (v := .tuple #[]) (by simp [results, Tryd.results45]) (by simp only [Zd]; exact ad) ⟨⟨_, rfl⟩, ⟨w0.heap.size, Nat.le_refl _, Nat.le_refl _, hstart _ w0 (Nat.le_refl _) (Nat.le_refl _) (.refl w0)⟩, .refl w0⟩
 refine wp_seq (wp_seq (wp_region_lit (Zv rfl Zm (Zv rfl (x_nilCheck (q := ⟨tb, off, none⟩) ?_) (Zv rfl (Za hF0 (b := tb) (o0 := off) ?_) (Zv rfl (Zl h1M (b := tb) (o := off + 0) ?_ hcell') (Zv rfl (x_lenMap (r := r) (es := es) (clock := clock) hM rfl ?_ hes) (Zv rfl (x_eqlI (k := .i64) (m := es.size) (n := 0) ?_ rfl) (wpList_nil (wp_cond_false ?_ (wp_skip ?_)))))))))))
 ·simp (disch := first | omega | simp only [Zs]; omega) only [Zo, Ze, Zn, Zq, a0]
 ·simp (disch := first | omega | simp only [Zs]; omega) only [Zo, Ze, Zn, Zq]
 ·simp (disch := first | omega | simp only [Zs]; omega) only [Zo, Ze, Zn, Zq]
 ·simp (disch := first | omega | simp only [Zs]; omega) only [Zo, Ze, Zn, Zq]
 ·simp (disch := first | omega | simp only [Zs]; omega) only [Zo, Ze, Zn, Zq]
 ·simp (disch := first | omega | simp only [Zs]; omega) only [Zo, Ze, Zn, Zq]
  have : ((es.size : Int) == 0) = false := beq_eq_false_iff_ne.2 (by omega)
  rw [this]
 refine wp_act (fun a : Act => Act.get a 0 = .pointer (some ⟨tb, off, none⟩) /\ Act.get a 1 = .func (.func g) #[] lb /\ a.tmps.size = 53 /\ a.defers = []) ⟨by simp (disch := first | omega | simp only [Zs]; omega) only [Zo, Ze, Zn, Zq, a0], by simp (disch := first | omega | simp only [Zs]; omega) only [Zo, Ze, Zn, Zq, a1], by simp only [Zs]; exact aN, by simp only [Zd]; exact ad⟩ ?_
 clear a0 a1 aN ad
 rintro a ⟨a0, a1, aN, ad⟩
 -- a slice with room
 refine wp_seq (wp_region_lit (Zv rfl Zm (Zv rfl (x_nilCheck (q := ⟨tb, off, none⟩) ?_) (Zv rfl (Za hF0 (b := tb) (o0 := off) ?_) (Zv rfl (Zl h1M (b := tb) (o := off + 0) ?_ hcell') (Zv rfl (x_lenMap (r := r) (es := es) (clock := clock) hM rfl ?_ hes) (wpl_makeRoom (n := es.size) hI rfl ?_ (by omega) ?_)))))))
 ·simp (disch := first | omega | simp only [Zs]; omega) only [Zo, Ze, Zn, Zq, a0]
 ·simp (disch := first | omega | simp only [Zs]; omega) only [Zo, Ze, Zn, Zq]
 ·simp (disch := first | omega | simp only [Zs]; omega) only [Zo, Ze, Zn, Zq]
 ·simp (disch := first | omega | simp only [Zs]; omega) only [Zo, Ze, Zn, Zq]
 ·simp (disch := first | omega | simp only [Zs]; omega) only [Zo, Ze, Zn, Zq]
 intro C0 hC0
 have kb0 := Zh w0 (.cells C0 58)
 have mb0 : Mod none' w0 (w0.alloc (.cells C0 58)) := (Mod.refl w0).alloc _
 have sb0 : (w0.alloc (.cells C0 58)).heap.size = w0.heap.size + 1 := by simp
 generalize w0.alloc (.cells C0 58) = w1 at *
 obtain ⟨b, hb⟩ : ∃ b, b = w0.heap.size := ⟨_, rfl⟩
 rw [<- hb] at kb0 sb0 ⊢
 refine Zv rfl (x_alloc hzS) ?_
 rw [hzSc]
 have kt0 := Zh w1 (.cells #[.slice none 0 0] 126)
 have mt0 : Mod none' w1 (w1.alloc (.cells #[.slice none 0 0] 126)) := (Mod.refl w1).alloc _
 have st0 : (w1.alloc (.cells #[.slice none 0 0] 126)).heap.size = w1.heap.size + 1 := by simp
 generalize w1.alloc (.cells #[.slice none 0 0] 126) = w2 at *
 rw [sb0] at kt0 st0 ⊢
 refine wpl_skip rfl (x_store1 hsS (b := b + 1) (o := 0) (v := .slice (some ⟨b, 0, none⟩) 0 es.size) (u := .slice none 0 0) ?_ ?_ rfl (by rw [Zc kt0]; rfl) (Zz kt0)) (wpList_nil ?_)
 ·simp (disch := first | omega | simp only [Zs]; omega) only [Zo, Ze, Zn, Zq]
 ·simp (disch := first | omega | simp only [Zs]; omega) only [Zo, Ze, Zn, Zq]
 have kt1 := heap_setCell_same (o := 0) kt0 (.slice (some ⟨b, 0, none⟩) 0 es.size)
 have mt1 : Mod (only (b + 1)) w2 (w2.setCell ⟨b + 1, 0, none⟩ (.slice (some ⟨b, 0, none⟩) 0 es.size)) := (Mod.refl w2).put _ _
 have st1 : (w2.setCell ⟨b + 1, 0, none⟩ (.slice (some ⟨b, 0, none⟩) 0 es.size)).heap.size = w2.heap.size := by simp
 generalize w2.setCell ⟨b + 1, 0, none⟩ (.slice (some ⟨b, 0, none⟩) 0 es.size) = w3 at *
 have kb1 : w3.heap[b]? = some (.cells C0 58 (0, 0)) := mt1.some (mt0.some kb0 (fun f => f)) (fun e => by have : b = b + 1 := e; omega)
 replace kt1 : w3.heap[b + 1]? = some (.cells #[.slice (some ⟨b, 0, none⟩) 0 es.size] 126 (0, 0)) := kt1
 have m03 : Mod none' w0 w3 := (mb0.trans mt0).trans' mt1 (fun _ _ f => f) (fun i hi e => by have : i = b + 1 := e; omega)
 refine wp_act (fun a : Act => Act.get a 0 = .pointer (some ⟨tb, off, none⟩) /\ Act.get a 1 = .func (.func g) #[] lb /\ Act.get a 4 = .pointer (some ⟨b + 1, 0, none⟩) /\ a.tmps.size = 53 /\ a.defers = []) ⟨by simp (disch := first | omega | simp only [Zs]; omega) only [Zo, Ze, Zn, Zq, a0], by simp (disch := first | omega | simp only [Zs]; omega) only [Zo, Ze, Zn, Zq, a1], by simp (disch := first | omega | simp only [Zs]; omega) only [Zo, Ze, Zn, Zq], by simp only [Zo, Zs]; exact aN, by simp only [Zo, Zd]; exact ad⟩ ?_
 clear a0 a1 aN ad kb0 kt0 mb0 mt0 mt1
 rintro a ⟨a0, a1, a4, aN, ad⟩
 -- the iterator
 have hcell3 : w3.cell? ⟨tb, off + 0, none⟩ = some (.map (some r)) := by rw [World.cell?_of_block (m03.block tb htl (fun f => f))]; exact hcell'
 obtain ⟨kt, et, hum, _⟩ := isMap32_spec hM
 have hes3 : w3.heap[r]? = some (.map es clock) := m03.some hes (fun f => f)
 refine wp_seq (wp_seq (wp_region_lit (Zv rfl Zm (Zv rfl (x_nilCheck (q := ⟨tb, off, none⟩) ?_) (Zv rfl (Za hF0 (b := tb) (o0 := off) ?_) (Zv rfl (Zl h1M (b := tb) (o := off + 0) ?_ hcell3) (Zv rfl (x_range (xv := .map (some r)) ?_ (run_range_map w3 _ kt et r es clock hum hes3)) (wpList_nil ?_))))))))
 ·simp (disch := first | omega | simp only [Zs]; omega) only [Zo, Ze, Zn, Zq, a0]
 ·simp (disch := first | omega | simp only [Zs]; omega) only [Zo, Ze, Zn, Zq]
 ·simp (disch := first | omega | simp only [Zs]; omega) only [Zo, Ze, Zn, Zq]
 ·simp (disch := first | omega | simp only [Zs]; omega) only [Zo, Ze, Zn, Zq]
 have ki0 := Zh w3 (.mapIter (some r) clock #[] clock)
 have mi0 : Mod none' w3 (w3.alloc (.mapIter (some r) clock #[] clock)) := (Mod.refl w3).alloc _
 have si0 : (w3.alloc (.mapIter (some r) clock #[] clock)).heap.size = w3.heap.size + 1 := by simp
 generalize w3.alloc (.mapIter (some r) clock #[] clock) = w4 at *
 have s3 : w3.heap.size = b + 2 := by omega
 rw [s3] at ki0 si0 ⊢
 have kb2 := mi0.some kb1 (fun f => f)
 have kt2 := mi0.some kt1 (fun f => f)
 have m04 : Mod none' w0 w4 := m03.trans mi0
 refine wp_act (fun a : Act => Act.get a 0 = .pointer (some ⟨tb, off, none⟩) /\ Act.get a 1 = .func (.func g) #[] lb /\ Act.get a 4 = .pointer (some ⟨b + 1, 0, none⟩) /\ Act.get a 24 = .pointer (some ⟨b + 2, 0, none⟩) /\ a.tmps.size = 53 /\ a.defers = []) ⟨by simp (disch := first | omega | simp only [Zs]; omega) only [Zo, Ze, Zn, Zq, a0], by simp (disch := first | omega | simp only [Zs]; omega) only [Zo, Ze, Zn, Zq, a1], by simp (disch := first | omega | simp only [Zs]; omega) only [Zo, Ze, Zn, Zq, a4], by simp (disch := first | omega | simp only [Zs]; omega) only [Zo, Ze, Zn, Zq], by simp only [Zs]; exact aN, by simp only [Zd]; exact ad⟩ ?_
 clear a0 a1 a4 aN ad kb1 kt1 mi0
 rintro a ⟨a0, a1, a4, a24, aN, ad⟩
 -- the numbers are collected
 refine wp_mono (Q := fun e a' w' => e = .normal /\ Act.get a' 0 = .pointer (some ⟨tb, off, none⟩) /\ Act.get a' 1 = .func (.func g) #[] lb /\ Act.get a' 4 = .pointer (some ⟨b + 1, 0, none⟩) /\ a'.tmps.size = 53 /\ a'.defers = [] /\ Mod none' w0 w' /\
  ∃ (vs : List MapEntry) (sv : Value), vs.Perm es.toList /\ w'.heap[b + 1]? = some (.cells #[sv] 126 (0, 0)) /\ w'.ownsRow b 58 1 sv vs.length (vs.map (fun e => .int .u32 (keyOf e))) /\ ∀ k, sv.ownBlock = some k -> k ≠ b + 1) ?_ ?_
 ·have hekey : ∀ e ∈ es.toList, e.key = .int .u32 (keyOf e) := by
   intro e he
   obtain ⟨i, hi, rfl⟩ := List.getElem_of_mem he
   obtain ⟨e2, nil2, g1, g2, _⟩ := hents i (by rw [hkbl]; simpa using hi)
   have : es.toList[i] = e2 := by
    have h2 : es.toList[i]? = some e2 := by simpa using g1
    rw [List.getElem?_eq_getElem hi] at h2
    simpa using h2
   rw [this, keyOf, g2]
  have hclk : ∀ e ∈ es.toList, e.born < clock := by
   intro e he
   obtain ⟨i, hi, rfl⟩ := List.getElem_of_mem he
   obtain ⟨e2, nil2, g1, g2, g3, g4⟩ := hents i (by rw [hkbl]; simpa using hi)
   have : es.toList[i] = e2 := by
    have h2 : es.toList[i]? = some e2 := by simpa using g1
    rw [List.getElem?_eq_getElem hi] at h2
    simpa using h2
   rw [this]; exact g4
  refine wp_while
   (I := fun m a w => Act.get a 0 = .pointer (some ⟨tb, off, none⟩) /\ Act.get a 1 = .func (.func g) #[] lb /\ Act.get a 4 = .pointer (some ⟨b + 1, 0, none⟩) /\ Act.get a 24 = .pointer (some ⟨b + 2, 0, none⟩) /\ a.tmps.size = 53 /\ a.defers = [] /\ Mod none' w0 w /\
    ∃ (vs : List MapEntry) (sv : Value) (seen : Array Nat), m = (leftOf es seen).size /\ (∀ e ∈ vs, e ∈ es.toList) /\ (vs.map (·.born)).Nodup /\ seen.toList = vs.map (·.born) /\ w.heap[b + 2]? = some (.mapIter (some r) clock seen clock) /\ w.heap[b + 1]? = some (.cells #[sv] 126 (0, 0)) /\
     w.ownsRow b 58 1 sv vs.length (vs.map (fun e => .int .u32 (keyOf e))) /\ (∀ k, sv.ownBlock = some k -> k ≠ b + 1 /\ k ≠ b + 2))
   (J := fun m a w => Act.get a 0 = .pointer (some ⟨tb, off, none⟩) /\ Act.get a 1 = .func (.func g) #[] lb /\ Act.get a 4 = .pointer (some ⟨b + 1, 0, none⟩) /\ Act.get a 24 = .pointer (some ⟨b + 2, 0, none⟩) /\ a.tmps.size = 53 /\ a.defers = [] /\ Mod none' w0 w /\
    ∃ (vs : List MapEntry) (sv : Value) (seen : Array Nat) (e : MapEntry), m = (leftOf es (seen.push e.born)).size /\ e ∈ (leftOf es seen).toList /\ (∀ e ∈ vs, e ∈ es.toList) /\ (vs.map (·.born)).Nodup /\ seen.toList = vs.map (·.born) /\ w.heap[b + 2]? = some (.mapIter (some r) clock (seen.push e.born) clock) /\ w.heap[b + 1]? = some (.cells #[sv] 126 (0, 0)) /\
     w.ownsRow b 58 1 sv vs.length (vs.map (fun e => .int .u32 (keyOf e))) /\ (∀ k, sv.ownBlock = some k -> k ≠ b + 1 /\ k ≠ b + 2))
   (leftOf es #[]).size ?_ ?_ ?_
  ·exact ⟨a0, a1, a4, a24, aN, ad, m04, [], .slice (some ⟨b, 0, none⟩) 0 es.size, #[], rfl, fun _ h => by simp at h, by simp, by simp, ki0, kt2, ⟨by simp, .inr ⟨b, es.size, C0, rfl, Nat.le_refl _, kb2, Nat.zero_le _, by simp only [maxLen]; omega, by rw [hC0]; simp, by simp⟩⟩, fun k hk => by simp [Value.ownBlock] at hk; omega⟩
  ·clear a0 a1 a4 a24 aN ad a
   rintro m a w ⟨a0, a1, a4, a24, aN, ad, hmod, vs, sv, seen, hm, hv1, hv2, hv3, hki, hkt, hown, hob⟩
   have hesw := hmod.some hes (fun f => f)
   rcases run_next_at (P := Tryd.prog) w 0 (b + 2) r clock clock seen es clock hki hesw hclk (Nat.le_refl _) with ⟨hz, hrun⟩ | ⟨e, he, wn, hwn, hrun⟩
   ·refine wp_region_lit (Zv rfl (x_next (xv := .pointer (some ⟨b + 2, 0, none⟩)) (by rw [Ze, a24]) hrun) (Zv rfl (x_extract (v := .bool false) (by rw [Ze, Zq (by omega)]) rfl) (wpList_nil ⟨rfl, .inr ⟨by simp (disch := first | omega | simp only [Zs]; omega) only [Zo, Ze, Zn, Zq], rfl, ?_, ?_, ?_, ?_, ?_, hmod, vs, sv, ?_, hkt, hown, fun k hk => (hob k hk).1⟩⟩)))
    ·simp (disch := first | omega | simp only [Zs]; omega) only [Zo, Ze, Zn, Zq, a0]
    ·simp (disch := first | omega | simp only [Zs]; omega) only [Zo, Ze, Zn, Zq, a1]
    ·simp (disch := first | omega | simp only [Zs]; omega) only [Zo, Ze, Zn, Zq, a4]
    ·simp only [Zs]; exact aN
    ·simp only [Zd]; exact ad
    ·refine vs_perm hborn hv2 hv1 (fun e he => ?_)
     have := all_seen es seen hz e he
     have hmem : e.born ∈ seen.toList := by simpa using this
     rw [hv3] at hmem
     obtain ⟨e', he', hb'⟩ := List.mem_map.1 hmem
     exact ⟨e', he', hb'⟩
   ·have hwh : wn.heap = w.heap := by rcases hwn with rfl | rfl <;> rfl
    have hmn : Mod none' w wn := by rcases hwn with rfl | rfl; exact .refl _; exact (Mod.refl w).drew
    have hms : Mod (only (b + 2)) wn (setBlock wn (b + 2) (.mapIter (some r) clock (seen.push e.born) clock)) := mod_heap_set
    have hmw : Mod (only (b + 2)) w (setBlock wn (b + 2) (.mapIter (some r) clock (seen.push e.born) clock)) := hmn.none.trans hms
    have hki' : (setBlock wn (b + 2) (.mapIter (some r) clock (seen.push e.born) clock)).heap[b + 2]? = some (.mapIter (some r) clock (seen.push e.born) clock) := by
     have hlt : b + 2 < wn.heap.size := by rw [hwh]; exact lt_of_block hki
     simp [setBlock, hlt]
    generalize setBlock wn (b + 2) (.mapIter (some r) clock (seen.push e.born) clock) = w5 at *
    refine wp_region_lit (Zv rfl (x_next (xv := .pointer (some ⟨b + 2, 0, none⟩)) (by rw [Ze, a24]) hrun) (Zv rfl (x_extract (v := .bool true) (by rw [Ze, Zq (by omega)]) rfl) (wpList_nil ⟨rfl, .inl ⟨(leftOf es (seen.push e.born)).size, by rw [hm]; exact left_shrinks es seen e he, by simp (disch := first | omega | simp only [Zs]; omega) only [Zo, Ze, Zn, Zq], ?_, ?_, ?_, ?_, ?_, ?_, hmod.trans' hmw (fun _ _ f => f) (fun i hi q => by have : i = b + 2 := q; omega), vs, sv, seen, e, rfl, he, hv1, hv2, hv3, hki', hmw.some hkt (fun q => by have : b + 1 = b + 2 := q; omega), ownsRow_mod hown hmw (fun k hk q => (hob k hk).2 q), hob⟩⟩)))
    ·simp (disch := first | omega | simp only [Zs]; omega) only [Zo, Ze, Zn, Zq, a0]
    ·simp (disch := first | omega | simp only [Zs]; omega) only [Zo, Ze, Zn, Zq, a1]
    ·simp (disch := first | omega | simp only [Zs]; omega) only [Zo, Ze, Zn, Zq, a4]
    ·simp (disch := first | omega | simp only [Zs]; omega) only [Zo, Ze, Zn, Zq, a24]
    ·simp only [Zs]; exact aN
    ·simp only [Zd]; exact ad
  ·clear a0 a1 a4 a24 aN ad a
   rintro m a w ⟨a0, a1, a4, a24, aN, ad, hmod, vs, sv, seen, e, hm, he, hv1, hv2, hv3, hki, hkt, hown, hob⟩
   have hel := mem_left he
   have hesw := hmod.some hes (fun f => f)
   have hek := hekey e hel.1
   have hvl : vs.length <= es.size := by
    have := nodup_len (vs.map (·.born)) (es.toList.map (·.born)) hv2 (fun x hx => by
     obtain ⟨q, hq, rfl⟩ := List.mem_map.1 hx
     exact List.mem_map_of_mem (hv1 q hq))
    simpa using this
   refine wp_block_plain (fun _ _ _ f => f) ?_
   refine wp_seq (wp_region_lit (Zv rfl (x_entry (xv := .pointer (some ⟨b + 2, 0, none⟩)) (by rw [Ze, a24]) (run_entry_at w (b + 2) r clock seen es clock e hki hesw hel.1 hborn)) (Zv rfl (x_extract (v := e.key) (by rw [Ze, Zq (by omega)]) rfl) (Zv rfl Zi (wpList_nil ?_)))))
   have hkt' : w.cell? ⟨b + 1, 0, none⟩ = some sv := by rw [Zc hkt]; rfl
   refine wp_region_lit (Zv rfl (Zl h1S (b := b + 1) (o := 0) ?_ hkt') (Zv rfl Zm (Zv rfl (x_buildSlice1 (v := e.key) hI ?_ (by rw [hek]; rfl)) ?_)))
   ·simp (disch := first | omega | simp only [Zs]; omega) only [Zo, Ze, Zn, Zq, a4]
   ·simp (disch := first | omega | simp only [Zs]; omega) only [Zo, Ze, Zn, Zq]
   have kn0 := Zh w (.cells e.key.cells 58)
   have mn0 : Mod none' w (w.alloc (.cells e.key.cells 58)) := (Mod.refl w).alloc _
   have sn0 : (w.alloc (.cells e.key.cells 58)).heap.size = w.heap.size + 1 := by simp
   generalize w.alloc (.cells e.key.cells 58) = w5 at *
   have hw0 := hmod.size
   have hown5 : w5.ownsRow b 58 1 sv vs.length (vs.map (fun e => .int .u32 (keyOf e))) := ownsRow_mod hown mn0 (fun _ _ f => f)
   refine wpl_append (v := sv) (n := vs.length) (m := 1) (c := 1) (ad := ⟨w.heap.size, 0, none⟩) (news := [.int .u32 (keyOf e)]) hI ?_ ?_ hown5 (by simp) (fun j q hq => ?_) (fun q hq => by simp at hq; rw [hq]; rfl) (by omega) (by omega) ?_
   ·simp (disch := first | omega | simp only [Zs]; omega) only [Zo, Ze, Zn, Zq]
   ·simp (disch := first | omega | simp only [Zs]; omega) only [Zo, Ze, Zn, Zq]
   ·have hj0 : j = 0 := by have := (List.getElem?_eq_some_iff.1 hq).1; simp at this; exact this
    subst hj0
    simp at hq
    subst hq
    rw [show (⟨w.heap.size, 0, none⟩ : Addr).add 0 = ⟨w.heap.size, 0, none⟩ from rfl, Zc kn0, hek]
    rfl
   intro v' w6 hown6 hm6 _ hob6
   have hkt5 := mn0.some hkt (fun f => f)
   have hkt6 : w6.heap[b + 1]? = some (.cells #[sv] 126 (0, 0)) := hm6.some hkt5 (fun q => (hob _ q).1 rfl)
   have hone : v'.oneCell' = true := ownsRow_one hown6
   refine wpl_skip rfl (x_store1 hsS (b := b + 1) (o := 0) (v := v') (u := sv) ?_ ?_ hone (by rw [Zc hkt6]; rfl) (Zz hkt6)) (wpList_nil ?_)
   ·simp (disch := first | omega | simp only [Zs]; omega) only [Zo, Ze, Zn, Zq, a4]
   ·simp (disch := first | omega | simp only [Zs]; omega) only [Zo, Ze, Zn, Zq]
   have hkt7 := heap_setCell_same (o := 0) hkt6 v'
   have m7 : Mod (only (b + 1)) w6 (w6.setCell ⟨b + 1, 0, none⟩ v') := (Mod.refl w6).put _ _
   generalize w6.setCell ⟨b + 1, 0, none⟩ v' = w7 at *
   have hb1 : b + 1 < w.heap.size := lt_of_block hkt
   have hb2 : b + 2 < w.heap.size := lt_of_block hki
   have hob' : ∀ k, v'.ownBlock = some k -> k ≠ b + 1 /\ k ≠ b + 2 := fun k hk => by
    rcases hob6 k hk with h | h
    ·exact hob k h
    ·omega
   have hmod7 : Mod none' w0 w7 := by
    have h1 : Mod none' w0 w5 := hmod.trans mn0
    have h2 : Mod none' w0 w6 := h1.trans' hm6 (fun _ _ f => f) (fun i hi q => by have := (hown5.2); rcases this with ⟨rfl, _⟩ | ⟨gg, cap, cur, rfl, hgg, _⟩; simp [Value.ownBlock] at q; simp [Value.ownBlock] at q; omega)
    exact h2.trans' m7 (fun _ _ f => f) (fun i hi q => by have : i = b + 1 := q; omega)
   refine ⟨?_, ?_, ?_, ?_, ?_, ?_, hmod7, vs ++ [e], v', seen.push e.born, hm, ?_, ?_, ?_, ?_, hkt7, ?_, hob'⟩
   ·simp (disch := first | omega | simp only [Zs]; omega) only [Zo, Ze, Zn, Zq, a0]
   ·simp (disch := first | omega | simp only [Zs]; omega) only [Zo, Ze, Zn, Zq, a1]
   ·simp (disch := first | omega | simp only [Zs]; omega) only [Zo, Ze, Zn, Zq, a4]
   ·simp (disch := first | omega | simp only [Zs]; omega) only [Zo, Ze, Zn, Zq, a24]
   ·simp only [Zo, Zs]; exact aN
   ·simp only [Zo, Zd]; exact ad
   ·intro q hq
    simp at hq
    rcases hq with hq | rfl
    ·exact hv1 q hq
    ·exact hel.1
   ·rw [List.map_append, List.nodup_append]
    refine ⟨hv2, by simp, fun x hx y hy => ?_⟩
    simp at hy
    subst hy
    rw [<- hv3] at hx
    have := hel.2
    intro q
    subst q
    have h2 : seen.contains e.born = true := by simpa using hx
    rw [h2] at this
    cases this
   ·simp [hv3]
   ·have h5 := mn0.some hki (fun f => f)
    have h6 := hm6.some h5 (fun q => (hob _ q).2 rfl)
    exact m7.some h6 (fun q => by have : b + 2 = b + 1 := q; omega)
   ·have := ownsRow_mod hown6 m7 (fun k hk q => (hob' k hk).1 q)
    simpa using this
 clear a0 a1 a4 a24 aN ad a ki0 kb2 kt2 m04 si0 s3 hes3 hcell3 m03 st0 sb0 st1 hC0
 rintro e a w ⟨rfl, a0, a1, a4, aN, ad, hmod, vs, sv, hvp, hkt, hown, hob⟩
 have hw0 := hmod.size
 -- what the numbers are
 have hkp : (vs.map keyOf).Perm (u.map (·.1)) := by
  have h1 : (vs.map keyOf).Perm (es.toList.map keyOf) := hvp.map _
  have h2 : es.toList.map keyOf = kb.map (·.1) := by
   apply List.ext_getElem
   ·simp [hkbl]
   ·intro i hi1 hi2
    simp only [List.length_map] at hi2
    obtain ⟨e2, nil2, g1, g2, _⟩ := hents i hi2
    have hii : i < es.toList.length := by simpa using hi1
    have : es.toList[i] = e2 := by
     have h2 : es.toList[i]? = some e2 := by simpa using g1
     rw [List.getElem?_eq_getElem hii] at h2
     simpa using h2
    simp only [List.getElem_map, this, keyOf, g2]
  rw [h2] at h1
  exact h1.trans (hperm.map _)
 have hvl : vs.length = u.length := by have := hkp.length_eq; simpa using this
 have hul : 0 < u.length := by omega
 obtain ⟨kbk, cap, cur, hsv, hbk, hkc, hncap, hcapm, hcsz, htake⟩ : ∃ kbk cap cur, sv = .slice (some ⟨kbk, 0, none⟩) vs.length cap /\ b <= kbk /\ w.heap[kbk]? = some (.cells cur 58 (0, 0)) /\ vs.length <= cap /\ cap <= maxLen /\ cur.size = cap * 1 /\ cur.toList.take (vs.length * 1) = vs.map (fun e => .int .u32 (keyOf e)) := by
  rcases hown.2 with ⟨_, h⟩ | h
  ·omega
  ·exact h
 subst hsv
 have hne : b + 1 ≠ kbk := fun e => hob kbk rfl e.symm
 have hkt' : w.cell? ⟨b + 1, 0, none⟩ = some (.slice (some ⟨kbk, 0, none⟩) vs.length cap) := by rw [Zc hkt]; rfl
 refine wp_seq (wp_region_lit (Zv rfl (Zl h1S (b := b + 1) (o := 0) ?_ hkt') (Zv rfl (x_makeIface hNI (by rw [Ze, Zq (by omega)])) (Zv rfl x_makeFunc ?_))))
 ·simp (disch := first | omega | simp only [Zs]; omega) only [Zo, Ze, Zn, Zq, a4]
 obtain ⟨d, hd⟩ : ∃ d : Array Int, d = (vs.map keyOf).toArray := ⟨_, rfl⟩
 have hds : d.size = vs.length := by rw [hd]; simp
 have hsort := sort_keys (w := w) (bs := b + 1) (blk := kbk) (c := cap) (d := d) (us := u.map (·.1)) (C := cur) (by rw [hds]; exact hkt) hkc hne (fun j hj => ?_) (by omega) (by rw [hd]; exact hkp.symm) (by rw [List.pairwise_map]; exact hsorted)
 ·rw [hds] at hsort
  refine wpl_call rfl (Zy (by kernel_rfl) rfl) (R := fun e w' => e = .returned (.tuple #[]) /\ Mod (only kbk) w w' /\ ∃ C', w'.heap[kbk]? = some (.cells C' 58 (0, 0)) /\ C'.size = cur.size /\ ∀ j (h : j < (u.map (·.1)).length), C'[j]? = some (.int .u32 (u.map (·.1))[j])) ?_ ?_
  ·have e1 : ∀ (a : Act), Act.get a 34 = .iface 126 (.slice (some ⟨kbk, 0, none⟩) vs.length cap) -> Act.get a 35 = .func (.func 79) #[] #[.pointer (some ⟨b + 1, 0, none⟩)] ->
     (#[Operand.tmp 34, Operand.tmp 35] : Array Operand).map a.eval = #[.iface 126 (.slice (some ⟨kbk, 0, none⟩) vs.length cap), .func (.func 79) #[] #[.pointer (some ⟨b + 1, 0, none⟩)]] := fun a h h' => by simp [Ze, h, h']
   rw [e1 _ ?_ ?_]
   ·exact hsort
   ·simp (disch := first | omega | simp only [Zs]; omega) only [Zo, Ze, Zn, Zq]
   ·rw [Zq (by simp only [Zs]; omega)]
    have : ∀ a : Act, Act.get a 4 = .pointer (some ⟨b + 1, 0, none⟩) -> (#[Operand.tmp 4] : Array Operand).map a.eval = #[.pointer (some ⟨b + 1, 0, none⟩)] := fun a h => by simp [Ze, h]
    rw [this _ (by simp (disch := first | omega | simp only [Zs]; omega) only [Zo, Ze, Zn, Zq, a4])]
  rintro e w5 ⟨rfl, hm5, C', hk5, hC'sz, hC'⟩
  refine ⟨_, rfl, wpList_nil ?_⟩
  have hkt5 := hm5.some hkt (fun e => by have : b + 1 = kbk := e; omega)
  have hkt5' : w5.cell? ⟨b + 1, 0, none⟩ = some (.slice (some ⟨kbk, 0, none⟩) vs.length cap) := by rw [Zc hkt5]; rfl
  have m05 : Mod none' w0 w5 := hmod.trans' hm5 (fun _ _ f => f) (fun i hi q => by have : i = kbk := q; omega)
  refine wp_seq (wp_region_lit (Zv rfl (Zl h1S (b := b + 1) (o := 0) ?_ hkt5') (Zv rfl (x_len (t := 126) (n := vs.length) (cap := cap) (ao := some ⟨kbk, 0, none⟩) (by rw [elemSize_of hI]; rfl) rfl ?_) (Zv rfl Zm (wpList_nil ?_)))))
  ·simp (disch := first | omega | simp only [Zs]; omega) only [Zo, Ze, Zn, Zq, a4]
  ·simp (disch := first | omega | simp only [Zs]; omega) only [Zo, Ze, Zn, Zq]
  refine wp_act (fun a : Act => Act.get a 0 = .pointer (some ⟨tb, off, none⟩) /\ Act.get a 1 = .func (.func g) #[] lb /\ Act.get a 37 = .slice (some ⟨kbk, 0, none⟩) vs.length cap /\ Act.get a 38 = .int .i64 vs.length /\ Act.get a 39 = .int .i64 ((0 : Nat) : Int) /\ a.tmps.size = 53 /\ a.defers = []) ⟨by simp (disch := first | omega | simp only [Zs]; omega) only [Zo, Ze, Zn, Zq, a0], by simp (disch := first | omega | simp only [Zs]; omega) only [Zo, Ze, Zn, Zq, a1], by simp (disch := first | omega | simp only [Zs]; omega) only [Zo, Ze, Zn, Zq], by simp (disch := first | omega | simp only [Zs]; omega) only [Zo, Ze, Zn, Zq], by simp (disch := first | omega | simp only [Zs]; omega) only [Zo, Ze, Zn, Zq]; rfl, by simp only [Zs]; exact aN, by simp only [Zd]; exact ad⟩ ?_
  clear a0 a1 a4 aN ad a
  rintro a ⟨a0, a1, a37, a38, a39, aN, ad⟩
  obtain ⟨B, hB⟩ : ∃ B, B = w5.heap.size := ⟨_, rfl⟩
  have hBw0 : w0.heap.size <= B := by have := m05.size; omega
  have hkbl5 : kbk < B := by rw [hB]; exact lt_of_block hk5
  have hSB : ∀ k, k < B -> ¬ S k -> ¬ (S k \/ B <= k) := fun k hk hs e => by rcases e with e | e; exact hs e; omega
  -- the tags' own entries
  have hOct : ∀ i (h : i < kb.length), ∃ e nil, es[i]? = some e /\ e.key = .int .u32 (kb[i]).1 /\ Oct w0 (fun k => F k /\ k < w0.heap.size) e.val (kb[i]).2 nil := fun i hi => by
   obtain ⟨e2, nil2, g1, g2, g3, _⟩ := hents i hi
   exact ⟨e2, nil2, g1, g2, g3.lt'⟩
  have hkbn : (kb.map (·.1)).Nodup := by
   have : (u.map (·.1)).Nodup := by
    rw [List.Nodup, List.pairwise_map]
    exact hsorted.imp (fun h e => by omega)
   exact ((hperm.map (·.1)).nodup_iff).2 this
  refine wp_mono (Q := fun e a' w' => e = .normal /\ a'.defers = [] /\ Inv B u w' /\ B <= w'.heap.size /\ Mod (fun k => S k \/ B <= k) w5 w') ?_ ?_
  ·refine wp_while
    (I := fun m a w => Act.get a 0 = .pointer (some ⟨tb, off, none⟩) /\ Act.get a 1 = .func (.func g) #[] lb /\ Act.get a 37 = .slice (some ⟨kbk, 0, none⟩) vs.length cap /\ Act.get a 38 = .int .i64 vs.length /\ a.tmps.size = 53 /\ a.defers = [] /\
     ∃ pre suf, u = pre ++ suf /\ suf.length = m /\ Act.get a 39 = .int .i64 (pre.length : Nat) /\ Inv B pre w /\ B <= w.heap.size /\ Mod (fun k => S k \/ B <= k) w5 w)
    (J := fun m a w => Act.get a 0 = .pointer (some ⟨tb, off, none⟩) /\ Act.get a 1 = .func (.func g) #[] lb /\ Act.get a 37 = .slice (some ⟨kbk, 0, none⟩) vs.length cap /\ Act.get a 38 = .int .i64 vs.length /\ a.tmps.size = 53 /\ a.defers = [] /\
     ∃ pre p suf, u = pre ++ p :: suf /\ suf.length = m /\ Act.get a 39 = .int .i64 (pre.length : Nat) /\ Inv B pre w /\ B <= w.heap.size /\ Mod (fun k => S k \/ B <= k) w5 w)
    u.length ?_ ?_ ?_
   ·exact ⟨a0, a1, a37, a38, aN, ad, [], u, rfl, rfl, a39, hstart B w5 hBw0 (by omega) m05, by omega, .refl w5⟩
   ·clear a0 a1 a37 a38 a39 aN ad a
    rintro m a w ⟨a0, a1, a37, a38, aN, ad, pre, suf, hps, hsl, a39, hInv, hBw, hmw⟩
    have hlen : u.length = pre.length + suf.length := by rw [hps]; simp
    refine wp_region_lit (Zv rfl (x_lss (k := .i64) (m := (pre.length : Nat)) (n := vs.length) (by rw [Ze, a39]) (by rw [Ze, a38])) (wpList_nil ⟨rfl, ?_⟩))
    cases suf with
    | nil =>
     right
     have hpu : pre = u := by simpa using hps.symm
     refine ⟨?_, rfl, by simp only [Zd]; exact ad, hpu ▸ hInv, hBw, hmw⟩
     rw [Zq (by omega), show decide (((pre.length : Nat) : Int) < (vs.length : Nat)) = false from decide_eq_false (by simp at hlen; omega)]
    | cons p suf =>
     left
     refine ⟨suf.length, by simp at hsl; omega, ?_, by simp (disch := first | omega | simp only [Zs]; omega) only [Zo, Ze, Zn, Zq, a0], by simp (disch := first | omega | simp only [Zs]; omega) only [Zo, Ze, Zn, Zq, a1], by simp (disch := first | omega | simp only [Zs]; omega) only [Zo, Ze, Zn, Zq, a37], by simp (disch := first | omega | simp only [Zs]; omega) only [Zo, Ze, Zn, Zq, a38], by simp only [Zs]; exact aN, by simp only [Zd]; exact ad, pre, p, suf, hps, rfl, by simp (disch := first | omega | simp only [Zs]; omega) only [Zo, Ze, Zn, Zq, a39], hInv, hBw, hmw⟩
     rw [Zq (by omega), show decide (((pre.length : Nat) : Int) < (vs.length : Nat)) = true from decide_eq_true (by simp at hlen; omega)]
   ·clear a0 a1 a37 a38 a39 aN ad a
    rintro m a w ⟨a0, a1, a37, a38, aN, ad, pre, p, suf, hps, hsl, a39, hInv, hBw, hmw⟩
    have hlen : u.length = pre.length + (suf.length + 1) := by rw [hps]; simp
    have hpl : pre.length < u.length := by omega
    have hup : u[pre.length] = p := by simp [hps]
    have hkw : w.heap[kbk]? = some (.cells C' 58 (0, 0)) := hmw.some hk5 (hSB kbk hkbl5 (fun hs => by have := hS0 _ hs; omega))
    have htbB : ¬ (S tb \/ B <= tb) := hSB tb (by omega) hStb
    have hcellw : w.cell? ⟨tb, off + 0, none⟩ = some (.map (some r)) := by
     rw [World.cell?_of_block (hmw.block tb (by omega) htbB), World.cell?_of_block (m05.block tb htl (fun f => f))]; exact hcell'
    have hesw : w.heap[r]? = some (.map es clock) := hmw.some (m05.some hes (fun f => f)) (hSB r (by omega) (hFS r hFr))
    have hCp : C'[pre.length]? = some (.int .u32 p.1) := by
     have := hC' pre.length (by simpa using hpl)
     rw [this]
     simp [hup]
    have hget : ∃ i val nil, Instr.findNow (.int .u32) (.int .u32 p.1) es.toList 0 = some (some (i, val)) /\ Oct w0 (fun k => F k /\ k < w0.heap.size) val p.2 nil := by
     have hpu : p ∈ u := by rw [hps]; simp
     rcases findNow_spec p.1 kb es.toList 0 (by simpa using hkbl) (fun i hi => by obtain ⟨e, nil, g1, g2, _⟩ := hents i hi; exact ⟨e, by simpa using g1, g2⟩) with ⟨i, val, g1, g2, g3, e, g4, g5⟩ | ⟨g1, _⟩
     ·obtain ⟨e2, nil2, q1, q2, q3⟩ := hOct i g1
      have he2 : e = e2 := by
       have : es.toList[i]? = some e2 := by simpa using q1
       rw [g4] at this
       simpa using this
      refine ⟨0 + i, val, nil2, g3, ?_⟩
      have hkp : kb[i] = p := by
       have h1 : kb[i] ∈ u := hperm.mem_iff.1 (List.getElem_mem g1)
       rw [List.getElem?_eq_getElem g1] at g2
       simp at g2
       obtain ⟨x, hx, ex⟩ := List.getElem_of_mem h1
       obtain ⟨y, hy, ey⟩ := List.getElem_of_mem hpu
       have hpw := List.pairwise_iff_getElem.1 hsorted
       rcases Nat.lt_trichotomy x y with h | h | h
       ·have := hpw x y hx hy h; rw [ex, ey] at this; omega
       ·subst h; rw [<- ex, ey]
       ·have := hpw y x hy hx h; rw [ex, ey] at this; omega
      rw [hkp] at q3
      rw [<- g5, he2]
      exact q3
     ·exact (g1 p (hperm.mem_iff.2 hpu) rfl).elim
    obtain ⟨ii, val, nilv, hfind, hoct0⟩ := hget
    have hoct : Oct w F val p.2 nilv := (hoct0.mod (F' := fun k => F k /\ k < w0.heap.size) m05 (fun _ _ f => f) (fun _ h => h)).mod hmw (fun k hk => hSB k (by omega) (hFS k hk.1)) (fun _ h => h.1)
    have hinp := hkeys p (by rw [hps]; simp)
    refine wp_seq (wp_block_plain ?_ ?_)
    ·intro id a w h
     exact h
    refine wp_seq (wp_region_lit (Zv rfl (Zx (b := kbk) (o := 0) (n := vs.length) (cap := cap) (i := pre.length) (sz := 1) (k := .i64) (elemSize_of hI) (by rw [Ze, a37]) (by simp (disch := first | omega | simp only [Zs]; omega) only [Zo, Ze, Zn, Zq, a39]) (by omega)) (Zv rfl (Zl h1U (b := kbk) (o := 0 + pre.length * 1) (v := .int .u32 p.1) ?_ (by rw [Zc hkw, Nat.zero_add, Nat.mul_one]; exact hCp)) (Zv rfl Zi (wpList_nil ?_)))))
    ·simp (disch := first | omega | simp only [Zs]; omega) only [Zo, Ze, Zn, Zq]
    refine wp_act (fun a : Act => Act.get a 0 = .pointer (some ⟨tb, off, none⟩) /\ Act.get a 1 = .func (.func g) #[] lb /\ Act.get a 7 = .int .u32 p.1 /\ Act.get a 37 = .slice (some ⟨kbk, 0, none⟩) vs.length cap /\ Act.get a 38 = .int .i64 vs.length /\ Act.get a 39 = .int .i64 (pre.length : Nat) /\ a.tmps.size = 53 /\ a.defers = []) ⟨by simp (disch := first | omega | simp only [Zs]; omega) only [Zo, Ze, Zn, Zq, a0], by simp (disch := first | omega | simp only [Zs]; omega) only [Zo, Ze, Zn, Zq, a1], by simp (disch := first | omega | simp only [Zs]; omega) only [Zo, Ze, Zn, Zq], by simp (disch := first | omega | simp only [Zs]; omega) only [Zo, Ze, Zn, Zq, a37], by simp (disch := first | omega | simp only [Zs]; omega) only [Zo, Ze, Zn, Zq, a38], by simp (disch := first | omega | simp only [Zs]; omega) only [Zo, Ze, Zn, Zq, a39], by simp only [Zs]; exact aN, by simp only [Zd]; exact ad⟩ ?_
    clear a0 a1 a37 a38 a39 aN ad a
    rintro a ⟨a0, a1, a7, a37, a38, a39, aN, ad⟩
    refine wp_region_lit (Zv rfl Zm (Zv rfl Zm (Zv rfl Zm (Zv rfl (x_nilCheck (q := ⟨tb, off, none⟩) ?_) (Zv rfl (Za hF0 (b := tb) (o0 := off) ?_) (Zv rfl (Zl h1M (b := tb) (o := off + 0) ?_ hcellw) (Zv rfl Zm (Zv rfl (x_lookup (xv := .map (some r)) (yv := .int .u32 p.1) ?_ ?_ (run_mapGet hM hesw hfind)) (wpl_call rfl (x_callv (lb := lb) hbg ?_) (R := fun e w2 => (∃ r, e = .returned r) /\ Inv B (pre ++ [p]) w2 /\ Mod (fun k => S k \/ B <= k) w w2) ?_ ?_)))))))))
    ·simp (disch := first | omega | simp only [Zs]; omega) only [Zo, Ze, Zn, Zq, a0]
    ·simp (disch := first | omega | simp only [Zs]; omega) only [Zo, Ze, Zn, Zq]
    ·simp (disch := first | omega | simp only [Zs]; omega) only [Zo, Ze, Zn, Zq]
    ·simp (disch := first | omega | simp only [Zs]; omega) only [Zo, Ze, Zn, Zq]
    ·simp (disch := first | omega | simp only [Zs]; omega) only [Zo, Ze, Zn, Zq, a7]
    ·simp (disch := first | omega | simp only [Zs]; omega) only [Zo, Ze, Zn, Zq, a1]
    ·have e1 : ∀ (a : Act), Act.get a 44 = .int .u32 p.1 -> Act.get a 50 = val -> (#[Operand.tmp 44, Operand.tmp 50] : Array Operand).map a.eval = #[.int .u32 p.1, val] := fun a h h' => by simp [Ze, h, h']
     rw [e1 _ (by simp (disch := first | omega | simp only [Zs]; omega) only [Zo, Ze, Zn, Zq, a7]) (by simp (disch := first | omega | simp only [Zs]; omega) only [Zo, Ze, Zn, Zq])]
     exact hstep B pre p suf w val nilv hps hBw0 hBw hInv hoct hinp
    rintro e w2 ⟨⟨rr, rfl⟩, hInv2, hm2⟩
    have hsz2 := hm2.size
    refine ⟨rr, rfl, wpList_nil ?_⟩
    refine wp_region_lit (Zv rfl (x_add (k := .i64) (m := (pre.length : Nat)) (n := 1) ?_ rfl) (Zv rfl Zm (wpList_nil ⟨by simp (disch := first | omega | simp only [Zs]; omega) only [Zo, Ze, Zn, Zq, a0], by simp (disch := first | omega | simp only [Zs]; omega) only [Zo, Ze, Zn, Zq, a1], by simp (disch := first | omega | simp only [Zs]; omega) only [Zo, Ze, Zn, Zq, a37], by simp (disch := first | omega | simp only [Zs]; omega) only [Zo, Ze, Zn, Zq, a38], by simp only [Zs]; exact aN, by simp only [Zd]; exact ad, pre ++ [p], suf, by simp [hps], hsl, ?_, hInv2, by omega, hmw.trans hm2⟩)))
    ·simp (disch := first | omega | simp only [Zs]; omega) only [Zo, Ze, Zn, Zq, a39]
    ·simp (disch := first | omega | simp only [Zs]; omega) only [Zo, Ze, Zn, Zq]
     rw [show IntKind.i64.wrap (((pre.length : Nat) : Int) + 1) = (((pre ++ [p]).length : Nat) : Int) from by rw [IntKind.wrap_i64]; simp; omega]
  ·rintro e a' w' ⟨rfl, hd', hI', hBw, hmw⟩
   refine ⟨hd', .tuple #[], by simp [results, Tryd.results45], ⟨_, rfl⟩, ⟨B, by omega, hBw, hI'⟩, ?_⟩
   exact m05.trans' hmw (fun _ _ f => f.elim) (fun i hi e => by rcases e with e | e; exact e; omega)
 ·rw [hds] at hj
  have h1 : (cur.toList.take (vs.length * 1))[j]? = some (.int .u32 (d[j]!)) := by
   rw [htake, hd]
   simp [hj]
  rw [List.getElem?_take] at h1
  rw [if_pos (by omega)] at h1
  simpa using h1
end Go.Proofs.YtcldbjehliladaaDoor
