/-
  impl.sorted leaves tags that stand by rising numbers as they are.
-/
import Derived.Test.YtcldbjehliladaaDoorPEa
import Derived.Test.YtcldbjehliladaaDoorPTelS
set_option linter.unusedSimpArgs false
set_option linter.unusedVariables false
namespace Go.Proofs.YtcldbjehliladaaDoor
open Go Go.RowKit
section
variable {P : Program} {Q : Exit -> Act -> World -> Prop}
def VStep2 (P : Program) (dl : List Nat) (vl : List Value) (Q : Exit -> Act -> World -> Prop) (a0 : Act) (w : World) (i : Nat) (o : Oper) : Prop :=
 ∀ a w', Mod none' w w' -> SameBut (fun t => t ∈ dl) a0 a -> (∀ e ∈ o.after, Region.binds .any e = true -> Act.get a (dl.getD e.on 0) = vl.getD e.on undef) ->
  (GuardIs dl a o.guard true /\ o.wp P a w' (fun a' w'' => a' = a.put (some (dl.getD i 0)) (vl.getD i undef) /\ Mod none' w' w'') Q) \/ (GuardIs dl a o.guard false /\ undef = vl.getD i undef)
def VList2 (P : Program) (dl : List Nat) (vl : List Value) (Q : Exit -> Act -> World -> Prop) (a0 : Act) (w : World) : Nat -> List Oper -> Prop
 | _, [] => True
 | i, o :: os => VStep2 P dl vl Q a0 w i o /\ VList2 P dl vl Q a0 w (i + 1) os
theorem VList2.toG {dl : List Nat} {vl : List Value} {a0 : Act} {w : World} (hl : vl.length = dl.length) : ∀ (l : List Oper) (k : Nat), k + l.length <= dl.length -> (∀ o ∈ l, ∀ e ∈ o.after, Region.binds .any e = true -> e.on < dl.length) -> VList2 P dl vl Q a0 w k l ->
  RGListG P (Mod none') (vl.map fun v => fun (x : Value) (_ : World) => x = v) dl Q a0 w k l
 | [], _, _, _, _ => trivial
 | o :: l, k, hk, he, h => by
  refine ⟨fun a w' hr hs hd => ?_, VList2.toG hl l (k + 1) (by simp at hk; omega) (fun o ho => he o (List.mem_cons_of_mem _ ho)) h.2⟩
  rcases h.1 a w' hr hs fun e hm hb => (vl_get _ _ _ w').1 (hd e hm hb) (by rw [hl]; exact he o (List.mem_cons_self ..) e hm hb) with ⟨hg, hw⟩ | ⟨hg, hv⟩
  ·refine .inl ⟨hg, Oper.wp_mono ?_ hw⟩
   rintro a' w'' ⟨h1, h2⟩
   exact ⟨_, h1, h2, (vl_get _ _ _ _).2 fun _ => rfl⟩
  ·exact .inr ⟨hg, (vl_get _ _ _ _).2 fun _ => hv⟩
theorem region_vals2 {id : Nat} {l tl : List Oper} {a0 : Act} {w : World} (hm : P.follows .mixedOrders = true) (dl : List Nat) (vl : List Value) (hl : vl.length = dl.length) (hform : regFormG l dl = true) (hnd : dl.Nodup) (hb : ∀ d ∈ dl, d < a0.tmps.size) (htl0 : 0 < tl.length)
  (hchk : (Region.sinkB .any (l ++ tl).toArray l.length && Region.chainB .any (l ++ tl).toArray l.length && Region.seqB .any (l ++ tl).toArray tl.length l.length (headDone l.length tl.length) && regEdges l 0) = true)
  (steps : VList2 P dl vl Q a0 w 0 l)
  (htail : ∀ a w', Mod none' w w' -> SameBut (fun t => t ∈ dl) a0 a -> (∀ i, i < l.length -> Act.get a (dl.getD i 0) = vl.getD i undef) -> wpList P (l ++ tl).toArray Q tl a w') :
  (Code.region id (l ++ tl).toArray true).wp P Q a0 w := by
 have hlen : l.length = dl.length := by
  simp only [regFormG, beq_iff_eq] at hform
  have := congrArg List.length hform; simpa using this
 have hedge : ∀ o ∈ l, ∀ e ∈ o.after, Region.binds .any e = true -> e.on < dl.length := by
  intro o ho e he hbi
  simp only [Bool.and_eq_true] at hchk
  obtain ⟨i, hi, rfl⟩ := List.getElem_of_mem ho
  have := regEdges_spec l 0 hchk.2 i _ (List.getElem?_eq_getElem hi) e he hbi
  omega
 refine region_rlg hm (Mod none') (Mod.refl w).drew (fun a => .refl a) (fun _ _ _ h h' => h.trans h') dl _ ?_ hform hnd hb htl0 hchk (VList2.toG hl l 0 (by omega) hedge steps) ?_
 ·intro g hg v w1 w2 h1 _
  obtain ⟨u, _, rfl⟩ := List.mem_map.1 hg
  exact h1
 ·intro a w' hr hs hh
  exact htail a w' hr hs fun i hi => (vl_get _ _ _ w').1 (hh i hi) (by omega)
theorem Zt {o : Oper} {dl : List Nat} {a : Act} {v : Value} {w' : World} {t : Nat} {R : Prop} (hg : GuardIs dl a o.guard true) (ho : o.dst = some t) (h : (execOp a.eval o).run P w' = .ok (.value v) w') :
  (GuardIs dl a o.guard true /\ o.wp P a w' (fun a' w'' => a' = a.put (some t) v /\ Mod none' w' w'') Q) \/ R := .inl (vstep_val hg ho h)
end
theorem elems_slice' {w : World} {F : Nat -> Prop} {v : Value} {n sz : Nat} {f : Nat -> Nat -> Value} (h : Elems w F v n sz f) : ∃ ao cap, v = .slice ao n cap /\
  (0 < n -> ∃ k off C t fr, ao = some ⟨k, off, none⟩ /\ w.heap[k]? = some (.cells C t fr) /\ ∀ i, i < n -> ∀ j, j < sz -> C[off + i * sz + j]? = some (f i j)) := by
 rcases h with ⟨h, h'⟩ | ⟨k, off, cap, C, t, fr, h1, h2, h3, h4, h5, h6⟩
 ·exact ⟨none, 0, by rw [h', h], fun h0 => by omega⟩
 ·exact ⟨_, cap, h2, fun _ => ⟨k, off, C, t, fr, rfl, h5, h6⟩⟩
theorem sdTypes : elemInfo Tryd.prog 24 61 2 = true /\ fieldOff Tryd.prog 61 0 = some 0 /\ one Tryd.prog 58 = true /\ Tryd.prog.follows .mixedOrders = true := ⟨by kernel_rfl, by kernel_rfl, by kernel_rfl, rfl⟩
def SortedC (P : Program) (f : FuncId) : Prop := ∀ (w : World) (F : Nat -> Prop) (v : Value) (u : Tags) (g : Nat -> Nat -> Value), Elems w F v u.length 2 g -> (∀ i (h : i < u.length), g i 0 = .int .u32 (u[i]).1) -> u.Pairwise (fun p q => p.1 < q.1) -> u.length <= 4294967295 ->
 Calls P f #[v] w fun e w' => (∃ r, e = .returned r) /\ Mod none' w w'
set_option maxHeartbeats 4000000 in
theorem sorted_spec : SortedC Tryd.prog 47 := by
 intro w0 F v u g hE hg hsorted hul
 obtain ⟨hI, hF0, h1U, hord⟩ := sdTypes
 obtain ⟨ao, cap, hv, hcells⟩ := elems_slice' hE
 refine calls_of_wp Tryd.func47 rfl ?_
 rw [Tryd.ntmps47]
 refine wp_act (fun a : Act => Act.get a 0 = v /\ a.tmps.size = 45 /\ a.defers = []) ⟨by rw [Zj _ _ _ (by simp)]; rfl, by simp, rfl⟩ ?_
 rintro a ⟨a0, aN, ad⟩
 subst hv
 refine wp_seq (wp_region_lit (Zv rfl Zm (Zv rfl (x_len (t := 24) (n := u.length) (cap := cap) (ao := ao) (by rw [elemSize_of hI]; rfl) rfl (by simp (disch := first | omega | simp only [Zs]; omega) only [Zo, Ze, Zn, Zq, a0])) (Zv rfl Zm (wpList_nil ?_)))))
 refine wp_mono (Q := fun e a' w' => e = .normal /\ a'.defers = [] /\ Mod none' w0 w') ?_ ?_
 ·refine wp_while
   (I := fun m a w => Act.get a 0 = .slice ao u.length cap /\ Act.get a 5 = .int .i64 u.length /\ (∃ i : Nat, i + m = u.length /\ Act.get a 6 = .int .i64 i) /\ a.tmps.size = 45 /\ a.defers = [] /\ Mod none' w0 w)
   (J := fun m a w => Act.get a 0 = .slice ao u.length cap /\ Act.get a 5 = .int .i64 u.length /\ (∃ i : Nat, i + (m + 1) = u.length /\ Act.get a 6 = .int .i64 i) /\ a.tmps.size = 45 /\ a.defers = [] /\ Mod none' w0 w)
   u.length ?_ ?_ ?_
  ·exact ⟨by simp (disch := first | omega | simp only [Zs]; omega) only [Zo, Ze, Zn, Zq, a0], by simp (disch := first | omega | simp only [Zs]; omega) only [Zo, Ze, Zn, Zq], ⟨0, by omega, by simp (disch := first | omega | simp only [Zs]; omega) only [Zo, Ze, Zn, Zq]; rfl⟩, by simp only [Zs]; exact aN, by simp only [Zd]; exact ad, .refl w0⟩
  ·clear a0 aN ad a
   rintro m a w ⟨a0, a5, ⟨i, him, a6⟩, aN, ad, hmod⟩
   refine wp_region_lit (Zv rfl (x_lss (k := .i64) (m := (i : Nat)) (n := u.length) (by rw [Ze, a6]) (by rw [Ze, a5])) (wpList_nil ⟨rfl, ?_⟩))
   cases m with
   | zero =>
    right
    exact ⟨by rw [Zq (by omega), show decide (((i : Nat) : Int) < (u.length : Nat)) = false from decide_eq_false (by omega)], rfl, by simp only [Zd]; exact ad, hmod⟩
   | succ m =>
    left
    exact ⟨m, by omega, by rw [Zq (by omega), show decide (((i : Nat) : Int) < (u.length : Nat)) = true from decide_eq_true (by omega)], by simp (disch := first | omega | simp only [Zs]; omega) only [Zo, Ze, Zn, Zq, a0], by simp (disch := first | omega | simp only [Zs]; omega) only [Zo, Ze, Zn, Zq, a5], ⟨i, him, by simp (disch := first | omega | simp only [Zs]; omega) only [Zo, Ze, Zn, Zq, a6]⟩, by simp only [Zs]; exact aN, by simp only [Zd]; exact ad, hmod⟩
  ·clear a0 aN ad a
   rintro m a w ⟨a0, a5, ⟨i, him, a6⟩, aN, ad, hmod⟩
   have hil : i < u.length := by omega
   refine wp_seq (wp_block_plain ?_ ?_)
   ·intro id a w h; exact h
   refine wp_seq (wp_region_lit (Zv rfl Zm (Zv rfl Zi (wpList_nil ?_))))
   refine wp_seq (wp_region_lit (Zv rfl Zm (Zv rfl Zi (wpList_nil ?_))))
   refine wp_act (fun a : Act => Act.get a 0 = .slice ao u.length cap /\ Act.get a 5 = .int .i64 u.length /\ Act.get a 6 = .int .i64 i /\ Act.get a 3 = .int .i64 i /\ a.tmps.size = 45 /\ a.defers = []) ⟨by simp (disch := first | omega | simp only [Zs]; omega) only [Zo, Ze, Zn, Zq, a0], by simp (disch := first | omega | simp only [Zs]; omega) only [Zo, Ze, Zn, Zq, a5], by simp (disch := first | omega | simp only [Zs]; omega) only [Zo, Ze, Zn, Zq, a6], by simp (disch := first | omega | simp only [Zs]; omega) only [Zo, Ze, Zn, Zq, a6], by simp only [Zs]; exact aN, by simp only [Zd]; exact ad⟩ ?_
   clear a0 a5 a6 aN ad a
   rintro a ⟨a0, a5, a6, a3, aN, ad⟩
   -- the test of the inner loop is never true
   refine wp_block (wp_loop_once ?_)
   refine wp_seq (wp_seq (wp_mono (Q := fun e a' w' => e = .normal /\ Act.get a' 25 = .bool false /\ Act.get a' 0 = .slice ao u.length cap /\ Act.get a' 5 = .int .i64 u.length /\ Act.get a' 6 = .int .i64 i /\ a'.tmps.size = 45 /\ a'.defers = [] /\ Mod none' w0 w') ?_ ?_))
   ·obtain ⟨k, lo, C, t, fr, hao, hk, hC⟩ := hcells (by omega)
    have hkw := hmod.some hk (fun f => f)
    by_cases hi0 : i = 0
    ·refine region_vals2 (l := [_, _, _, _, _, _, _, _, _, _, _, _, _, _, _]) (tl := [_]) hord [10, 11, 12, 13, 14, 15, 16, 17, 18, 19, 20, 21, 22, 23, 24] [(.int .i64 i), (.bool false), (.bool false), undef, undef, undef, undef, undef, undef, undef, undef, undef, undef, undef, undef] rfl (by rfl) (by decide) (fun d hd => by simp at hd; omega) (by simp) (by kernel_rfl) ⟨?_, ?_, ?_, ?_, ?_, ?_, ?_, ?_, ?_, ?_, ?_, ?_, ?_, ?_, ?_, trivial⟩ ?_
     ·intro a1 w1 hr hs hd
      have t3 := (hs.get 3 (by simp)).trans a3
      exact Zt rfl rfl (x_moveV t3)
     ·intro a1 w1 hr hs hd
      have e0 : Act.get a1 10 = (.int .i64 i) := hd ⟨0, .data⟩ (by simp) rfl
      exact Zt rfl rfl ((x_gtr (k := .i64) (m := i) (n := 0) e0 rfl).trans (by rw [show decide ((0 : Int) < (i : Int)) = false from by first | exact decide_eq_true (by omega) | exact decide_eq_false (by omega)]; first | done | rfl))
     ·intro a1 w1 hr hs hd
      have e1 : Act.get a1 11 = .bool false := hd ⟨1, .data⟩ (by simp) rfl
      exact Zt rfl rfl (x_moveV e1)
     ·intro a1 w1 hr hs hd
      exact .inr ⟨⟨by simp, false, hd ⟨2, .guard⟩ (by simp) rfl, rfl⟩, rfl⟩
     ·intro a1 w1 hr hs hd
      exact .inr ⟨⟨by simp, false, hd ⟨2, .guard⟩ (by simp) rfl, rfl⟩, rfl⟩
     ·intro a1 w1 hr hs hd
      exact .inr ⟨⟨by simp, false, hd ⟨2, .guard⟩ (by simp) rfl, rfl⟩, rfl⟩
     ·intro a1 w1 hr hs hd
      exact .inr ⟨⟨by simp, false, hd ⟨2, .guard⟩ (by simp) rfl, rfl⟩, rfl⟩
     ·intro a1 w1 hr hs hd
      exact .inr ⟨⟨by simp, false, hd ⟨2, .guard⟩ (by simp) rfl, rfl⟩, rfl⟩
     ·intro a1 w1 hr hs hd
      exact .inr ⟨⟨by simp, false, hd ⟨2, .guard⟩ (by simp) rfl, rfl⟩, rfl⟩
     ·intro a1 w1 hr hs hd
      exact .inr ⟨⟨by simp, false, hd ⟨2, .guard⟩ (by simp) rfl, rfl⟩, rfl⟩
     ·intro a1 w1 hr hs hd
      exact .inr ⟨⟨by simp, false, hd ⟨2, .guard⟩ (by simp) rfl, rfl⟩, rfl⟩
     ·intro a1 w1 hr hs hd
      exact .inr ⟨⟨by simp, false, hd ⟨2, .guard⟩ (by simp) rfl, rfl⟩, rfl⟩
     ·intro a1 w1 hr hs hd
      exact .inr ⟨⟨by simp, false, hd ⟨2, .guard⟩ (by simp) rfl, rfl⟩, rfl⟩
     ·intro a1 w1 hr hs hd
      exact .inr ⟨⟨by simp, false, hd ⟨2, .guard⟩ (by simp) rfl, rfl⟩, rfl⟩
     ·intro a1 w1 hr hs hd
      exact .inr ⟨⟨by simp, false, hd ⟨2, .guard⟩ (by simp) rfl, rfl⟩, rfl⟩
     ·intro a1 w1 hr hs hh
      have e2 : Act.get a1 12 = .bool false := hh 2 (by simp)
      refine Zv rfl (x_pickF (v := .bool false) e2 rfl) (wpList_nil ?_)
      have sN := hs.size
      have t0 := (hs.get 0 (by simp)).trans a0
      have t5 := (hs.get 5 (by simp)).trans a5
      have t6 := (hs.get 6 (by simp)).trans a6
      exact ⟨rfl, by rw [Zq (by omega)], by simp (disch := first | omega | simp only [Zs]; omega) only [Zo, Ze, Zn, Zq, t0], by simp (disch := first | omega | simp only [Zs]; omega) only [Zo, Ze, Zn, Zq, t5], by simp (disch := first | omega | simp only [Zs]; omega) only [Zo, Ze, Zn, Zq, t6], by simp only [Zs]; omega, by simp only [Zd]; exact hs.defers.trans ad, hmod.trans hr⟩
    have hpw := List.pairwise_iff_getElem.1 hsorted (i - 1) i (by omega) hil (by omega)
    refine region_vals2 (l := [_, _, _, _, _, _, _, _, _, _, _, _, _, _, _]) (tl := [_]) hord [10, 11, 12, 13, 14, 15, 16, 17, 18, 19, 20, 21, 22, 23, 24] [(.int .i64 i), (.bool true), (.bool true), (.slice ao u.length cap), (.int .i64 i), (.pointer (some ⟨k, lo + i * 2, none⟩)), (.pointer (some ⟨k, lo + i * 2 + 0, none⟩)), (.int .u32 (u[i]).1), (.slice ao u.length cap), (.int .i64 i), (.int .i64 ((i : Int) - 1)), (.pointer (some ⟨k, lo + (i - 1) * 2, none⟩)), (.pointer (some ⟨k, lo + (i - 1) * 2 + 0, none⟩)), (.int .u32 (u[i - 1]).1), (.bool false)] rfl (by rfl) (by decide) (fun d hd => by simp at hd; omega) (by simp) (by kernel_rfl) ⟨?_, ?_, ?_, ?_, ?_, ?_, ?_, ?_, ?_, ?_, ?_, ?_, ?_, ?_, ?_, trivial⟩ ?_
    ·intro a1 w1 hr hs hd
     have t3 := (hs.get 3 (by simp)).trans a3
     exact Zt rfl rfl (x_moveV t3)
    ·intro a1 w1 hr hs hd
     have e0 : Act.get a1 10 = (.int .i64 i) := hd ⟨0, .data⟩ (by simp) rfl
     exact Zt rfl rfl ((x_gtr (k := .i64) (m := i) (n := 0) e0 rfl).trans (by rw [show decide ((0 : Int) < (i : Int)) = true from by first | exact decide_eq_true (by omega) | exact decide_eq_false (by omega)]; first | done | rfl))
    ·intro a1 w1 hr hs hd
     have e1 : Act.get a1 11 = .bool true := hd ⟨1, .data⟩ (by simp) rfl
     exact Zt rfl rfl (x_moveV e1)
    ·intro a1 w1 hr hs hd
     have t0 := (hs.get 0 (by simp)).trans a0
     exact Zt ⟨by simp, true, hd ⟨2, .guard⟩ (by simp) rfl, rfl⟩ rfl (x_moveV t0)
    ·intro a1 w1 hr hs hd
     have t3 := (hs.get 3 (by simp)).trans a3
     exact Zt ⟨by simp, true, hd ⟨2, .guard⟩ (by simp) rfl, rfl⟩ rfl (x_moveV t3)
    ·intro a1 w1 hr hs hd
     have e3 : Act.get a1 13 = (.slice ao u.length cap) := hd ⟨3, .data⟩ (by simp) rfl
     have e4 : Act.get a1 14 = (.int .i64 i) := hd ⟨4, .data⟩ (by simp) rfl
     exact Zt ⟨by simp, true, hd ⟨2, .guard⟩ (by simp) rfl, rfl⟩ rfl (Zx (b := k) (o := lo) (n := u.length) (cap := cap) (i := i) (sz := 2) (k := .i64) (elemSize_of hI) (by rw [<- hao]; exact e3) e4 hil)
    ·intro a1 w1 hr hs hd
     have e5 : Act.get a1 15 = (.pointer (some ⟨k, lo + i * 2, none⟩)) := hd ⟨5, .data⟩ (by simp) rfl
     exact Zt ⟨by simp, true, hd ⟨2, .guard⟩ (by simp) rfl, rfl⟩ rfl (Za hF0 e5)
    ·intro a1 w1 hr hs hd
     have e6 : Act.get a1 16 = (.pointer (some ⟨k, lo + i * 2 + 0, none⟩)) := hd ⟨6, .data⟩ (by simp) rfl
     exact Zt ⟨by simp, true, hd ⟨2, .guard⟩ (by simp) rfl, rfl⟩ rfl (Zl h1U e6 ((Zc (hr.some hkw (fun f => f))).trans ((hC i hil 0 (by omega)).trans (congrArg some (hg i hil)))))
    ·intro a1 w1 hr hs hd
     have t0 := (hs.get 0 (by simp)).trans a0
     exact Zt ⟨by simp, true, hd ⟨2, .guard⟩ (by simp) rfl, rfl⟩ rfl (x_moveV t0)
    ·intro a1 w1 hr hs hd
     have t3 := (hs.get 3 (by simp)).trans a3
     exact Zt ⟨by simp, true, hd ⟨2, .guard⟩ (by simp) rfl, rfl⟩ rfl (x_moveV t3)
    ·intro a1 w1 hr hs hd
     have e9 : Act.get a1 19 = (.int .i64 i) := hd ⟨9, .data⟩ (by simp) rfl
     exact Zt ⟨by simp, true, hd ⟨2, .guard⟩ (by simp) rfl, rfl⟩ rfl ((x_sub (k := .i64) (m := i) (n := 1) e9 rfl).trans (by rw [show IntKind.i64.wrap ((i : Int) - 1) = (i : Int) - 1 from by rw [IntKind.wrap_i64]; omega]; first | done | rfl))
    ·intro a1 w1 hr hs hd
     have e8 : Act.get a1 18 = (.slice ao u.length cap) := hd ⟨8, .data⟩ (by simp) rfl
     have e10 : Act.get a1 20 = (.int .i64 ((i : Int) - 1)) := hd ⟨10, .data⟩ (by simp) rfl
     exact Zt ⟨by simp, true, hd ⟨2, .guard⟩ (by simp) rfl, rfl⟩ rfl (Zx (b := k) (o := lo) (n := u.length) (cap := cap) (i := i - 1) (sz := 2) (k := .i64) (elemSize_of hI) (by rw [<- hao]; exact e8) (by rw [show ((i - 1 : Nat) : Int) = (i : Int) - 1 from by omega]; exact e10) (by omega))
    ·intro a1 w1 hr hs hd
     have e11 : Act.get a1 21 = (.pointer (some ⟨k, lo + (i - 1) * 2, none⟩)) := hd ⟨11, .data⟩ (by simp) rfl
     exact Zt ⟨by simp, true, hd ⟨2, .guard⟩ (by simp) rfl, rfl⟩ rfl (Za hF0 e11)
    ·intro a1 w1 hr hs hd
     have e12 : Act.get a1 22 = (.pointer (some ⟨k, lo + (i - 1) * 2 + 0, none⟩)) := hd ⟨12, .data⟩ (by simp) rfl
     exact Zt ⟨by simp, true, hd ⟨2, .guard⟩ (by simp) rfl, rfl⟩ rfl (Zl h1U e12 ((Zc (hr.some hkw (fun f => f))).trans ((hC (i - 1) (by omega) 0 (by omega)).trans (congrArg some (hg (i - 1) (by omega))))))
    ·intro a1 w1 hr hs hd
     have e7 : Act.get a1 17 = (.int .u32 (u[i]).1) := hd ⟨7, .data⟩ (by simp) rfl
     have e13 : Act.get a1 23 = (.int .u32 (u[i - 1]).1) := hd ⟨13, .data⟩ (by simp) rfl
     exact Zt ⟨by simp, true, hd ⟨2, .guard⟩ (by simp) rfl, rfl⟩ rfl ((x_lss (k := .u32) (m := (u[i]).1) (n := (u[i - 1]).1) e7 e13).trans (by rw [show decide ((u[i]).1 < (u[i - 1]).1) = false from decide_eq_false (by omega)]; first | done | rfl))
    ·intro a1 w1 hr hs hh
     have e2 : Act.get a1 12 = .bool true := hh 2 (by simp)
     have e14 : Act.get a1 24 = .bool false := hh 14 (by simp)
     refine Zv rfl (x_pickT (v := .bool false) e2 e14) (wpList_nil ?_)
     have sN := hs.size
     have t0 := (hs.get 0 (by simp)).trans a0
     have t5 := (hs.get 5 (by simp)).trans a5
     have t6 := (hs.get 6 (by simp)).trans a6
     exact ⟨rfl, by rw [Zq (by omega)], by simp (disch := first | omega | simp only [Zs]; omega) only [Zo, Ze, Zn, Zq, t0], by simp (disch := first | omega | simp only [Zs]; omega) only [Zo, Ze, Zn, Zq, t5], by simp (disch := first | omega | simp only [Zs]; omega) only [Zo, Ze, Zn, Zq, t6], by simp only [Zs]; omega, by simp only [Zd]; exact hs.defers.trans ad, hmod.trans hr⟩
   ·rintro e a w ⟨rfl, a25, a0, a5, a6, aN, ad, hmod⟩
    refine wp_cond_false (by rw [Ze]; exact a25) (wp_exit ?_)
    simp only [Exit.then, Exit.inBlock, if_true]
    refine wp_region_lit (Zv rfl (x_add (k := .i64) (m := (i : Nat)) (n := 1) (by rw [Ze, a6]) rfl) (Zv rfl Zm (wpList_nil ⟨by simp (disch := first | omega | simp only [Zs]; omega) only [Zo, Ze, Zn, Zq, a0], by simp (disch := first | omega | simp only [Zs]; omega) only [Zo, Ze, Zn, Zq, a5], ⟨i + 1, by omega, ?_⟩, by simp only [Zs]; exact aN, by simp only [Zd]; exact ad, hmod⟩)))
    simp (disch := first | omega | simp only [Zs]; omega) only [Zo, Ze, Zn, Zq]
    rw [show IntKind.i64.wrap (((i : Nat) : Int) + 1) = ((i + 1 : Nat) : Int) from by rw [IntKind.wrap_i64]; omega]
 ·rintro e a' w' ⟨rfl, hd, hm⟩
  exact ⟨hd, .tuple #[], by simp [results, Tryd.results47], ⟨_, rfl⟩, hm⟩
end Go.Proofs.YtcldbjehliladaaDoor
