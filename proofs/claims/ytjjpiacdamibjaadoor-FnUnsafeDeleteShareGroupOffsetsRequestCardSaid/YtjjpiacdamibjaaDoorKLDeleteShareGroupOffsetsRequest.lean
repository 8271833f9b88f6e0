/-
  FnUnsafeDeleteShareGroupOffsetsRequest: the walk through the law.
-/
import Derived.Test.YtjjpiacdamibjaaDoorKMDeleteShareGroupOffsetsRequest
import Derived.Test.YtjjpiacdamibjaaDoorKLaw
set_option linter.unusedSimpArgs false
set_option linter.unusedVariables false
namespace Go.Proofs.YtjjpiacdamibjaaDoor
open Go Go.RowKit

theorem max_DeleteShareGroupOffsetsRequest (w : World) : Calls Tryd.prog 5 #[] w fun e w' => e = .returned (.int .i64 (0 : Int)) ∧ Mod none' w w' := by
  refine calls_of_wp Tryd.func5 rfl ?_
  refine wp_act (fun a : Act => a.tmps.size = 4 ∧ a.defers = []) ⟨rfl, rfl⟩ ?_
  rintro a ⟨aN, ad⟩
  refine wp_seq (wp_region_lit (wpl_val rfl x_assign (wpList_nil ?_)))
  refine wp_seq (wp_region_lit (wpl_call rfl (x_callf (by kernel_rfl) rfl) (R := fun e w' => e = .returned (.pointer (some ⟨w.heap.size, 0, none⟩)) ∧ Mod none' w w' ∧ w.heap.size < w'.heap.size ∧ Cur sDeleteShareGroupOffsetsRequest none' w.heap.size 0 v_DeleteShareGroupOffsetsRequest w') (by simpa using new_DeleteShareGroupOffsetsRequest w) ?_))
  rintro e w1 ⟨rfl, m1, _, _⟩
  refine ⟨_, rfl, wpl_call rfl (x_callf (by kernel_rfl) rfl) (R := fun e w' => e = .returned (.int .i16 0) ∧ w1 = w') ?_ ?_⟩
  · go_enter Tryd.func15, Tryd.ntmps15
    go_wp2
    go_ret
    exact ⟨rfl, rfl⟩
  rintro e w2 ⟨rfl, rfl⟩
  refine ⟨_, rfl, wpl_val rfl (x_convInt (n := 0) (k := .i16) (k' := .i64) (by kernel_rfl) (by kernel_rfl) ?_) (wpl_val rfl x_assign (wpList_nil ?_))⟩
  · simp (disch := (first | omega | (simp only [Act.size_put]; omega))) only [Act.put_none, eval_tmp, Act.get_put_ne, Act.get_put_eq]
  refine wp_act (c := .ret) (fun a : Act => Act.get a 0 = .int .i64 0 ∧ a.defers = []) ⟨?_, ?_⟩ ?_
  · simp (disch := (first | omega | (simp only [Act.size_put]; omega))) only [Act.put_none, eval_tmp, Act.get_put_ne, Act.get_put_eq]
    rfl
  · simp only [Act.defers_put]; exact ad
  rintro a9 ⟨z0, zd⟩
  exact wp_ret (bodyPost_ret (results_tmp rfl _ _ _) zd ⟨congrArg Ending.returned z0, m1⟩)

set_option maxHeartbeats 1000000 in
set_option maxRecDepth 20000 in
theorem law_DeleteShareGroupOffsetsRequest {w : World} {n : Int} {srcv : Value} {bs : List UInt8} {ev : Value} (hE : ErrIs w ev) (hev : ∃ tx vx, ev = .iface tx vx) (hsrc : Srcs w srcv bs) :
    Calls Tryd.prog 3 #[.int .u8 n, srcv] w fun e w' => e = .returned (.bool true) ∧ Mod none' w w' := by
  obtain ⟨ft, V0, G, hd1, hd2, hns⟩ := doors_DeleteShareGroupOffsetsRequest
  obtain ⟨ao, cap, hsl⟩ := hsrc.shape
  refine calls_of_wp Tryd.func3 rfl ?_
  show Code.wp _ _ _ { tmps := (#[.int .u8 n, srcv] : Array Value) ++ Array.replicate (49 - (#[.int .u8 n, srcv] : Array Value).size) undef, defers := [] } w
  refine wp_act (fun a : Act => Act.get a 0 = .int .u8 n ∧ Act.get a 1 = srcv ∧ a.tmps.size = 49 ∧ a.defers = []) ⟨?_, ?_, ?_, rfl⟩ ?_
  · rw [get_nil_args _ _ _ (by simp)]; rfl
  · rw [get_nil_args _ _ _ (by simp)]; rfl
  · simp
  rintro a ⟨a0, a1, aN, ad⟩
  refine wp_seq (wp_region_lit (wpl_val rfl x_assign (wpList_nil ?_)))
  refine wp_seq (wp_seq (wp_region_lit (wpl_val rfl x_move (wpl_val rfl (x_len (by kernel_rfl) rfl (ao := ao) (cap := cap) (n := bs.length) ?_) (wpl_val rfl (x_gtr (k := .i64) (m := bs.length) (n := 2147483647) ?_ rfl) (wpList_nil ?_))))))
  · simp (disch := (first | omega | (simp only [Act.size_put]; omega))) only [Act.put_none, eval_tmp, Act.get_put_ne, Act.get_put_eq, a1, hsl]
  · simp (disch := (first | omega | (simp only [Act.size_put]; omega))) only [Act.put_none, eval_tmp, Act.get_put_ne, Act.get_put_eq]
  by_cases hbig : (2147483647 : Int) < bs.length
  · refine wp_cond_true ?_ (wp_seq (wp_region_lit (wpl_val rfl x_assign (wpList_nil (wp_ret ?_)))))
    · simp (disch := (first | omega | (simp only [Act.size_put]; omega))) only [Act.put_none, eval_tmp, Act.get_put_ne, Act.get_put_eq]
      simpa using hbig
    · simp only [Exit.then]
      refine bodyPost_ret (results_tmp rfl _ _ _) ?_ ⟨?_, .refl w⟩
      · simp only [Act.defers_put]; exact ad
      · rw [show ∀ (a : Act), a.tmps.getD 4 undef = Act.get a 4 from fun _ => rfl]
        simp (disch := (first | omega | (simp only [Act.size_put]; omega))) only [Act.put_none, eval_tmp, Act.get_put_ne, Act.get_put_eq]
        rfl
  refine wp_cond_false ?_ (wp_skip ?_)
  · simp (disch := (first | omega | (simp only [Act.size_put]; omega))) only [Act.put_none, eval_tmp, Act.get_put_ne, Act.get_put_eq]
    simpa using hbig
  refine wp_act (fun a : Act => Act.get a 0 = .int .u8 n ∧ Act.get a 1 = srcv ∧ a.tmps.size = 49 ∧ a.defers = []) ⟨?_, ?_, ?_, ?_⟩ ?_
  · simp (disch := (first | omega | (simp only [Act.size_put]; omega))) only [Act.put_none, eval_tmp, Act.get_put_ne, Act.get_put_eq, a0]
  · simp (disch := (first | omega | (simp only [Act.size_put]; omega))) only [Act.put_none, eval_tmp, Act.get_put_ne, Act.get_put_eq, a1]
  · simp only [Act.size_put]; exact aN
  · simp only [Act.defers_put]; exact ad
  clear a0 a1 aN ad
  rintro a ⟨a0, a1, aN, ad⟩
  refine wp_seq (wp_region_lit (wpl_call rfl (x_callf (by kernel_rfl) rfl) (R := fun e w' => e = .returned (.int .i64 (0 : Int)) ∧ Mod none' w w') (by simpa using max_DeleteShareGroupOffsetsRequest w) ?_))
  rintro e w1 ⟨rfl, m1⟩
  refine ⟨_, rfl, wpl_val rfl x_assign (wpList_nil ?_)⟩
  refine wp_seq (wp_seq (wp_region_lit (wpl_val rfl x_move (wpl_val rfl (x_lss (k := .i64) (m := 0) (n := 0) ?_ rfl) (wpList_nil ?_)))))
  · simp (disch := (first | omega | (simp only [Act.size_put]; omega))) only [Act.put_none, eval_tmp, Act.get_put_ne, Act.get_put_eq]
  refine wp_cond_false ?_ (wp_skip ?_)
  · simp (disch := (first | omega | (simp only [Act.size_put]; omega))) only [Act.put_none, eval_tmp, Act.get_put_ne, Act.get_put_eq]
    rfl
  refine wp_seq (wp_seq (wp_region_lit (wpl_val rfl x_move (wpl_val rfl (x_len (by kernel_rfl) rfl (ao := ao) (cap := cap) (n := bs.length) ?_) (wpl_val rfl (x_gtr (k := .i64) (m := bs.length) (n := 1000) ?_ rfl) (wpList_nil ?_))))))
  · simp (disch := (first | omega | (simp only [Act.size_put]; omega))) only [Act.put_none, eval_tmp, Act.get_put_ne, Act.get_put_eq, a1, hsl]
  · simp (disch := (first | omega | (simp only [Act.size_put]; omega))) only [Act.put_none, eval_tmp, Act.get_put_ne, Act.get_put_eq]
  by_cases hmid : (1000 : Int) < bs.length
  · refine wp_cond_true ?_ (wp_seq (wp_region_lit (wpl_val rfl x_assign (wpList_nil (wp_ret ?_)))))
    · simp (disch := (first | omega | (simp only [Act.size_put]; omega))) only [Act.put_none, eval_tmp, Act.get_put_ne, Act.get_put_eq]
      simpa using hmid
    · simp only [Exit.then]
      refine bodyPost_ret (results_tmp rfl _ _ _) ?_ ⟨?_, m1⟩
      · simp only [Act.defers_put]; exact ad
      · rw [show ∀ (a : Act), a.tmps.getD 4 undef = Act.get a 4 from fun _ => rfl]
        simp (disch := (first | omega | (simp only [Act.size_put]; omega))) only [Act.put_none, eval_tmp, Act.get_put_ne, Act.get_put_eq]
        rfl
  refine wp_cond_false ?_ (wp_skip ?_)
  · simp (disch := (first | omega | (simp only [Act.size_put]; omega))) only [Act.put_none, eval_tmp, Act.get_put_ne, Act.get_put_eq]
    simpa using hmid
  have hbl : bs.length ≤ 4294967295 := by omega
  refine wp_act (fun a : Act => Act.get a 0 = .int .u8 n ∧ Act.get a 1 = srcv ∧ Act.get a 5 = .int .i64 0 ∧ a.tmps.size = 49 ∧ a.defers = []) ⟨?_, ?_, ?_, ?_, ?_⟩ ?_
  · simp (disch := (first | omega | (simp only [Act.size_put]; omega))) only [Act.put_none, eval_tmp, Act.get_put_ne, Act.get_put_eq, a0]
  · simp (disch := (first | omega | (simp only [Act.size_put]; omega))) only [Act.put_none, eval_tmp, Act.get_put_ne, Act.get_put_eq, a1]
  · simp (disch := (first | omega | (simp only [Act.size_put]; omega))) only [Act.put_none, eval_tmp, Act.get_put_ne, Act.get_put_eq]
  · simp only [Act.size_put]; exact aN
  · simp only [Act.defers_put]; exact ad
  clear a0 a1 aN ad
  rintro a ⟨a0, a1, a5, aN, ad⟩
  have hv : IntKind.i64.wrap ((0 : Int) + 1) ≠ 0 := by decide
  obtain ⟨k, hk⟩ : ∃ k, k = (IntKind.i64.wrap n).tmod (IntKind.i64.wrap ((0 : Int) + 1)) := ⟨_, rfl⟩
  have hver : ∀ w, Calls Tryd.prog 7 #[.int .u8 n, .int .i64 0] w fun e w' => e = .returned (.int .i64 k) ∧ w = w' := fun w => by rw [hk]; exact version_spec hv w
  clear hk
  obtain ⟨z, hz, hz5⟩ : ∃ z, zeroOf Tryd.prog 27 = some z ∧ z.cells.size = 5 := ⟨_, tellT.zero, rfl⟩
  -- told
  have hE1 := hE.mod m1 (fun f => f)
  have hsrc1 := hsrc.mod m1
  refine wp_seq (wp_region_lit (wpl_val rfl x_move (wpl_val rfl x_move (wpl_call rfl (x_callf (by kernel_rfl) rfl) (R := fun e w' => e = .returned (.int .i64 k) ∧ w1 = w') ?_ ?_))))
  · rw [show ∀ a : Act, (#[Operand.tmp 20, Operand.tmp 21] : Array Operand).map a.eval = #[Act.get a 20, Act.get a 21] from fun a => by simp [eval_tmp]]
    simp (disch := (first | omega | (simp only [Act.size_put]; omega))) only [Act.put_none, eval_tmp, Act.get_put_ne, Act.get_put_eq, a0, a5]
    exact hver w1
  rintro e w' ⟨rfl, rfl⟩
  refine ⟨_, rfl, wpl_val rfl x_move (wpl_call rfl (x_callf (by kernel_rfl) rfl) (R := fun e w' => ∃ cs ok, e = .returned (.tuple #[.agg cs, .bool ok]) ∧ Mod none' w1 w' ∧ cs.size = 5 ∧ cs.all (·.oneCell') = true ∧
      match ft (IntKind.i16.wrap k) (fl_DeleteShareGroupOffsetsRequest (IntKind.i16.wrap k)) (V0.1.set 0 (.num (IntKind.i16.wrap k)), V0.2) ⟨bs, bs.isEmpty, false⟩ with
      | .ok v' s' => ok = !s'.bad ∧ (ok = true → TreeR w' (From w1) (from' cs 0) (.part (G v') v'.2))
      | .early => ok = false
      | .stuck => False) ?_ ?_)⟩
  · rw [show ∀ a : Act, (#[Operand.tmp 22, Operand.tmp 23] : Array Operand).map a.eval = #[Act.get a 22, Act.get a 23] from fun a => by simp [eval_tmp]]
    simp (disch := (first | omega | (simp only [Act.size_put]; omega))) only [Act.put_none, eval_tmp, Act.get_put_ne, Act.get_put_eq, a1]
    exact hd1 k srcv bs ev w1 hE1 hev hsrc1 hbl (hns _ _ _)
  rintro e v1 ⟨cs1, ok1, rfl, n1, q1, r1, t1⟩
  refine ⟨_, rfl, wpl_val rfl x_move (wpl_val rfl (x_extract (vs := #[.agg cs1, .bool ok1]) (i := 0) (v := .agg cs1) ?_ rfl) (wpl_val rfl (x_extract (vs := #[.agg cs1, .bool ok1]) (i := 1) (v := .bool ok1) ?_ rfl) (wpl_val rfl (x_alloc hz) ?_)))⟩
  · simp (disch := (first | omega | (simp only [Act.size_put]; omega))) only [Act.put_none, eval_tmp, Act.get_put_ne, Act.get_put_eq]
  · simp (disch := (first | omega | (simp only [Act.size_put]; omega))) only [Act.put_none, eval_tmp, Act.get_put_ne, Act.get_put_eq]
  have b1 := heap_alloc_new v1 (.cells z.cells TI)
  have o1 : Mod none' v1 (v1.alloc (.cells z.cells TI)) := (Mod.refl v1).alloc _
  have l1 : (v1.alloc (.cells z.cells TI)).heap.size = v1.heap.size + 1 := by simp
  refine wpl_skip rfl (x_storeN (cs := cs1) (b := v1.heap.size) (o := 0) (by rw [q1]; kernel_rfl) ?_ ?_ r1 ?_) (wpl_val rfl x_assign (wpList_nil ?_))
  · simp (disch := (first | omega | (simp only [Act.size_put]; omega))) only [Act.put_none, eval_tmp, Act.get_put_ne, Act.get_put_eq]
  · simp (disch := (first | omega | (simp only [Act.size_put]; omega))) only [Act.put_none, eval_tmp, Act.get_put_ne, Act.get_put_eq]
  · intro j hj
    rw [cell_of_heap b1, frozen_of_heap b1, Array.getElem?_eq_getElem (by omega)]
    exact ⟨rfl, rfl⟩
  obtain ⟨C1, k1, k2, k3, k4⟩ := heap_setCells (w := v1.alloc (.cells z.cells TI)) cs1.toList 0 _ b1
  have hC1 : C1 = cs1 := by
    apply Array.ext
    · omega
    · intro i h1 h2
      have := k3 i (by simpa using h2) (by omega)
      rw [Nat.zero_add, Array.getElem?_eq_getElem h1] at this
      simpa [h2] using this
  subst hC1
  have p1 := mod_setCells v1.heap.size (v1.alloc (.cells z.cells TI)) 0 C1.toList
  have pp1 : Mod none' v1 ((v1.alloc (.cells z.cells TI)).setCells v1.heap.size 0 C1.toList) := o1.trans' p1 (fun _ _ f => f) (fun j hj e => by have : j = v1.heap.size := e; omega)
  generalize (v1.alloc (.cells z.cells TI)).setCells v1.heap.size 0 C1.toList = u1 at *
  obtain ⟨x1, hx1⟩ : ∃ x, x = v1.heap.size := ⟨_, rfl⟩
  rw [← hx1] at k1 ⊢
  have kk1 := k1
  clear k1 k2 k3 k4
  refine wp_act (fun a : Act => Act.get a 0 = .int .u8 n ∧ Act.get a 1 = srcv ∧ Act.get a 5 = .int .i64 0 ∧ Act.get a 6 = .pointer (some ⟨x1, 0, none⟩) ∧ Act.get a 7 = .bool ok1 ∧ a.tmps.size = 49 ∧ a.defers = []) ⟨?_, ?_, ?_, ?_, ?_, ?_, ?_⟩ ?_
  · simp (disch := (first | omega | (simp only [Act.size_put]; omega))) only [Act.put_none, eval_tmp, Act.get_put_ne, Act.get_put_eq, a0]
  · simp (disch := (first | omega | (simp only [Act.size_put]; omega))) only [Act.put_none, eval_tmp, Act.get_put_ne, Act.get_put_eq, a1]
  · simp (disch := (first | omega | (simp only [Act.size_put]; omega))) only [Act.put_none, eval_tmp, Act.get_put_ne, Act.get_put_eq, a5]
  · simp (disch := (first | omega | (simp only [Act.size_put]; omega))) only [Act.put_none, eval_tmp, Act.get_put_ne, Act.get_put_eq]
  · simp (disch := (first | omega | (simp only [Act.size_put]; omega))) only [Act.put_none, eval_tmp, Act.get_put_ne, Act.get_put_eq]
  · simp only [Act.size_put]; exact aN
  · simp only [Act.defers_put]; exact ad
  clear a0 a1 a5 aN ad
  rintro a ⟨a0, a1, a5, a6, a7, aN, ad⟩
  have nn1 := n1.trans pp1
  have hE2 := hE1.mod nn1 (fun f => f)
  have hsrc2 := hsrc1.mod nn1
  refine wp_seq (wp_region_lit (wpl_val rfl x_move (wpl_val rfl x_move (wpl_call rfl (x_callf (by kernel_rfl) rfl) (R := fun e w' => e = .returned (.int .i64 k) ∧ u1 = w') ?_ ?_))))
  · rw [show ∀ a : Act, (#[Operand.tmp 28, Operand.tmp 29] : Array Operand).map a.eval = #[Act.get a 28, Act.get a 29] from fun a => by simp [eval_tmp]]
    simp (disch := (first | omega | (simp only [Act.size_put]; omega))) only [Act.put_none, eval_tmp, Act.get_put_ne, Act.get_put_eq, a0, a5]
    exact hver u1
  rintro e w' ⟨rfl, rfl⟩
  refine ⟨_, rfl, wpl_val rfl x_move (wpl_call rfl (x_callf (by kernel_rfl) rfl) (R := fun e w' => ∃ cs ok, e = .returned (.tuple #[.agg cs, .bool ok]) ∧ Mod none' u1 w' ∧ cs.size = 5 ∧ cs.all (·.oneCell') = true ∧
      match ft (IntKind.i16.wrap k) (fl_DeleteShareGroupOffsetsRequest (IntKind.i16.wrap k)) (V0.1.set 0 (.num (IntKind.i16.wrap k)), V0.2) ⟨bs, bs.isEmpty, false⟩ with
      | .ok v' s' => ok = !s'.bad ∧ (ok = true → TreeR w' (From u1) (from' cs 0) (.part (G v') v'.2))
      | .early => ok = false
      | .stuck => False) ?_ ?_)⟩
  · rw [show ∀ a : Act, (#[Operand.tmp 30, Operand.tmp 31] : Array Operand).map a.eval = #[Act.get a 30, Act.get a 31] from fun a => by simp [eval_tmp]]
    simp (disch := (first | omega | (simp only [Act.size_put]; omega))) only [Act.put_none, eval_tmp, Act.get_put_ne, Act.get_put_eq, a1]
    exact hd2 k srcv bs ev u1 hE2 hev hsrc2 hbl (hns _ _ _)
  rintro e v2 ⟨cs2, ok2, rfl, n2, q2, r2, t2⟩
  refine ⟨_, rfl, wpl_val rfl x_move (wpl_val rfl (x_extract (vs := #[.agg cs2, .bool ok2]) (i := 0) (v := .agg cs2) ?_ rfl) (wpl_val rfl (x_extract (vs := #[.agg cs2, .bool ok2]) (i := 1) (v := .bool ok2) ?_ rfl) (wpl_val rfl (x_alloc hz) ?_)))⟩
  · simp (disch := (first | omega | (simp only [Act.size_put]; omega))) only [Act.put_none, eval_tmp, Act.get_put_ne, Act.get_put_eq]
  · simp (disch := (first | omega | (simp only [Act.size_put]; omega))) only [Act.put_none, eval_tmp, Act.get_put_ne, Act.get_put_eq]
  have b2 := heap_alloc_new v2 (.cells z.cells TI)
  have o2 : Mod none' v2 (v2.alloc (.cells z.cells TI)) := (Mod.refl v2).alloc _
  have l2 : (v2.alloc (.cells z.cells TI)).heap.size = v2.heap.size + 1 := by simp
  refine wpl_skip rfl (x_storeN (cs := cs2) (b := v2.heap.size) (o := 0) (by rw [q2]; kernel_rfl) ?_ ?_ r2 ?_) (wpl_val rfl x_assign (wpList_nil ?_))
  · simp (disch := (first | omega | (simp only [Act.size_put]; omega))) only [Act.put_none, eval_tmp, Act.get_put_ne, Act.get_put_eq]
  · simp (disch := (first | omega | (simp only [Act.size_put]; omega))) only [Act.put_none, eval_tmp, Act.get_put_ne, Act.get_put_eq]
  · intro j hj
    rw [cell_of_heap b2, frozen_of_heap b2, Array.getElem?_eq_getElem (by omega)]
    exact ⟨rfl, rfl⟩
  obtain ⟨C2, k1, k2, k3, k4⟩ := heap_setCells (w := v2.alloc (.cells z.cells TI)) cs2.toList 0 _ b2
  have hC2 : C2 = cs2 := by
    apply Array.ext
    · omega
    · intro i h1 h2
      have := k3 i (by simpa using h2) (by omega)
      rw [Nat.zero_add, Array.getElem?_eq_getElem h1] at this
      simpa [h2] using this
  subst hC2
  have p2 := mod_setCells v2.heap.size (v2.alloc (.cells z.cells TI)) 0 C2.toList
  have pp2 : Mod none' v2 ((v2.alloc (.cells z.cells TI)).setCells v2.heap.size 0 C2.toList) := o2.trans' p2 (fun _ _ f => f) (fun j hj e => by have : j = v2.heap.size := e; omega)
  generalize (v2.alloc (.cells z.cells TI)).setCells v2.heap.size 0 C2.toList = u2 at *
  obtain ⟨x2, hx2⟩ : ∃ x, x = v2.heap.size := ⟨_, rfl⟩
  rw [← hx2] at k1 ⊢
  have kk2 := k1
  clear k1 k2 k3 k4
  refine wp_act (fun a : Act => Act.get a 6 = .pointer (some ⟨x1, 0, none⟩) ∧ Act.get a 7 = .bool ok1 ∧ Act.get a 8 = .pointer (some ⟨x2, 0, none⟩) ∧ Act.get a 9 = .bool ok2 ∧ a.tmps.size = 49 ∧ a.defers = []) ⟨?_, ?_, ?_, ?_, ?_, ?_⟩ ?_
  · simp (disch := (first | omega | (simp only [Act.size_put]; omega))) only [Act.put_none, eval_tmp, Act.get_put_ne, Act.get_put_eq, a6]
  · simp (disch := (first | omega | (simp only [Act.size_put]; omega))) only [Act.put_none, eval_tmp, Act.get_put_ne, Act.get_put_eq, a7]
  · simp (disch := (first | omega | (simp only [Act.size_put]; omega))) only [Act.put_none, eval_tmp, Act.get_put_ne, Act.get_put_eq]
  · simp (disch := (first | omega | (simp only [Act.size_put]; omega))) only [Act.put_none, eval_tmp, Act.get_put_ne, Act.get_put_eq]
  · simp only [Act.size_put]; exact aN
  · simp only [Act.defers_put]; exact ad
  clear a0 a1 a5 a6 a7 aN ad
  rintro a ⟨a6, a7, a8, a9, aN, ad⟩
  have nn2 := n2.trans pp2
  have mall := (m1.trans nn1).trans nn2
  have hb1 := nn2.some kk1 (fun f => f)
  have hok : ok1 = ok2 ∧ (ok1 = true → ∃ t, TreeR u2 (From w1) (from' C1 0) t ∧ TreeR u2 (From u1) (from' C2 0) t) := by
    revert t1 t2
    cases ft (IntKind.i16.wrap k) (fl_DeleteShareGroupOffsetsRequest (IntKind.i16.wrap k)) (V0.1.set 0 (.num (IntKind.i16.wrap k)), V0.2) ⟨bs, bs.isEmpty, false⟩ with
    | ok v' s' =>
      rintro ⟨h1, h2⟩ ⟨h3, h4⟩
      refine ⟨h1.trans h3.symm, fun ht => ⟨_, (h2 ht).mod (pp1.trans nn2) (fun _ _ f => f) (fun _ h => h), (h4 (h3.trans (h1.symm.trans ht))).mod pp2 (fun _ _ f => f) (fun _ h => h)⟩⟩
    | early => intro h1 h2; exact ⟨h1.trans h2.symm, fun ht => by rw [h1] at ht; cases ht⟩
    | stuck => intro h; exact h.elim
  obtain ⟨hok, htree⟩ := hok
  subst hok
  have e14 : ∀ w, Mod none' u2 w → ∀ a' : Act, Act.get a' 48 = .bool true → a'.defers = [] → 48 < a'.tmps.size → True := fun _ _ _ _ _ _ => trivial
  have fin : ∀ (a' : Act) (w' : World), Mod none' u2 w' → Act.get a' 4 = .bool true → a'.defers = [] → Code.ret.wp Tryd.prog (bodyPost Tryd.prog Tryd.f3 fun e w' => e = .returned (.bool true) ∧ Mod none' w w') a' w' := by
    intro a' w' hm h4 hd
    refine wp_ret (bodyPost_ret (results_tmp rfl _ _ _) hd ⟨?_, mall.trans hm⟩)
    exact congrArg Ending.returned h4
  cases ok1 with
  | false =>
    refine wp_seq (region_rlg (l := [_, _, _, _, _, _, _, _, _, _, _, _, _, _]) (tl := [_]) rfl (Mod none') (Mod.refl u2).drew (fun a => .refl a) (fun _ _ _ h h' => h.trans h') [35, 36, 37, 38, 39, 40, 41, 42, 43, 44, 45, 46, 47, 48]
      [fun v _ => v = .bool false, fun v _ => v = .bool false, fun v _ => v = .bool true, fun v _ => v = .bool true, fun v _ => v = .bool false, fun v _ => v = .bool true, fun v _ => v = .bool true, fun _ _ => True, fun _ _ => True, fun _ _ => True, fun _ _ => True, fun _ _ => True, fun v _ => v = .bool true, fun v _ => v = .bool true]
      ?_ rfl (by decide) (by simp [aN]) (by simp) (by kernel_rfl) ⟨?_, ?_, ?_, ?_, ?_, ?_, ?_, ?_, ?_, ?_, ?_, ?_, ?_, ?_, trivial⟩ ?_)
    · intro g hg v v1 v2 hv hr
      simp only [List.mem_cons, List.not_mem_nil, or_false] at hg
      rcases hg with rfl | rfl | rfl | rfl | rfl | rfl | rfl | rfl | rfl | rfl | rfl | rfl | rfl | rfl <;> exact hv
    · intro b v hr hs hd
      exact .inl ⟨rfl, owp_val (x_moveV ((hs.get 7 (by decide)).trans a7)) ⟨_, rfl, .refl _, rfl⟩⟩
    · intro b v hr hs hd
      exact .inl ⟨rfl, owp_val (x_moveV ((hs.get 9 (by decide)).trans a9)) ⟨_, rfl, .refl _, rfl⟩⟩
    · intro b v hr hs hd
      have d0 : Act.get b 35 = .bool false := hd ⟨0, .data⟩ (by simp) rfl
      have d1 : Act.get b 36 = .bool false := hd ⟨1, .data⟩ (by simp) rfl
      exact .inl ⟨rfl, owp_val (x_eqlB (by kernel_rfl) d0 d1) ⟨_, rfl, .refl _, rfl⟩⟩
    · intro b v hr hs hd
      have d0 : Act.get b 37 = .bool true := hd ⟨2, .data⟩ (by simp) rfl
      exact .inl ⟨rfl, owp_val (x_moveV d0) ⟨_, rfl, .refl _, rfl⟩⟩
    · intro b v hr hs hd
      have d0 : Act.get b 38 = .bool true := hd ⟨3, .guard⟩ (by simp) rfl
      exact .inl ⟨⟨by decide, true, d0, rfl⟩, owp_val (x_moveV ((hs.get 7 (by decide)).trans a7)) ⟨_, rfl, .refl _, rfl⟩⟩
    · intro b v hr hs hd
      have d0 : Act.get b 38 = .bool true := hd ⟨3, .guard⟩ (by simp) rfl
      have d1 : Act.get b 39 = .bool false := hd ⟨4, .data⟩ (by simp) rfl
      exact .inl ⟨⟨by decide, true, d0, rfl⟩, owp_val (x_notV (c := true) d1 rfl) ⟨_, rfl, .refl _, rfl⟩⟩
    · intro b v hr hs hd
      have d0 : Act.get b 38 = .bool true := hd ⟨3, .guard⟩ (by simp) rfl
      have d1 : Act.get b 40 = .bool true := hd ⟨5, .data⟩ (by simp) rfl
      exact .inl ⟨⟨by decide, true, d0, rfl⟩, owp_val (x_moveV d1) ⟨_, rfl, .refl _, rfl⟩⟩
    · intro b v hr hs hd
      have d0 : Act.get b 41 = .bool true := hd ⟨6, .guard⟩ (by simp) rfl
      exact .inr ⟨⟨by decide, true, d0, rfl⟩, trivial⟩
    · intro b v hr hs hd
      have d0 : Act.get b 41 = .bool true := hd ⟨6, .guard⟩ (by simp) rfl
      exact .inr ⟨⟨by decide, true, d0, rfl⟩, trivial⟩
    · intro b v hr hs hd
      have d0 : Act.get b 41 = .bool true := hd ⟨6, .guard⟩ (by simp) rfl
      exact .inr ⟨⟨by decide, true, d0, rfl⟩, trivial⟩
    · intro b v hr hs hd
      have d0 : Act.get b 41 = .bool true := hd ⟨6, .guard⟩ (by simp) rfl
      exact .inr ⟨⟨by decide, true, d0, rfl⟩, trivial⟩
    · intro b v hr hs hd
      have d0 : Act.get b 41 = .bool true := hd ⟨6, .guard⟩ (by simp) rfl
      exact .inr ⟨⟨by decide, true, d0, rfl⟩, trivial⟩
    · intro b v hr hs hd
      have d0 : Act.get b 38 = .bool true := hd ⟨3, .guard⟩ (by simp) rfl
      have d1 : Act.get b 41 = .bool true := hd ⟨6, .data⟩ (by simp) rfl
      exact .inl ⟨⟨by decide, true, d0, rfl⟩, owp_val (x_pickT (v := .bool true) d1 rfl) ⟨_, rfl, .refl _, rfl⟩⟩
    · intro b v hr hs hd
      have d0 : Act.get b 38 = .bool true := hd ⟨3, .data⟩ (by simp) rfl
      have d1 : Act.get b 47 = .bool true := hd ⟨12, .data⟩ (by simp) rfl
      exact .inl ⟨rfl, owp_val (x_pickT d0 d1) ⟨_, rfl, .refl _, rfl⟩⟩
    · intro b v hr hs hh
      have d0 : Act.get b 48 = .bool true := hh 13 (by decide)
      refine wpl_val rfl x_assign (wpList_nil (fin _ v hr ?_ ?_))
      · rw [Act.get_put_eq (by rw [hs.size]; omega)]; exact d0
      · exact (Act.defers_put _ _ _).trans (hs.defers.trans ad)
  | true =>
    obtain ⟨t, htA, htB⟩ := htree rfl
    have hl1 := lt_of_block hb1
    have hl2 := lt_of_block kk2
    refine wp_seq (region_rlg (l := [_, _, _, _, _, _, _, _, _, _, _, _, _, _]) (tl := [_]) rfl (Mod none') (Mod.refl u2).drew (fun a => .refl a) (fun _ _ _ h h' => h.trans h') [35, 36, 37, 38, 39, 40, 41, 42, 43, 44, 45, 46, 47, 48]
      [fun v _ => v = .bool true, fun v _ => v = .bool true, fun v _ => v = .bool true, fun v _ => v = .bool true, fun v _ => v = .bool true, fun v _ => v = .bool false, fun v _ => v = .bool false, fun v _ => v = .agg C1, fun v w' => TreeV w' (fun _ => True) v t, fun v _ => v = .agg C2, fun v w' => TreeV w' (fun _ => True) v t, fun v _ => v = .bool true, fun v _ => v = .bool true, fun v _ => v = .bool true]
      ?_ rfl (by decide) (by simp [aN]) (by simp) (by kernel_rfl) ⟨?_, ?_, ?_, ?_, ?_, ?_, ?_, ?_, ?_, ?_, ?_, ?_, ?_, ?_, trivial⟩ ?_)
    · intro g hg v v1 v2 hv hr
      simp only [List.mem_cons, List.not_mem_nil, or_false] at hg
      rcases hg with rfl | rfl | rfl | rfl | rfl | rfl | rfl | rfl | rfl | rfl | rfl | rfl | rfl | rfl <;> first | exact hv | exact TreeV.mod hv hr (fun _ _ f => f) (fun _ h => h)
    · intro b v hr hs hd
      exact .inl ⟨rfl, owp_val (x_moveV ((hs.get 7 (by decide)).trans a7)) ⟨_, rfl, .refl _, rfl⟩⟩
    · intro b v hr hs hd
      exact .inl ⟨rfl, owp_val (x_moveV ((hs.get 9 (by decide)).trans a9)) ⟨_, rfl, .refl _, rfl⟩⟩
    · intro b v hr hs hd
      have d0 : Act.get b 35 = .bool true := hd ⟨0, .data⟩ (by simp) rfl
      have d1 : Act.get b 36 = .bool true := hd ⟨1, .data⟩ (by simp) rfl
      exact .inl ⟨rfl, owp_val (x_eqlB (by kernel_rfl) d0 d1) ⟨_, rfl, .refl _, rfl⟩⟩
    · intro b v hr hs hd
      have d0 : Act.get b 37 = .bool true := hd ⟨2, .data⟩ (by simp) rfl
      exact .inl ⟨rfl, owp_val (x_moveV d0) ⟨_, rfl, .refl _, rfl⟩⟩
    · intro b v hr hs hd
      have d0 : Act.get b 38 = .bool true := hd ⟨3, .guard⟩ (by simp) rfl
      exact .inl ⟨⟨by decide, true, d0, rfl⟩, owp_val (x_moveV ((hs.get 7 (by decide)).trans a7)) ⟨_, rfl, .refl _, rfl⟩⟩
    · intro b v hr hs hd
      have d0 : Act.get b 38 = .bool true := hd ⟨3, .guard⟩ (by simp) rfl
      have d1 : Act.get b 39 = .bool true := hd ⟨4, .data⟩ (by simp) rfl
      exact .inl ⟨⟨by decide, true, d0, rfl⟩, owp_val (x_notV (c := false) d1 rfl) ⟨_, rfl, .refl _, rfl⟩⟩
    · intro b v hr hs hd
      have d0 : Act.get b 38 = .bool true := hd ⟨3, .guard⟩ (by simp) rfl
      have d1 : Act.get b 40 = .bool false := hd ⟨5, .data⟩ (by simp) rfl
      exact .inl ⟨⟨by decide, true, d0, rfl⟩, owp_val (x_moveV d1) ⟨_, rfl, .refl _, rfl⟩⟩
    · intro b v hr hs hd
      have d0 : Act.get b 41 = .bool false := hd ⟨6, .guard⟩ (by simp) rfl
      refine .inl ⟨⟨by decide, false, d0, rfl⟩, owp_val (x_loadN (cs := C1.toList) (by rw [Array.length_toList, q1]; kernel_rfl) ((hs.get 6 (by decide)).trans a6) (fun j u hu => by rw [cell_of_heap (hr.some hb1 (fun f => f)), Nat.zero_add]; simpa using hu)) ⟨_, rfl, .refl _, by simp⟩⟩
    · intro b v hr hs hd
      have d0 : Act.get b 41 = .bool false := hd ⟨6, .guard⟩ (by simp) rfl
      have d1 : Act.get b 42 = .agg C1 := hd ⟨7, .data⟩ (by simp) rfl
      refine .inl ⟨⟨by decide, false, d0, rfl⟩, owp_call (x_callf (by kernel_rfl) rfl) (R := fun e w' => ∃ x, e = .returned x ∧ Mod none' v w' ∧ TreeV w' (fun k => From w1 k ∨ v.heap.size ≤ k) x t) ?_ ?_⟩
      · rw [show ∀ a : Act, (#[Operand.tmp 42] : Array Operand).map a.eval = #[Act.get a 42] from fun a => by simp [eval_tmp], d1]
        exact got_spec _ t (Nat.lt_succ_self _) C1 v _ q1 (htA.mod hr (fun _ _ f => f) (fun _ h => h))
      · rintro e w' ⟨x, rfl, hm, hx⟩
        exact ⟨x, rfl, x, rfl, hm, hx.mod (Mod.refl (S := none') w') (fun _ _ f => f) (fun _ _ => trivial)⟩
    · intro b v hr hs hd
      have d0 : Act.get b 41 = .bool false := hd ⟨6, .guard⟩ (by simp) rfl
      refine .inl ⟨⟨by decide, false, d0, rfl⟩, owp_val (x_loadN (cs := C2.toList) (by rw [Array.length_toList, q2]; kernel_rfl) ((hs.get 8 (by decide)).trans a8) (fun j u hu => by rw [cell_of_heap (hr.some kk2 (fun f => f)), Nat.zero_add]; simpa using hu)) ⟨_, rfl, .refl _, by simp⟩⟩
    · intro b v hr hs hd
      have d0 : Act.get b 41 = .bool false := hd ⟨6, .guard⟩ (by simp) rfl
      have d1 : Act.get b 44 = .agg C2 := hd ⟨9, .data⟩ (by simp) rfl
      refine .inl ⟨⟨by decide, false, d0, rfl⟩, owp_call (x_callf (by kernel_rfl) rfl) (R := fun e w' => ∃ x, e = .returned x ∧ Mod none' v w' ∧ TreeV w' (fun k => From u1 k ∨ v.heap.size ≤ k) x t) ?_ ?_⟩
      · rw [show ∀ a : Act, (#[Operand.tmp 44] : Array Operand).map a.eval = #[Act.get a 44] from fun a => by simp [eval_tmp], d1]
        exact got_spec _ t (Nat.lt_succ_self _) C2 v _ q2 (htB.mod hr (fun _ _ f => f) (fun _ h => h))
      · rintro e w' ⟨x, rfl, hm, hx⟩
        exact ⟨x, rfl, x, rfl, hm, hx.mod (Mod.refl (S := none') w') (fun _ _ f => f) (fun _ _ => trivial)⟩
    · intro b v hr hs hd
      have d0 : Act.get b 41 = .bool false := hd ⟨6, .guard⟩ (by simp) rfl
      obtain ⟨ca, e1, e2, e3, e4⟩ : TreeV v (fun _ => True) (Act.get b 43) t := hd ⟨8, .data⟩ (by simp) rfl
      obtain ⟨cb, f1, f2, f3, f4⟩ : TreeV v (fun _ => True) (Act.get b 45) t := hd ⟨10, .data⟩ (by simp) rfl
      refine .inl ⟨⟨by decide, false, d0, rfl⟩, owp_call (x_callf (by kernel_rfl) rfl) (R := fun e w' => e = .returned (.bool true) ∧ Mod none' v w') ?_ ?_⟩
      · rw [show ∀ a : Act, (#[Operand.tmp 43, Operand.tmp 45] : Array Operand).map a.eval = #[Act.get a 43, Act.get a 45] from fun a => by simp [eval_tmp], e1, f1]
        exact sametree_spec _ t (Nat.lt_succ_self _) ca cb v _ _ e2 f2 e4 f4
      · rintro e w' ⟨rfl, hm⟩
        exact ⟨_, rfl, _, rfl, hm, rfl⟩
    · intro b v hr hs hd
      have d0 : Act.get b 38 = .bool true := hd ⟨3, .guard⟩ (by simp) rfl
      have d1 : Act.get b 41 = .bool false := hd ⟨6, .data⟩ (by simp) rfl
      have d2 : Act.get b 46 = .bool true := hd ⟨11, .data⟩ (by simp) rfl
      exact .inl ⟨⟨by decide, true, d0, rfl⟩, owp_val (x_pickF d1 d2) ⟨_, rfl, .refl _, rfl⟩⟩
    · intro b v hr hs hd
      have d0 : Act.get b 38 = .bool true := hd ⟨3, .data⟩ (by simp) rfl
      have d1 : Act.get b 47 = .bool true := hd ⟨12, .data⟩ (by simp) rfl
      exact .inl ⟨rfl, owp_val (x_pickT d0 d1) ⟨_, rfl, .refl _, rfl⟩⟩
    · intro b v hr hs hh
      have d0 : Act.get b 48 = .bool true := hh 13 (by decide)
      refine wpl_val rfl x_assign (wpList_nil (fin _ v hr ?_ ?_))
      · rw [Act.get_put_eq (by rw [hs.size]; omega)]; exact d0
      · exact (Act.defers_put _ _ _).trans (hs.defers.trans ad)
end Go.Proofs.YtjjpiacdamibjaaDoor
