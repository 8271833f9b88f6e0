/-
  spec.SameTree of two trees that are equal.
-/
import Derived.Test.YtcldbjehliladaaDoorPSame
set_option linter.unusedSimpArgs false
set_option linter.unusedVariables false
namespace Go.Proofs.YtcldbjehliladaaDoor
open Go Go.RowKit
abbrev fSameTree : Nat := 10
set_option maxRecDepth 20000 in
set_option maxHeartbeats 4000000 in
theorem sametree_spec : ∀ (N : Nat) (t : Tr), SizeOf.sizeOf t < N -> ∀ (ca cb : Array Value) (w : World) (F F' : Nat -> Prop), ca.size = 5 -> cb.size = 5 -> TreeR w F (from' ca 0) t -> TreeR w F' (from' cb 0) t ->
    Calls Tryd.prog fSameTree #[.agg ca, .agg cb] w fun e w' => e = .returned (.bool true) /\ Mod none' w w' := by
  intro N
  induction N with
  | zero => intro t ht; omega
  | succ N ihN =>
  intro t ht ca cb w F F' hsa hsb hTA hTB
  obtain ⟨cA, hcA⟩ : ∃ c, c = from' ca 0 := ⟨_, rfl⟩
  obtain ⟨cB, hcB⟩ : ∃ c, c = from' cb 0 := ⟨_, rfl⟩
  rw [<- hcA] at hTA
  rw [<- hcB] at hTB
  have hca : ∀ j, j < 5 -> ca[j]? = some (cA j) := fun j hj => by rw [hcA]; simp [from', show j < ca.size by omega]
  have hcb : ∀ j, j < 5 -> cb[j]? = some (cB j) := fun j hj => by rw [hcB]; simp [from', show j < cb.size by omega]
  clear hcA hcB
  cases hTA with
  | mk A0 An A1 A2 Abnd A3 A3' A4 A4' =>
  cases hTB with
  | mk B0 Bn B1 B2 Bbnd B3 B3' B4 B4' =>
  rename_i n s nilA null l u fA gA nilB fB gB
  obtain ⟨aoA3, capA3, hA3, hA3e⟩ := elems_slice A3
  obtain ⟨aoB3, capB3, hB3, hB3e⟩ := elems_slice B3
  obtain ⟨aoA4, capA4, hA4, hA4e⟩ := elems_slice A4
  obtain ⟨aoB4, capB4, hB4, hB4e⟩ := elems_slice B4
  obtain ⟨b, hb⟩ : ∃ b, b = w.heap.size := ⟨_, rfl⟩
  refine calls_of_wp Tryd.func10 rfl ?_
  show Code.wp _ _ _ { tmps := (#[.agg ca, .agg cb] : Array Value) ++ Array.replicate (100 - (#[.agg ca, .agg cb] : Array Value).size) undef, defers := [] } w
  refine wp_act (fun a : Act => Act.get a 0 = .agg ca /\ Act.get a 1 = .agg cb /\ a.tmps.size = 100 /\ a.defers = []) ⟨?_, ?_, ?_, rfl⟩ ?_
  · rw [Zj _ _ _ (by simp)]; rfl
  · rw [Zj _ _ _ (by simp)]; rfl
  · simp
  rintro a0 ⟨g0, g1, gN, gd⟩
  refine wp_seq (wp_region_lit (Zv rfl x_box (Zv rfl x_box (Zv rfl Zi (wpList_nil ?_)))))
  simp (disch := first | omega | simp only [Zs]; omega) only [Ze, Zn, g0, g1, Value.cells]
  obtain ⟨w1, hw1⟩ : ∃ w1, w1 = (w.alloc (.cells ca TS)).alloc (.cells cb TS) := ⟨_, rfl⟩
  have w1b : w1.heap[b]? = some (.cells ca TS (0, 0)) := by rw [hw1, hb, heap_alloc_old (by simp)]; exact Zh _ _
  have w1z : w1.heap[b + 1]? = some (.cells cb TS (0, 0)) := by
    rw [hw1, hb]
    have := Zh (w.alloc (.cells ca TS)) (.cells cb TS)
    simpa using this
  have w1m : Mod none' w w1 := by rw [hw1]; exact ((Mod.refl w).alloc _).alloc _
  show Code.wp _ _ _ ((((a0.put (some 2) (.pointer (some ⟨w.heap.size, 0, none⟩))).put (some 3) (.pointer (some ⟨(w.alloc (.cells ca TS)).heap.size, 0, none⟩)))).put (some 4) _) ((w.alloc (.cells ca TS)).alloc (.cells cb TS))
  rw [<- hw1, <- hb, show (w.alloc (.cells ca TS)).heap.size = b + 1 by rw [hb]; simp]
  clear hw1
  refine wp_act (fun a : Act => Act.get a 2 = .pointer (some ⟨b, 0, none⟩) /\ Act.get a 3 = .pointer (some ⟨b + 1, 0, none⟩) /\ a.tmps.size = 100 /\ a.defers = []) ⟨?_, ?_, ?_, ?_⟩ ?_
  · simp (disch := first | omega | simp only [Zs]; omega) only [Zo, Ze, Zn, Zq]
  · simp (disch := first | omega | simp only [Zs]; omega) only [Zo, Ze, Zn, Zq]
  · simp only [Zs]; exact gN
  · simp only [Zd]; exact gd
  clear g0 g1 gN gd
  rintro a1 ⟨p2, p3, pN, pd⟩
  refine wp_seq (wp_seq (wp_region_lit (WL.out ?_)))
  refine wl_val rfl (Za (o := 0) (by kernel_rfl) (b := b) (o0 := 0) ?_) ?_
  · simp (disch := first | omega | simp only [Zs]; omega) only [Zo, Ze, Zn, Zq, p2]
  refine wl_val rfl (Zl (by kernel_rfl) (b := b) (o := 0 + 0) (v := cA 0) ?_ ?_) ?_
  · simp (disch := first | omega | simp only [Zs]; omega) only [Zo, Ze, Zn, Zq]
  · rw [Zc w1b, Nat.zero_add]; exact hca 0 (by omega)
  refine wl_val rfl (Za (o := 0) (by kernel_rfl) (b := (b + 1)) (o0 := 0) ?_) ?_
  · simp (disch := first | omega | simp only [Zs]; omega) only [Zo, Ze, Zn, Zq, p3]
  refine wl_val rfl (Zl (by kernel_rfl) (b := (b + 1)) (o := 0 + 0) (v := cB 0) ?_ ?_) ?_
  · simp (disch := first | omega | simp only [Zs]; omega) only [Zo, Ze, Zn, Zq]
  · rw [Zc w1z, Nat.zero_add]; exact hcb 0 (by omega)
  refine wl_val rfl (x_neqIs (k := .i64) (m := n) ?_ ?_) ?_
  · simp (disch := first | omega | simp only [Zs]; omega) only [Zo, Ze, Zn, Zq, A0]
  · simp (disch := first | omega | simp only [Zs]; omega) only [Zo, Ze, Zn, Zq, B0]
  refine wl_val rfl (x_moveV (v := .bool false) ?_) ?_
  · simp (disch := first | omega | simp only [Zs]; omega) only [Zo, Ze, Zn, Zq]
  refine wl_act (fun a : Act => Act.get a 2 = .pointer (some ⟨b, 0, none⟩) /\ Act.get a 3 = .pointer (some ⟨b + 1, 0, none⟩) /\ Act.get a 12 = .bool false /\ a.tmps.size = 100 /\ a.defers = []) ⟨?_, ?_, ?_, ?_, ?_⟩ ?_
  · simp (disch := first | omega | simp only [Zs]; omega) only [Zo, Ze, Zn, Zq, p2]
  · simp (disch := first | omega | simp only [Zs]; omega) only [Zo, Ze, Zn, Zq, p3]
  · simp (disch := first | omega | simp only [Zs]; omega) only [Zo, Ze, Zn, Zq]
  · simp only [Zs]; exact pN
  · simp only [Zd]; exact pd
  clear p2 p3 pN pd
  rintro a2 ⟨p2, p3, pg, pN, pd⟩
  refine wl_gval (k := 5) (d := 12) (b := false) rfl (by kernel_rfl) ?_ (Za (o := 2) (by kernel_rfl) (b := b) (o0 := 0) ?_) ?_
  · simp (disch := first | omega | simp only [Zs]; omega) only [Zo, Ze, Zn, Zq, pg]
  · simp (disch := first | omega | simp only [Zs]; omega) only [Zo, Ze, Zn, Zq, p2]
  refine wl_gval (k := 5) (d := 12) (b := false) rfl (by kernel_rfl) ?_ (Zl (by kernel_rfl) (b := b) (o := 0 + 2) (v := cA 2) ?_ ?_) ?_
  · simp (disch := first | omega | simp only [Zs]; omega) only [Zo, Ze, Zn, Zq, pg]
  · simp (disch := first | omega | simp only [Zs]; omega) only [Zo, Ze, Zn, Zq]
  · rw [Zc w1b, Nat.zero_add]; exact hca 2 (by omega)
  refine wl_gval (k := 5) (d := 12) (b := false) rfl (by kernel_rfl) ?_ (Za (o := 2) (by kernel_rfl) (b := (b + 1)) (o0 := 0) ?_) ?_
  · simp (disch := first | omega | simp only [Zs]; omega) only [Zo, Ze, Zn, Zq, pg]
  · simp (disch := first | omega | simp only [Zs]; omega) only [Zo, Ze, Zn, Zq, p3]
  refine wl_gval (k := 5) (d := 12) (b := false) rfl (by kernel_rfl) ?_ (Zl (by kernel_rfl) (b := (b + 1)) (o := 0 + 2) (v := cB 2) ?_ ?_) ?_
  · simp (disch := first | omega | simp only [Zs]; omega) only [Zo, Ze, Zn, Zq, pg]
  · simp (disch := first | omega | simp only [Zs]; omega) only [Zo, Ze, Zn, Zq]
  · rw [Zc w1z, Nat.zero_add]; exact hcb 2 (by omega)
  refine wl_gval (k := 5) (d := 12) (b := false) rfl (by kernel_rfl) ?_ (x_neqBs (b := null) (by kernel_rfl) ?_ ?_) ?_
  · simp (disch := first | omega | simp only [Zs]; omega) only [Zo, Ze, Zn, Zq, pg]
  · simp (disch := first | omega | simp only [Zs]; omega) only [Zo, Ze, Zn, Zq, A2]
  · simp (disch := first | omega | simp only [Zs]; omega) only [Zo, Ze, Zn, Zq, B2]
  refine wl_val rfl (x_pickF (v := .bool false) ?_ ?_) ?_
  · simp (disch := first | omega | simp only [Zs]; omega) only [Zo, Ze, Zn, Zq, pg]
  · simp (disch := first | omega | simp only [Zs]; omega) only [Zo, Ze, Zn, Zq]
  refine wl_val rfl (x_moveV (v := .bool false) ?_) ?_
  · simp (disch := first | omega | simp only [Zs]; omega) only [Zo, Ze, Zn, Zq]
  refine wl_act (fun a : Act => Act.get a 2 = .pointer (some ⟨b, 0, none⟩) /\ Act.get a 3 = .pointer (some ⟨b + 1, 0, none⟩) /\ Act.get a 19 = .bool false /\ a.tmps.size = 100 /\ a.defers = []) ⟨?_, ?_, ?_, ?_, ?_⟩ ?_
  · simp (disch := first | omega | simp only [Zs]; omega) only [Zo, Ze, Zn, Zq, p2]
  · simp (disch := first | omega | simp only [Zs]; omega) only [Zo, Ze, Zn, Zq, p3]
  · simp (disch := first | omega | simp only [Zs]; omega) only [Zo, Ze, Zn, Zq]
  · simp only [Zs]; exact pN
  · simp only [Zd]; exact pd
  clear p2 p3 pN pd pg
  rintro a2 ⟨p2, p3, pg, pN, pd⟩
  refine wl_gval (k := 12) (d := 19) (b := false) rfl (by kernel_rfl) ?_ (Za (o := 1) (by kernel_rfl) (b := b) (o0 := 0) ?_) ?_
  · simp (disch := first | omega | simp only [Zs]; omega) only [Zo, Ze, Zn, Zq, pg]
  · simp (disch := first | omega | simp only [Zs]; omega) only [Zo, Ze, Zn, Zq, p2]
  refine wl_gval (k := 12) (d := 19) (b := false) rfl (by kernel_rfl) ?_ (Zl (by kernel_rfl) (b := b) (o := 0 + 1) (v := cA 1) ?_ ?_) ?_
  · simp (disch := first | omega | simp only [Zs]; omega) only [Zo, Ze, Zn, Zq, pg]
  · simp (disch := first | omega | simp only [Zs]; omega) only [Zo, Ze, Zn, Zq]
  · rw [Zc w1b, Nat.zero_add]; exact hca 1 (by omega)
  refine wl_gval (k := 12) (d := 19) (b := false) rfl (by kernel_rfl) ?_ (Za (o := 1) (by kernel_rfl) (b := (b + 1)) (o0 := 0) ?_) ?_
  · simp (disch := first | omega | simp only [Zs]; omega) only [Zo, Ze, Zn, Zq, pg]
  · simp (disch := first | omega | simp only [Zs]; omega) only [Zo, Ze, Zn, Zq, p3]
  refine wl_gval (k := 12) (d := 19) (b := false) rfl (by kernel_rfl) ?_ (Zl (by kernel_rfl) (b := (b + 1)) (o := 0 + 1) (v := cB 1) ?_ ?_) ?_
  · simp (disch := first | omega | simp only [Zs]; omega) only [Zo, Ze, Zn, Zq, pg]
  · simp (disch := first | omega | simp only [Zs]; omega) only [Zo, Ze, Zn, Zq]
  · rw [Zc w1z, Nat.zero_add]; exact hcb 1 (by omega)
  refine wl_gcall (k := 12) (d := 19) (b := false) rfl (by kernel_rfl) ?_ (Zy (by kernel_rfl) rfl) (R := fun e w' => e = .returned (.bool true) /\ Mod none' w1 w') ?_ ?_
  · simp (disch := first | omega | simp only [Zs]; omega) only [Zo, Ze, Zn, Zq, pg]
  · rw [show ∀ a : Act, (#[Operand.tmp 21, Operand.tmp 23] : Array Operand).map a.eval = #[Act.get a 21, Act.get a 23] from fun a => by simp [Ze]]
    simp (disch := first | omega | simp only [Zs]; omega) only [Zo, Ze, Zn, Zq]
    exact same_spec (A1.mod (S := none') w1m (fun _ _ f => f) (fun _ h => h)) (B1.mod (S := none') w1m (fun _ _ f => f) (fun _ h => h))
  rintro e w2 ⟨rfl, w2m⟩
  refine ⟨_, rfl, ?_⟩
  replace w1b := w2m.some w1b (fun f => f)
  replace w1z := w2m.some w1z (fun f => f)
  replace w1m := w1m.trans w2m
  clear w2m
  refine wl_gval (k := 12) (d := 19) (b := false) rfl (by kernel_rfl) ?_ (x_notV (b := true) (c := false) ?_ rfl) ?_
  · simp (disch := first | omega | simp only [Zs]; omega) only [Zo, Ze, Zn, Zq, pg]
  · simp (disch := first | omega | simp only [Zs]; omega) only [Zo, Ze, Zn, Zq]
  refine wl_val rfl (x_pickF (v := .bool false) ?_ ?_) ?_
  · simp (disch := first | omega | simp only [Zs]; omega) only [Zo, Ze, Zn, Zq, pg]
  · simp (disch := first | omega | simp only [Zs]; omega) only [Zo, Ze, Zn, Zq]
  refine wl_val rfl (x_moveV (v := .bool false) ?_) ?_
  · simp (disch := first | omega | simp only [Zs]; omega) only [Zo, Ze, Zn, Zq]
  refine wl_act (fun a : Act => Act.get a 2 = .pointer (some ⟨b, 0, none⟩) /\ Act.get a 3 = .pointer (some ⟨b + 1, 0, none⟩) /\ Act.get a 27 = .bool false /\ a.tmps.size = 100 /\ a.defers = []) ⟨?_, ?_, ?_, ?_, ?_⟩ ?_
  · simp (disch := first | omega | simp only [Zs]; omega) only [Zo, Ze, Zn, Zq, p2]
  · simp (disch := first | omega | simp only [Zs]; omega) only [Zo, Ze, Zn, Zq, p3]
  · simp (disch := first | omega | simp only [Zs]; omega) only [Zo, Ze, Zn, Zq]
  · simp only [Zs]; exact pN
  · simp only [Zd]; exact pd
  clear p2 p3 pN pd pg
  rintro a2 ⟨p2, p3, pg, pN, pd⟩
  refine wl_gval (k := 20) (d := 27) (b := false) rfl (by kernel_rfl) ?_ (Za (o := 3) (by kernel_rfl) (b := b) (o0 := 0) ?_) ?_
  · simp (disch := first | omega | simp only [Zs]; omega) only [Zo, Ze, Zn, Zq, pg]
  · simp (disch := first | omega | simp only [Zs]; omega) only [Zo, Ze, Zn, Zq, p2]
  refine wl_gval (k := 20) (d := 27) (b := false) rfl (by kernel_rfl) ?_ (Zl (by kernel_rfl) (b := b) (o := 0 + 3) (v := cA 3) ?_ ?_) ?_
  · simp (disch := first | omega | simp only [Zs]; omega) only [Zo, Ze, Zn, Zq, pg]
  · simp (disch := first | omega | simp only [Zs]; omega) only [Zo, Ze, Zn, Zq]
  · rw [Zc w1b, Nat.zero_add]; exact hca 3 (by omega)
  refine wl_gval (k := 20) (d := 27) (b := false) rfl (by kernel_rfl) ?_ (x_len (by kernel_rfl) rfl (ao := aoA3) (cap := capA3) (n := l.length) ?_) ?_
  · simp (disch := first | omega | simp only [Zs]; omega) only [Zo, Ze, Zn, Zq, pg]
  · rw [Ze, <- hA3]; simp (disch := first | omega | simp only [Zs]; omega) only [Zo, Ze, Zn, Zq]
  refine wl_gval (k := 20) (d := 27) (b := false) rfl (by kernel_rfl) ?_ (Za (o := 3) (by kernel_rfl) (b := (b + 1)) (o0 := 0) ?_) ?_
  · simp (disch := first | omega | simp only [Zs]; omega) only [Zo, Ze, Zn, Zq, pg]
  · simp (disch := first | omega | simp only [Zs]; omega) only [Zo, Ze, Zn, Zq, p3]
  refine wl_gval (k := 20) (d := 27) (b := false) rfl (by kernel_rfl) ?_ (Zl (by kernel_rfl) (b := (b + 1)) (o := 0 + 3) (v := cB 3) ?_ ?_) ?_
  · simp (disch := first | omega | simp only [Zs]; omega) only [Zo, Ze, Zn, Zq, pg]
  · simp (disch := first | omega | simp only [Zs]; omega) only [Zo, Ze, Zn, Zq]
  · rw [Zc w1z, Nat.zero_add]; exact hcb 3 (by omega)
  refine wl_gval (k := 20) (d := 27) (b := false) rfl (by kernel_rfl) ?_ (x_len (by kernel_rfl) rfl (ao := aoB3) (cap := capB3) (n := l.length) ?_) ?_
  · simp (disch := first | omega | simp only [Zs]; omega) only [Zo, Ze, Zn, Zq, pg]
  · rw [Ze, <- hB3]; simp (disch := first | omega | simp only [Zs]; omega) only [Zo, Ze, Zn, Zq]
  refine wl_gval (k := 20) (d := 27) (b := false) rfl (by kernel_rfl) ?_ (x_neqIs (k := .i64) (m := l.length) ?_ ?_) ?_
  · simp (disch := first | omega | simp only [Zs]; omega) only [Zo, Ze, Zn, Zq, pg]
  · simp (disch := first | omega | simp only [Zs]; omega) only [Zo, Ze, Zn, Zq]
  · simp (disch := first | omega | simp only [Zs]; omega) only [Zo, Ze, Zn, Zq]
  refine wl_val rfl (x_pickF (v := .bool false) ?_ ?_) ?_
  · simp (disch := first | omega | simp only [Zs]; omega) only [Zo, Ze, Zn, Zq, pg]
  · simp (disch := first | omega | simp only [Zs]; omega) only [Zo, Ze, Zn, Zq]
  refine wl_val rfl (x_moveV (v := .bool false) ?_) ?_
  · simp (disch := first | omega | simp only [Zs]; omega) only [Zo, Ze, Zn, Zq]
  refine wl_act (fun a : Act => Act.get a 2 = .pointer (some ⟨b, 0, none⟩) /\ Act.get a 3 = .pointer (some ⟨b + 1, 0, none⟩) /\ Act.get a 36 = .bool false /\ a.tmps.size = 100 /\ a.defers = []) ⟨?_, ?_, ?_, ?_, ?_⟩ ?_
  · simp (disch := first | omega | simp only [Zs]; omega) only [Zo, Ze, Zn, Zq, p2]
  · simp (disch := first | omega | simp only [Zs]; omega) only [Zo, Ze, Zn, Zq, p3]
  · simp (disch := first | omega | simp only [Zs]; omega) only [Zo, Ze, Zn, Zq]
  · simp only [Zs]; exact pN
  · simp only [Zd]; exact pd
  clear p2 p3 pN pd pg
  rintro a2 ⟨p2, p3, pg, pN, pd⟩
  refine wl_gval (k := 29) (d := 36) (b := false) rfl (by kernel_rfl) ?_ (Za (o := 4) (by kernel_rfl) (b := b) (o0 := 0) ?_) ?_
  · simp (disch := first | omega | simp only [Zs]; omega) only [Zo, Ze, Zn, Zq, pg]
  · simp (disch := first | omega | simp only [Zs]; omega) only [Zo, Ze, Zn, Zq, p2]
  refine wl_gval (k := 29) (d := 36) (b := false) rfl (by kernel_rfl) ?_ (Zl (by kernel_rfl) (b := b) (o := 0 + 4) (v := cA 4) ?_ ?_) ?_
  · simp (disch := first | omega | simp only [Zs]; omega) only [Zo, Ze, Zn, Zq, pg]
  · simp (disch := first | omega | simp only [Zs]; omega) only [Zo, Ze, Zn, Zq]
  · rw [Zc w1b, Nat.zero_add]; exact hca 4 (by omega)
  refine wl_gval (k := 29) (d := 36) (b := false) rfl (by kernel_rfl) ?_ (x_len (by kernel_rfl) rfl (ao := aoA4) (cap := capA4) (n := u.length) ?_) ?_
  · simp (disch := first | omega | simp only [Zs]; omega) only [Zo, Ze, Zn, Zq, pg]
  · rw [Ze, <- hA4]; simp (disch := first | omega | simp only [Zs]; omega) only [Zo, Ze, Zn, Zq]
  refine wl_gval (k := 29) (d := 36) (b := false) rfl (by kernel_rfl) ?_ (Za (o := 4) (by kernel_rfl) (b := (b + 1)) (o0 := 0) ?_) ?_
  · simp (disch := first | omega | simp only [Zs]; omega) only [Zo, Ze, Zn, Zq, pg]
  · simp (disch := first | omega | simp only [Zs]; omega) only [Zo, Ze, Zn, Zq, p3]
  refine wl_gval (k := 29) (d := 36) (b := false) rfl (by kernel_rfl) ?_ (Zl (by kernel_rfl) (b := (b + 1)) (o := 0 + 4) (v := cB 4) ?_ ?_) ?_
  · simp (disch := first | omega | simp only [Zs]; omega) only [Zo, Ze, Zn, Zq, pg]
  · simp (disch := first | omega | simp only [Zs]; omega) only [Zo, Ze, Zn, Zq]
  · rw [Zc w1z, Nat.zero_add]; exact hcb 4 (by omega)
  refine wl_gval (k := 29) (d := 36) (b := false) rfl (by kernel_rfl) ?_ (x_len (by kernel_rfl) rfl (ao := aoB4) (cap := capB4) (n := u.length) ?_) ?_
  · simp (disch := first | omega | simp only [Zs]; omega) only [Zo, Ze, Zn, Zq, pg]
  · rw [Ze, <- hB4]; simp (disch := first | omega | simp only [Zs]; omega) only [Zo, Ze, Zn, Zq]
  refine wl_gval (k := 29) (d := 36) (b := false) rfl (by kernel_rfl) ?_ (x_neqIs (k := .i64) (m := u.length) ?_ ?_) ?_
  · simp (disch := first | omega | simp only [Zs]; omega) only [Zo, Ze, Zn, Zq, pg]
  · simp (disch := first | omega | simp only [Zs]; omega) only [Zo, Ze, Zn, Zq]
  · simp (disch := first | omega | simp only [Zs]; omega) only [Zo, Ze, Zn, Zq]
  refine wl_val rfl (x_pickF (v := .bool false) ?_ ?_) (wl_nil ?_)
  · simp (disch := first | omega | simp only [Zs]; omega) only [Zo, Ze, Zn, Zq, pg]
  · simp (disch := first | omega | simp only [Zs]; omega) only [Zo, Ze, Zn, Zq]
  refine wp_cond_false ?_ (wp_skip ?_)
  · simp (disch := first | omega | simp only [Zs]; omega) only [Zo, Ze, Zn, Zq]
  refine wp_act (fun a : Act => Act.get a 2 = .pointer (some ⟨b, 0, none⟩) /\ Act.get a 3 = .pointer (some ⟨b + 1, 0, none⟩) /\ a.tmps.size = 100 /\ a.defers = []) ⟨?_, ?_, ?_, ?_⟩ ?_
  · simp (disch := first | omega | simp only [Zs]; omega) only [Zo, Ze, Zn, Zq, p2]
  · simp (disch := first | omega | simp only [Zs]; omega) only [Zo, Ze, Zn, Zq, p3]
  · simp only [Zs]; exact pN
  · simp only [Zd]; exact pd
  clear p2 p3 pg pN pd
  rintro a3 ⟨p2, p3, pN, pd⟩
  -- region 3 and the loop over the parts
  refine wp_seq (wp_seq (wp_region_lit ?_))
  refine Zv rfl (Za (o := 3) (by kernel_rfl) (b := b) (o0 := 0) ?_) ?_
  · simp (disch := first | omega | simp only [Zs]; omega) only [Zo, Ze, Zn, Zq, p2]
  refine Zv rfl (Zl (by kernel_rfl) (b := b) (o := 0 + 3) (v := cA 3) ?_ ?_) ?_
  · simp (disch := first | omega | simp only [Zs]; omega) only [Zo, Ze, Zn, Zq]
  · rw [Zc w1b, Nat.zero_add]; exact hca 3 (by omega)
  refine Zv rfl (x_len (by kernel_rfl) rfl (ao := aoA3) (cap := capA3) (n := l.length) ?_) ?_
  · rw [Ze, <- hA3]; simp (disch := first | omega | simp only [Zs]; omega) only [Zo, Ze, Zn, Zq]
  refine Zv rfl Zm (wpList_nil ?_)
  refine wp_block ?_
  refine wp_loop (fun a w' => a.tmps.size = 100 /\ a.defers = [] /\ Act.get a 2 = .pointer (some ⟨b, 0, none⟩) /\ Act.get a 3 = .pointer (some ⟨b + 1, 0, none⟩) /\ Act.get a 47 = .int .i64 l.length /\ Mod none' w2 w' /\ ∃ i, i <= l.length /\ Act.get a 48 = .int .i64 (i : Nat)) (fun a _ => lenN l.length (Act.get a 48)) ⟨?_, ?_, ?_, ?_, ?_, .refl _, 0, Nat.zero_le _, ?_⟩ ?_
  · simp only [Zs]; exact pN
  · simp only [Zd]; exact pd
  · simp (disch := first | omega | simp only [Zs]; omega) only [Zo, Ze, Zn, Zq, p2]
  · simp (disch := first | omega | simp only [Zs]; omega) only [Zo, Ze, Zn, Zq, p3]
  · simp (disch := first | omega | simp only [Zs]; omega) only [Zo, Ze, Zn, Zq]
  · simp (disch := first | omega | simp only [Zs]; omega) only [Zo, Ze, Zn, Zq]
    rfl
  clear p2 p3 pN pd
  rintro a w' ⟨aN, ad, p2, p3, p47, hm, i, hi, p48⟩
  refine wp_seq (wp_region_lit (Zv rfl (x_lss (k := .i64) (m := (i : Nat)) (n := (l.length : Nat)) ?_ ?_) (wpList_nil ?_)))
  · exact p48
  · exact p47
  by_cases hil : i < l.length
  case pos =>
    refine wp_seq (wp_cond_true ?_ (wp_skip ?_))
    · rw [Ze, Zq (by omega)]; simp; omega
    obtain ⟨kA, oA, CA, tA, frA, eA, hhA, heA⟩ := hA3e (by omega)
    obtain ⟨kB, oB, CB, tB, frB, eB, hhB, heB⟩ := hB3e (by omega)
    have hhA' := (w1m.trans hm).some hhA (fun f => f)
    have hhB' := (w1m.trans hm).some hhB (fun f => f)
    refine wp_seq (wp_block (wp_seq (wp_region_lit (Zv rfl Zm (Zv rfl Zi (wpList_nil ?_))))))
    refine wp_act (fun a : Act => Act.get a 2 = .pointer (some ⟨b, 0, none⟩) /\ Act.get a 3 = .pointer (some ⟨b + 1, 0, none⟩) /\ Act.get a 47 = .int .i64 l.length /\ Act.get a 48 = .int .i64 (i : Nat) /\ Act.get a 5 = .int .i64 (i : Nat) /\ a.tmps.size = 100 /\ a.defers = []) ⟨?_, ?_, ?_, ?_, ?_, ?_, ?_⟩ ?_
    · simp (disch := first | omega | simp only [Zs]; omega) only [Zo, Ze, Zn, Zq, p2]
    · simp (disch := first | omega | simp only [Zs]; omega) only [Zo, Ze, Zn, Zq, p3]
    · simp (disch := first | omega | simp only [Zs]; omega) only [Zo, Ze, Zn, Zq, p47]
    · simp (disch := first | omega | simp only [Zs]; omega) only [Zo, Ze, Zn, Zq, p48]
    · simp (disch := first | omega | simp only [Zs]; omega) only [Zo, Ze, Zn, Zq, p48]
    · simp only [Zs]; exact aN
    · simp only [Zd]; exact ad
    rintro a1 ⟨q2, q3, q47, q48, q5, qN, qd⟩
    have p48' := p48
    clear aN ad p2 p3 p47 p48
    refine wp_seq (region_vals (l := [_, _, _, _, _, _, _, _, _, _, _]) (tl := [_]) rfl [51, 52, 53, 54, 55, 56, 57, 58, 59, 60, 61]
      [.pointer (some ⟨b, 0 + 3, none⟩), cA 3, .int .i64 (i : Nat), .pointer (some ⟨kA, oA + i * 5, none⟩), .agg #[fA i 0, fA i 1, fA i 2, fA i 3, fA i 4],
       .pointer (some ⟨b + 1, 0 + 3, none⟩), cB 3, .int .i64 (i : Nat), .pointer (some ⟨kB, oB + i * 5, none⟩), .agg #[fB i 0, fB i 1, fB i 2, fB i 3, fB i 4], .bool true] rfl rfl (by decide) (by simp [qN]) (by simp) (by kernel_rfl) ⟨?_, ?_, ?_, ?_, ?_, ?_, ?_, ?_, ?_, ?_, ?_, trivial⟩ ?_)
    · intro a2 v2 hr hs hd
      exact vstep_val rfl rfl (Za (o := 3) (by kernel_rfl) (b := b) (o0 := 0) ((hs.get 2 (by decide)).trans q2))
    · intro a2 v2 hr hs hd
      have d0 : Act.get a2 51 = .pointer (some ⟨b, 0 + 3, none⟩) := hd ⟨0, .data⟩ (by simp) rfl
      exact vstep_val rfl rfl (Zl (by kernel_rfl) (b := b) (o := 0 + 3) d0 (by rw [Zc ((hm.trans hr).some w1b (fun f => f)), Nat.zero_add]; exact hca 3 (by omega)))
    · intro a2 v2 hr hs hd
      exact vstep_val rfl rfl (by rw [show Value.int .i64 (i : Nat) = a2.eval (.tmp 5) from ((hs.get 5 (by decide)).trans q5).symm]; exact Zm)
    · intro a2 v2 hr hs hd
      have d0 : Act.get a2 52 = cA 3 := hd ⟨1, .data⟩ (by simp) rfl
      have d1 : Act.get a2 53 = .int .i64 (i : Nat) := hd ⟨2, .data⟩ (by simp) rfl
      exact vstep_val rfl rfl (Zx (sz := 5) (i := i) (b := kA) (o := oA) (n := l.length) (cap := capA3) (k := .i64) (by kernel_rfl) (d0.trans (hA3.trans (by rw [eA]))) d1 hil)
    · intro a2 v2 hr hs hd
      have d2 : Act.get a2 54 = .pointer (some ⟨kA, oA + i * 5, none⟩) := hd ⟨3, .data⟩ (by simp) rfl
      exact vstep_val rfl rfl (x_loadN (cs := [fA i 0, fA i 1, fA i 2, fA i 3, fA i 4]) (b := kA) (o := oA + i * 5) (by kernel_rfl) d2 (range5 fun j hj => by rw [Zc (hr.some hhA' (fun f => f))]; exact heA i hil j hj))
    · intro a2 v2 hr hs hd
      exact vstep_val rfl rfl (Za (o := 3) (by kernel_rfl) (b := b + 1) (o0 := 0) ((hs.get 3 (by decide)).trans q3))
    · intro a2 v2 hr hs hd
      have d0 : Act.get a2 56 = .pointer (some ⟨b + 1, 0 + 3, none⟩) := hd ⟨5, .data⟩ (by simp) rfl
      exact vstep_val rfl rfl (Zl (by kernel_rfl) (b := b + 1) (o := 0 + 3) d0 (by rw [Zc ((hm.trans hr).some w1z (fun f => f)), Nat.zero_add]; exact hcb 3 (by omega)))
    · intro a2 v2 hr hs hd
      exact vstep_val rfl rfl (by rw [show Value.int .i64 (i : Nat) = a2.eval (.tmp 5) from ((hs.get 5 (by decide)).trans q5).symm]; exact Zm)
    · intro a2 v2 hr hs hd
      have d0 : Act.get a2 57 = cB 3 := hd ⟨6, .data⟩ (by simp) rfl
      have d1 : Act.get a2 58 = .int .i64 (i : Nat) := hd ⟨7, .data⟩ (by simp) rfl
      exact vstep_val rfl rfl (Zx (sz := 5) (i := i) (b := kB) (o := oB) (n := l.length) (cap := capB3) (k := .i64) (by kernel_rfl) (d0.trans (hB3.trans (by rw [eB]))) d1 hil)
    · intro a2 v2 hr hs hd
      have d2 : Act.get a2 59 = .pointer (some ⟨kB, oB + i * 5, none⟩) := hd ⟨8, .data⟩ (by simp) rfl
      exact vstep_val rfl rfl (x_loadN (cs := [fB i 0, fB i 1, fB i 2, fB i 3, fB i 4]) (b := kB) (o := oB + i * 5) (by kernel_rfl) d2 (range5 fun j hj => by rw [Zc (hr.some hhB' (fun f => f))]; exact heB i hil j hj))
    · intro a2 v2 hr hs hd
      have d4 : Act.get a2 55 = .agg #[fA i 0, fA i 1, fA i 2, fA i 3, fA i 4] := hd ⟨4, .data⟩ (by simp) rfl
      have d9 : Act.get a2 60 = .agg #[fB i 0, fB i 1, fB i 2, fB i 3, fB i 4] := hd ⟨9, .data⟩ (by simp) rfl
      have hmm := (w1m.trans hm).trans hr
      refine ⟨rfl, owp_call (Zy (by kernel_rfl) rfl) (R := fun e w' => e = .returned (.bool true) /\ Mod none' v2 w') ?_ ?_⟩
      · rw [show ∀ a : Act, (#[Operand.tmp 55, Operand.tmp 60] : Array Operand).map a.eval = #[Act.get a 55, Act.get a 60] from fun a => by simp [Ze], d4, d9]
        exact ihN l[i] (by have := List.sizeOf_lt_of_mem (List.getElem_mem hil); simp only [Tr.mk.sizeOf_spec] at ht; omega) _ _ v2 F F' rfl rfl (((A3' i hil).mod hmm (fun _ _ f => f) (fun _ h => h)).congr (from5 (fA i))) (((B3' i hil).mod hmm (fun _ _ f => f) (fun _ h => h)).congr (from5 (fB i)))
      · rintro e w3 ⟨rfl, h3⟩
        exact ⟨_, rfl, rfl, h3⟩
    intro a2 v2 hr hs hh
    have d3 : Act.get a2 61 = .bool true := hh 10 (by decide)
    have zN : a2.tmps.size = 100 := hs.size.trans qN
    refine Zv rfl (x_not d3) (wpList_nil ?_)
    refine wp_cond_false ?_ (wp_skip ?_)
    · simp (disch := first | omega | simp only [Zs]; omega) only [Zo, Ze, Zn, Zq]
      simp
    simp only [Exit.then, Exit.inBlock]
    have hbz : ∀ t, t ∉ [51, 52, 53, 54, 55, 56, 57, 58, 59, 60, 61] -> Act.get a2 t = Act.get a1 t := fun t ht => hs.get t ht
    refine wp_region_lit (Zv rfl (x_add (k := .i64) (m := (i : Nat)) (n := 1) ?_ rfl) (Zv rfl Zm (wpList_nil ?_)))
    · simp (disch := first | omega | simp only [Zs]; omega) only [Zo, Ze, Zn, Zq, hbz 48 (by decide)]
      exact q48
    have hwrap : IntKind.i64.wrap ((i : Int) + 1) = ((i + 1 : Nat) : Int) := by rw [IntKind.wrap_i64]; omega
    refine ⟨⟨?_, ?_, ?_, ?_, ?_, hm.trans hr, i + 1, by omega, ?_⟩, ?_⟩
    · simp only [Zs]; exact zN
    · simp only [Zd]; exact hs.defers.trans qd
    · simp (disch := first | omega | simp only [Zs]; omega) only [Zo, Ze, Zn, Zq, hbz 2 (by decide), q2]
    · simp (disch := first | omega | simp only [Zs]; omega) only [Zo, Ze, Zn, Zq, hbz 3 (by decide), q3]
    · simp (disch := first | omega | simp only [Zs]; omega) only [Zo, Ze, Zn, Zq, hbz 47 (by decide), q47]
    · simp (disch := first | omega | simp only [Zs]; omega) only [Zo, Ze, Zn, Zq]
      rw [hwrap]
    · simp (disch := first | omega | simp only [Zs]; omega) only [Zo, Ze, Zn, Zq]
      rw [hwrap, p48']
      simp only [lenN, Int.toNat_natCast]
      omega
  case neg =>
  refine wp_seq (wp_cond_false ?_ (wp_exit ?_))
  · rw [Ze, Zq (by omega)]; simp; omega
  simp only [Exit.then, Exit.inBlock, if_true]
  refine wp_act (fun a : Act => Act.get a 2 = .pointer (some ⟨b, 0, none⟩) /\ Act.get a 3 = .pointer (some ⟨b + 1, 0, none⟩) /\ a.tmps.size = 100 /\ a.defers = []) ⟨?_, ?_, ?_, ?_⟩ ?_
  · simp (disch := first | omega | simp only [Zs]; omega) only [Zo, Ze, Zn, Zq, p2]
  · simp (disch := first | omega | simp only [Zs]; omega) only [Zo, Ze, Zn, Zq, p3]
  · simp only [Zs]; exact aN
  · simp only [Zd]; exact ad
  clear p2 p3 aN ad p47 p48 hil hi
  replace w1b := hm.some w1b (fun f => f)
  replace w1z := hm.some w1z (fun f => f)
  replace w1m := w1m.trans hm
  clear hm i
  rintro a3 ⟨p2, p3, pN, pd⟩
  refine wp_seq (wp_seq (wp_region_lit ?_))
  refine Zv rfl (Za (o := 4) (by kernel_rfl) (b := b) (o0 := 0) ?_) ?_
  · simp (disch := first | omega | simp only [Zs]; omega) only [Zo, Ze, Zn, Zq, p2]
  refine Zv rfl (Zl (by kernel_rfl) (b := b) (o := 0 + 4) (v := cA 4) ?_ ?_) ?_
  · simp (disch := first | omega | simp only [Zs]; omega) only [Zo, Ze, Zn, Zq]
  · rw [Zc w1b, Nat.zero_add]; exact hca 4 (by omega)
  refine Zv rfl (x_len (by kernel_rfl) rfl (ao := aoA4) (cap := capA4) (n := u.length) ?_) ?_
  · rw [Ze, <- hA4]; simp (disch := first | omega | simp only [Zs]; omega) only [Zo, Ze, Zn, Zq]
  refine Zv rfl Zm (wpList_nil ?_)
  refine wp_block ?_
  refine wp_loop (fun a w1 => a.tmps.size = 100 /\ a.defers = [] /\ Act.get a 2 = .pointer (some ⟨b, 0, none⟩) /\ Act.get a 3 = .pointer (some ⟨b + 1, 0, none⟩) /\ Act.get a 66 = .int .i64 u.length /\ Mod none' w' w1 /\ ∃ i, i <= u.length /\ Act.get a 67 = .int .i64 (i : Nat)) (fun a _ => lenN u.length (Act.get a 67)) ⟨?_, ?_, ?_, ?_, ?_, .refl _, 0, Nat.zero_le _, ?_⟩ ?_
  · simp only [Zs]; exact pN
  · simp only [Zd]; exact pd
  · simp (disch := first | omega | simp only [Zs]; omega) only [Zo, Ze, Zn, Zq, p2]
  · simp (disch := first | omega | simp only [Zs]; omega) only [Zo, Ze, Zn, Zq, p3]
  · simp (disch := first | omega | simp only [Zs]; omega) only [Zo, Ze, Zn, Zq]
  · simp (disch := first | omega | simp only [Zs]; omega) only [Zo, Ze, Zn, Zq]
    rfl
  clear p2 p3 pN pd
  rintro a w4 ⟨aN, ad, p2, p3, p66, hm, i, hi, p67⟩
  refine wp_seq (wp_region_lit (Zv rfl (x_lss (k := .i64) (m := (i : Nat)) (n := (u.length : Nat)) ?_ ?_) (wpList_nil ?_)))
  · exact p67
  · exact p66
  by_cases hil : i < u.length
  case neg =>
    refine wp_seq (wp_cond_false ?_ (wp_exit ?_))
    · rw [Ze, Zq (by omega)]; simp; omega
    simp only [Exit.then, Exit.inBlock, if_true]
    refine wp_seq (wp_region_lit (Zv rfl Zi (wpList_nil (wp_ret (bodyPost_ret (results_tmp rfl _ _ _) ?_ ⟨?_, w1m.trans hm⟩)))))
    · simp only [Zd]; exact ad
    · show Ending.returned (Act.get _ 4) = _
      simp (disch := first | omega | simp only [Zs]; omega) only [Zo, Ze, Zn, Zq]
      rfl
  case pos =>
    refine wp_seq (wp_cond_true ?_ (wp_skip ?_))
    · rw [Ze, Zq (by omega)]; simp; omega
    obtain ⟨kA, oA, CA, tA, frA, eA, hhA, heA⟩ := hA4e (by omega)
    obtain ⟨kB, oB, CB, tB, frB, eB, hhB, heB⟩ := hB4e (by omega)
    have hhA' := (w1m.trans hm).some hhA (fun f => f)
    have hhB' := (w1m.trans hm).some hhB (fun f => f)
    obtain ⟨tA0, tA1, nA, tA2⟩ := A4' i hil
    obtain ⟨tB0, tB1, nB, tB2⟩ := B4' i hil
    refine wp_seq (wp_block (wp_seq (wp_region_lit (Zv rfl Zm (Zv rfl Zi (wpList_nil ?_))))))
    refine wp_act (fun a : Act => Act.get a 2 = .pointer (some ⟨b, 0, none⟩) /\ Act.get a 3 = .pointer (some ⟨b + 1, 0, none⟩) /\ Act.get a 66 = .int .i64 u.length /\ Act.get a 67 = .int .i64 (i : Nat) /\ Act.get a 6 = .int .i64 (i : Nat) /\ a.tmps.size = 100 /\ a.defers = []) ⟨?_, ?_, ?_, ?_, ?_, ?_, ?_⟩ ?_
    · simp (disch := first | omega | simp only [Zs]; omega) only [Zo, Ze, Zn, Zq, p2]
    · simp (disch := first | omega | simp only [Zs]; omega) only [Zo, Ze, Zn, Zq, p3]
    · simp (disch := first | omega | simp only [Zs]; omega) only [Zo, Ze, Zn, Zq, p66]
    · simp (disch := first | omega | simp only [Zs]; omega) only [Zo, Ze, Zn, Zq, p67]
    · simp (disch := first | omega | simp only [Zs]; omega) only [Zo, Ze, Zn, Zq, p67]
    · simp only [Zs]; exact aN
    · simp only [Zd]; exact ad
    rintro a1 ⟨q2, q3, q66, q67, q6, qN, qd⟩
    have p67' := p67
    clear aN ad p2 p3 p66 p67
    refine wp_seq (region_vals (l := [_, _, _, _, _, _, _, _, _, _, _, _, _, _, _, _, _, _, _, _, _, _, _, _, _, _, _, _]) (tl := [_]) rfl [70, 71, 72, 73, 74, 75, 76, 77, 78, 79, 80, 81, 82, 83, 84, 85, 86, 87, 88, 89, 90, 91, 92, 93, 94, 95, 96, 97]
      [.pointer (some ⟨b, 0 + 4, none⟩), cA 4, .int .i64 (i : Nat), .pointer (some ⟨kA, oA + i * 2, none⟩), .pointer (some ⟨kA, oA + i * 2 + 0, none⟩), gA i 0, .pointer (some ⟨b + 1, 0 + 4, none⟩), cB 4, .int .i64 (i : Nat), .pointer (some ⟨kB, oB + i * 2, none⟩), .pointer (some ⟨kB, oB + i * 2 + 0, none⟩), gB i 0, .bool false, .bool false, .pointer (some ⟨b, 0 + 4, none⟩), cA 4, .int .i64 (i : Nat), .pointer (some ⟨kA, oA + i * 2, none⟩), .pointer (some ⟨kA, oA + i * 2 + 1, none⟩), gA i 1, .pointer (some ⟨b + 1, 0 + 4, none⟩), cB 4, .int .i64 (i : Nat), .pointer (some ⟨kB, oB + i * 2, none⟩), .pointer (some ⟨kB, oB + i * 2 + 1, none⟩), gB i 1, .bool true, .bool false] rfl rfl (by decide) (by simp [qN]) (by simp) (by kernel_rfl) ⟨?_, ?_, ?_, ?_, ?_, ?_, ?_, ?_, ?_, ?_, ?_, ?_, ?_, ?_, ?_, ?_, ?_, ?_, ?_, ?_, ?_, ?_, ?_, ?_, ?_, ?_, ?_, ?_, trivial⟩ ?_)
    · intro a2 v2 hr hs hd
      exact vstep_val (rfl) rfl (Za (o := 4) (by kernel_rfl) (b := b) (o0 := 0) ((hs.get 2 (by decide)).trans q2))
    · intro a2 v2 hr hs hd
      have d0 : Act.get a2 70 = .pointer (some ⟨b, 0 + 4, none⟩) := hd ⟨0, .data⟩ (by simp) rfl
      exact vstep_val (rfl) rfl (Zl (by kernel_rfl) (b := b) (o := 0 + 4) d0 (by rw [Zc ((hm.trans hr).some w1b (fun f => f)), Nat.zero_add]; exact hca 4 (by omega)))
    · intro a2 v2 hr hs hd
      exact vstep_val (rfl) rfl (by rw [show Value.int .i64 (i : Nat) = a2.eval (.tmp 6) from ((hs.get 6 (by decide)).trans q6).symm]; exact Zm)
    · intro a2 v2 hr hs hd
      have d0 : Act.get a2 71 = cA 4 := hd ⟨1, .data⟩ (by simp) rfl
      have d1 : Act.get a2 72 = .int .i64 (i : Nat) := hd ⟨2, .data⟩ (by simp) rfl
      exact vstep_val (rfl) rfl (Zx (sz := 2) (i := i) (b := kA) (o := oA) (n := u.length) (cap := capA4) (k := .i64) (by kernel_rfl) (d0.trans (hA4.trans (by rw [eA]))) d1 hil)
    · intro a2 v2 hr hs hd
      have d0 : Act.get a2 73 = .pointer (some ⟨kA, oA + i * 2, none⟩) := hd ⟨3, .data⟩ (by simp) rfl
      exact vstep_val (rfl) rfl (Za (o := 0) (by kernel_rfl) (b := kA) (o0 := oA + i * 2) d0)
    · intro a2 v2 hr hs hd
      have d0 : Act.get a2 74 = .pointer (some ⟨kA, oA + i * 2 + 0, none⟩) := hd ⟨4, .data⟩ (by simp) rfl
      exact vstep_val (rfl) rfl (Zl (by kernel_rfl) (b := kA) (o := oA + i * 2 + 0) d0 (by rw [Zc (hr.some hhA' (fun f => f))]; exact heA i hil 0 (by omega)))
    · intro a2 v2 hr hs hd
      exact vstep_val (rfl) rfl (Za (o := 4) (by kernel_rfl) (b := b + 1) (o0 := 0) ((hs.get 3 (by decide)).trans q3))
    · intro a2 v2 hr hs hd
      have d0 : Act.get a2 76 = .pointer (some ⟨b + 1, 0 + 4, none⟩) := hd ⟨6, .data⟩ (by simp) rfl
      exact vstep_val (rfl) rfl (Zl (by kernel_rfl) (b := b + 1) (o := 0 + 4) d0 (by rw [Zc ((hm.trans hr).some w1z (fun f => f)), Nat.zero_add]; exact hcb 4 (by omega)))
    · intro a2 v2 hr hs hd
      exact vstep_val (rfl) rfl (by rw [show Value.int .i64 (i : Nat) = a2.eval (.tmp 6) from ((hs.get 6 (by decide)).trans q6).symm]; exact Zm)
    · intro a2 v2 hr hs hd
      have d0 : Act.get a2 77 = cB 4 := hd ⟨7, .data⟩ (by simp) rfl
      have d1 : Act.get a2 78 = .int .i64 (i : Nat) := hd ⟨8, .data⟩ (by simp) rfl
      exact vstep_val (rfl) rfl (Zx (sz := 2) (i := i) (b := kB) (o := oB) (n := u.length) (cap := capB4) (k := .i64) (by kernel_rfl) (d0.trans (hB4.trans (by rw [eB]))) d1 hil)
    · intro a2 v2 hr hs hd
      have d0 : Act.get a2 79 = .pointer (some ⟨kB, oB + i * 2, none⟩) := hd ⟨9, .data⟩ (by simp) rfl
      exact vstep_val (rfl) rfl (Za (o := 0) (by kernel_rfl) (b := kB) (o0 := oB + i * 2) d0)
    · intro a2 v2 hr hs hd
      have d0 : Act.get a2 80 = .pointer (some ⟨kB, oB + i * 2 + 0, none⟩) := hd ⟨10, .data⟩ (by simp) rfl
      exact vstep_val (rfl) rfl (Zl (by kernel_rfl) (b := kB) (o := oB + i * 2 + 0) d0 (by rw [Zc (hr.some hhB' (fun f => f))]; exact heB i hil 0 (by omega)))
    · intro a2 v2 hr hs hd
      have d0 : Act.get a2 75 = gA i 0 := hd ⟨5, .data⟩ (by simp) rfl
      have d1 : Act.get a2 81 = gB i 0 := hd ⟨11, .data⟩ (by simp) rfl
      exact vstep_val rfl rfl (x_neqIs (k := .u32) (d0.trans tA0) (d1.trans tB0))
    · intro a2 v2 hr hs hd
      have d0 : Act.get a2 82 = .bool false := hd ⟨12, .data⟩ (by simp) rfl
      exact vstep_val rfl rfl (x_moveV d0)
    · intro a2 v2 hr hs hd
      exact vstep_val (⟨by decide, false, hd ⟨13, .guard⟩ (by simp) rfl, rfl⟩) rfl (Za (o := 4) (by kernel_rfl) (b := b) (o0 := 0) ((hs.get 2 (by decide)).trans q2))
    · intro a2 v2 hr hs hd
      have d0 : Act.get a2 84 = .pointer (some ⟨b, 0 + 4, none⟩) := hd ⟨14, .data⟩ (by simp) rfl
      exact vstep_val (⟨by decide, false, hd ⟨13, .guard⟩ (by simp) rfl, rfl⟩) rfl (Zl (by kernel_rfl) (b := b) (o := 0 + 4) d0 (by rw [Zc ((hm.trans hr).some w1b (fun f => f)), Nat.zero_add]; exact hca 4 (by omega)))
    · intro a2 v2 hr hs hd
      exact vstep_val (⟨by decide, false, hd ⟨13, .guard⟩ (by simp) rfl, rfl⟩) rfl (by rw [show Value.int .i64 (i : Nat) = a2.eval (.tmp 6) from ((hs.get 6 (by decide)).trans q6).symm]; exact Zm)
    · intro a2 v2 hr hs hd
      have d0 : Act.get a2 85 = cA 4 := hd ⟨15, .data⟩ (by simp) rfl
      have d1 : Act.get a2 86 = .int .i64 (i : Nat) := hd ⟨16, .data⟩ (by simp) rfl
      exact vstep_val (⟨by decide, false, hd ⟨13, .guard⟩ (by simp) rfl, rfl⟩) rfl (Zx (sz := 2) (i := i) (b := kA) (o := oA) (n := u.length) (cap := capA4) (k := .i64) (by kernel_rfl) (d0.trans (hA4.trans (by rw [eA]))) d1 hil)
    · intro a2 v2 hr hs hd
      have d0 : Act.get a2 87 = .pointer (some ⟨kA, oA + i * 2, none⟩) := hd ⟨17, .data⟩ (by simp) rfl
      exact vstep_val (⟨by decide, false, hd ⟨13, .guard⟩ (by simp) rfl, rfl⟩) rfl (Za (o := 1) (by kernel_rfl) (b := kA) (o0 := oA + i * 2) d0)
    · intro a2 v2 hr hs hd
      have d0 : Act.get a2 88 = .pointer (some ⟨kA, oA + i * 2 + 1, none⟩) := hd ⟨18, .data⟩ (by simp) rfl
      exact vstep_val (⟨by decide, false, hd ⟨13, .guard⟩ (by simp) rfl, rfl⟩) rfl (Zl (by kernel_rfl) (b := kA) (o := oA + i * 2 + 1) d0 (by rw [Zc (hr.some hhA' (fun f => f))]; exact heA i hil 1 (by omega)))
    · intro a2 v2 hr hs hd
      exact vstep_val (⟨by decide, false, hd ⟨13, .guard⟩ (by simp) rfl, rfl⟩) rfl (Za (o := 4) (by kernel_rfl) (b := b + 1) (o0 := 0) ((hs.get 3 (by decide)).trans q3))
    · intro a2 v2 hr hs hd
      have d0 : Act.get a2 90 = .pointer (some ⟨b + 1, 0 + 4, none⟩) := hd ⟨20, .data⟩ (by simp) rfl
      exact vstep_val (⟨by decide, false, hd ⟨13, .guard⟩ (by simp) rfl, rfl⟩) rfl (Zl (by kernel_rfl) (b := b + 1) (o := 0 + 4) d0 (by rw [Zc ((hm.trans hr).some w1z (fun f => f)), Nat.zero_add]; exact hcb 4 (by omega)))
    · intro a2 v2 hr hs hd
      exact vstep_val (⟨by decide, false, hd ⟨13, .guard⟩ (by simp) rfl, rfl⟩) rfl (by rw [show Value.int .i64 (i : Nat) = a2.eval (.tmp 6) from ((hs.get 6 (by decide)).trans q6).symm]; exact Zm)
    · intro a2 v2 hr hs hd
      have d0 : Act.get a2 91 = cB 4 := hd ⟨21, .data⟩ (by simp) rfl
      have d1 : Act.get a2 92 = .int .i64 (i : Nat) := hd ⟨22, .data⟩ (by simp) rfl
      exact vstep_val (⟨by decide, false, hd ⟨13, .guard⟩ (by simp) rfl, rfl⟩) rfl (Zx (sz := 2) (i := i) (b := kB) (o := oB) (n := u.length) (cap := capB4) (k := .i64) (by kernel_rfl) (d0.trans (hB4.trans (by rw [eB]))) d1 hil)
    · intro a2 v2 hr hs hd
      have d0 : Act.get a2 93 = .pointer (some ⟨kB, oB + i * 2, none⟩) := hd ⟨23, .data⟩ (by simp) rfl
      exact vstep_val (⟨by decide, false, hd ⟨13, .guard⟩ (by simp) rfl, rfl⟩) rfl (Za (o := 1) (by kernel_rfl) (b := kB) (o0 := oB + i * 2) d0)
    · intro a2 v2 hr hs hd
      have d0 : Act.get a2 94 = .pointer (some ⟨kB, oB + i * 2 + 1, none⟩) := hd ⟨24, .data⟩ (by simp) rfl
      exact vstep_val (⟨by decide, false, hd ⟨13, .guard⟩ (by simp) rfl, rfl⟩) rfl (Zl (by kernel_rfl) (b := kB) (o := oB + i * 2 + 1) d0 (by rw [Zc (hr.some hhB' (fun f => f))]; exact heB i hil 1 (by omega)))
    · intro a2 v2 hr hs hd
      have d0 : Act.get a2 89 = gA i 1 := hd ⟨19, .data⟩ (by simp) rfl
      have d1 : Act.get a2 95 = gB i 1 := hd ⟨25, .data⟩ (by simp) rfl
      have hmm := (w1m.trans hm).trans hr
      refine ⟨⟨by decide, false, hd ⟨13, .guard⟩ (by simp) rfl, rfl⟩, owp_call (Zy (by kernel_rfl) rfl) (R := fun e w' => e = .returned (.bool true) /\ Mod none' v2 w') ?_ ?_⟩
      · rw [show ∀ a : Act, (#[Operand.tmp 89, Operand.tmp 95] : Array Operand).map a.eval = #[Act.get a 89, Act.get a 95] from fun a => by simp [Ze], d0, d1]
        exact same_spec (tA2.mod hmm (fun _ _ f => f) (fun _ h => h)) (tB2.mod hmm (fun _ _ f => f) (fun _ h => h))
      · rintro e w3 ⟨rfl, h3⟩
        exact ⟨_, rfl, rfl, h3⟩
    · intro a2 v2 hr hs hd
      have d0 : Act.get a2 96 = .bool true := hd ⟨26, .data⟩ (by simp) rfl
      exact vstep_val (⟨by decide, false, hd ⟨13, .guard⟩ (by simp) rfl, rfl⟩) rfl (x_notV d0 rfl)
    intro a2 v2 hr hs hh
    have d3 : Act.get a2 83 = .bool false := hh 13 (by decide)
    have d7 : Act.get a2 97 = .bool false := hh 27 (by decide)
    have zN : a2.tmps.size = 100 := hs.size.trans qN
    refine Zv rfl (x_pickF d3 d7) (wpList_nil ?_)
    refine wp_cond_false ?_ (wp_skip ?_)
    · simp (disch := first | omega | simp only [Zs]; omega) only [Zo, Ze, Zn, Zq]
    simp only [Exit.then, Exit.inBlock]
    have hbz : ∀ t, t ∉ [70, 71, 72, 73, 74, 75, 76, 77, 78, 79, 80, 81, 82, 83, 84, 85, 86, 87, 88, 89, 90, 91, 92, 93, 94, 95, 96, 97] -> Act.get a2 t = Act.get a1 t := fun t ht => hs.get t ht
    refine wp_region_lit (Zv rfl (x_add (k := .i64) (m := (i : Nat)) (n := 1) ?_ rfl) (Zv rfl Zm (wpList_nil ?_)))
    · simp (disch := first | omega | simp only [Zs]; omega) only [Zo, Ze, Zn, Zq, hbz 67 (by decide)]
      exact q67
    have hwrap : IntKind.i64.wrap ((i : Int) + 1) = ((i + 1 : Nat) : Int) := by rw [IntKind.wrap_i64]; omega
    refine ⟨⟨?_, ?_, ?_, ?_, ?_, hm.trans hr, i + 1, by omega, ?_⟩, ?_⟩
    · simp only [Zs]; exact zN
    · simp only [Zd]; exact hs.defers.trans qd
    · simp (disch := first | omega | simp only [Zs]; omega) only [Zo, Ze, Zn, Zq, hbz 2 (by decide), q2]
    · simp (disch := first | omega | simp only [Zs]; omega) only [Zo, Ze, Zn, Zq, hbz 3 (by decide), q3]
    · simp (disch := first | omega | simp only [Zs]; omega) only [Zo, Ze, Zn, Zq, hbz 66 (by decide), q66]
    · simp (disch := first | omega | simp only [Zs]; omega) only [Zo, Ze, Zn, Zq]
      rw [hwrap]
    · simp (disch := first | omega | simp only [Zs]; omega) only [Zo, Ze, Zn, Zq]
      rw [hwrap, p67']
      simp only [lenN, Int.toNat_natCast]
      omega
end Go.Proofs.YtcldbjehliladaaDoor
