/-
  FnMakeReadShareGroupStateResponse: the walk through the law.
  FnMakeReadShareGroupStateResponse: the row.
-/
import Derived.Test.YtmehfgiadapekaaGreatRows
import Derived.JoinedCond
import Derived.WalkKit
import Derived.ProofKit
import Derived.OpenShut
import Derived.Below
import Derived.ChangeSame
import Derived.ChangeSlices
import Derived.Stop.LaidErr
import Derived.Deep.DeepHandedRow
import Derived.Deep.DeepWitnessRowRef
import Derived.ReadAgain
import Derived.Test.YtmehfgiadapekaaGreatPFReadShareGroupStateResponse
import Derived.Test.YtmehfgiadapekaaGreatPZw
import Derived.Test.YtmehfgiadapekaaGreatPWr
set_option linter.unusedSimpArgs false
set_option linter.unusedVariables false
namespace Go.Proofs.YtmehfgiadapekaaGreat
open Go Go.RowKit
theorem dnull_ReadShareGroupStateResponse (w : World) (b : Nat) : Calls Tryz.prog 37 #[.pointer (some ⟨b, 0, none⟩)] w fun e w' => ∃ r, e = .returned r /\ Mod none' w w' := by
 refine calls_of_wp Tryz.func37 rfl (wp_skip ?_)
 exact ⟨rfl, .tuple #[], by simp [results, show Tryz.f37.results = #[] from rfl], .tuple #[], rfl, .refl _⟩
theorem newp_ReadShareGroupStateResponse : NewP Tryz.prog 18 := newp_rule (z := .agg #[.int .i16 0, .slice none 0 0, .map none]) Tryz.func18 rfl rfl rfl (by kernel_rfl) dnull_ReadShareGroupStateResponse (by kernel_rfl)
theorem max_ReadShareGroupStateResponse (w : World) : Calls Tryz.prog 6 #[] w fun e w' => e = .returned (.int .i64 (0 : Int)) /\ Mod none' w w' := by
 refine calls_of_wp Tryz.func6 rfl ?_
 refine wp_act (fun a : Act => a.tmps.size = 4 /\ a.defers = []) ⟨rfl, rfl⟩ ?_
 rintro a ⟨aN, ad⟩
 refine wp_seq (wp_region_lit (Zv rfl Zi (wpList_nil ?_)))
 refine wp_seq (wp_region_lit (wpl_call rfl (Zy (by kernel_rfl) rfl) (R := fun e w' => ∃ b, e = .returned (.pointer (some ⟨b, 0, none⟩)) /\ Mod none' w w') (by simpa using newp_ReadShareGroupStateResponse w) ?_))
 rintro e w1 ⟨b, rfl, m1⟩
 refine ⟨_, rfl, wpl_call rfl (Zy (by kernel_rfl) rfl) (R := fun e w' => e = .returned (.int .i16 0) /\ w1 = w') ?_ ?_⟩
 ·go_enter Tryz.func19, Tryz.ntmps19
  go_wp2
  go_ret
  exact ⟨rfl, rfl⟩
 rintro e w2 ⟨rfl, rfl⟩
 refine ⟨_, rfl, Zv rfl (x_convInt (n := 0) (k := .i16) (k' := .i64) (by kernel_rfl) (by kernel_rfl) ?_) (Zv rfl Zi (wpList_nil ?_))⟩
 ·simp (disch := first | omega | simp only [Zs]; omega) only [Zo, Ze, Zn, Zq]
 refine wp_act (c := .ret) (fun a : Act => Act.get a 0 = .int .i64 0 /\ a.defers = []) ⟨?_, ?_⟩ ?_
 ·simp (disch := first | omega | simp only [Zs]; omega) only [Zo, Ze, Zn, Zq]
  rfl
 ·simp only [Zd]; exact ad
 rintro a9 ⟨z0, zd⟩
 exact wp_ret (bodyPost_ret (results_tmp rfl _ _ _) zd ⟨congrArg Ending.returned z0, m1⟩)
set_option maxHeartbeats 4000000 in
set_option maxRecDepth 100000 in
theorem spec_sReadShareGroupStateResponseTopicPartitionStateBatch (w : World) : Calls Tryz.prog 73 #[] w fun e w' => ∃ k, e = .returned (.slice (some ⟨k, 0, none⟩) 4 4) /\ Mod none' w w' /\ ∀ W, Mod (fun k => k < w.heap.size) w' W -> FdsI W (.slice (some ⟨k, 0, none⟩) 4 4) ([.mk 4 0 (-1) (-1) (-1) 0 0 [], .mk 4 0 (-1) (-1) (-1) 0 0 [], .mk 1 0 (-1) (-1) (-1) 0 0 [], .mk 2 0 (-1) (-1) (-1) 0 0 []]) := by
 go_enter Tryz.func73, Tryz.ntmps73
 go_wp2
 go_ret
 exact ⟨_, rfl, (Mod.refl w).alloc _, fun W hW => FdsI.of (fs := [.mk 4 0 (-1) (-1) (-1) 0 0 [], .mk 4 0 (-1) (-1) (-1) 0 0 [], .mk 1 0 (-1) (-1) (-1) 0 0 [], .mk 2 0 (-1) (-1) (-1) 0 0 []]) [.slice none 0 0, .slice none 0 0, .slice none 0 0, .slice none 0 0] (hW.some (Zh w _) (Nat.not_lt.2 (Nat.le_refl _))) rfl (by decide) rfl ⟨FdsI.none' _, FdsI.none' _, FdsI.none' _, FdsI.none' _, trivial⟩⟩
set_option maxHeartbeats 4000000 in
set_option maxRecDepth 100000 in
theorem spec_sReadShareGroupStateResponseTopicPartition (w : World) : Calls Tryz.prog 38 #[] w fun e w' => ∃ k, e = .returned (.slice (some ⟨k, 0, none⟩) 6 6) /\ Mod none' w w' /\ ∀ W, Mod (fun k => k < w.heap.size) w' W -> FdsI W (.slice (some ⟨k, 0, none⟩) 6 6) ([.mk 3 0 (-1) (-1) (-1) 0 0 [], .mk 2 0 (-1) (-1) (-1) 0 0 [], .mk 8 0 (-1) 0 (-1) 0 0 [], .mk 3 0 (-1) (-1) (-1) 0 0 [], .mk 4 0 (-1) (-1) (-1) 0 0 [], .mk 11 0 (-1) (-1) (-1) 0 10 [.mk 4 0 (-1) (-1) (-1) 0 0 [], .mk 4 0 (-1) (-1) (-1) 0 0 [], .mk 1 0 (-1) (-1) (-1) 0 0 [], .mk 2 0 (-1) (-1) (-1) 0 0 []]]) := by
 go_enter Tryz.func38, Tryz.ntmps38
 go_wp2_with (first | (go_at_call 73; refine (spec_sReadShareGroupStateResponseTopicPartitionStateBatch _).mono ?_; rintro e w1 ⟨k1, rfl, hm1, hf1⟩))
 go_ret
 exact ⟨_, rfl, ((Mod.refl w).trans hm1).alloc _, fun W hW => FdsI.of (fs := [.mk 3 0 (-1) (-1) (-1) 0 0 [], .mk 2 0 (-1) (-1) (-1) 0 0 [], .mk 8 0 (-1) 0 (-1) 0 0 [], .mk 3 0 (-1) (-1) (-1) 0 0 [], .mk 4 0 (-1) (-1) (-1) 0 0 [], .mk 11 0 (-1) (-1) (-1) 0 10 [.mk 4 0 (-1) (-1) (-1) 0 0 [], .mk 4 0 (-1) (-1) (-1) 0 0 [], .mk 1 0 (-1) (-1) (-1) 0 0 [], .mk 2 0 (-1) (-1) (-1) 0 0 []]]) [.slice none 0 0, .slice none 0 0, .slice none 0 0, .slice none 0 0, .slice none 0 0, .slice (some ⟨k1, 0, none⟩) 4 4] (hW.some (Zh w1 _) (Nat.not_lt.2 (hm1.size))) rfl (by decide) rfl ⟨FdsI.none' _, FdsI.none' _, FdsI.none' _, FdsI.none' _, FdsI.none' _, hf1 _ (Mod.trans' ((Mod.refl (S := none') _).alloc _) hW (fun _ _ f => f.elim) (fun i _ h => Nat.lt_of_lt_of_le h (Nat.le_refl _))), trivial⟩⟩
set_option maxHeartbeats 4000000 in
set_option maxRecDepth 100000 in
theorem spec_sReadShareGroupStateResponseTopic (w : World) : Calls Tryz.prog 20 #[] w fun e w' => ∃ k, e = .returned (.slice (some ⟨k, 0, none⟩) 2 2) /\ Mod none' w w' /\ ∀ W, Mod (fun k => k < w.heap.size) w' W -> FdsI W (.slice (some ⟨k, 0, none⟩) 2 2) ([.mk 7 0 (-1) (-1) (-1) 0 0 [], .mk 11 0 (-1) (-1) (-1) 0 10 [.mk 3 0 (-1) (-1) (-1) 0 0 [], .mk 2 0 (-1) (-1) (-1) 0 0 [], .mk 8 0 (-1) 0 (-1) 0 0 [], .mk 3 0 (-1) (-1) (-1) 0 0 [], .mk 4 0 (-1) (-1) (-1) 0 0 [], .mk 11 0 (-1) (-1) (-1) 0 10 [.mk 4 0 (-1) (-1) (-1) 0 0 [], .mk 4 0 (-1) (-1) (-1) 0 0 [], .mk 1 0 (-1) (-1) (-1) 0 0 [], .mk 2 0 (-1) (-1) (-1) 0 0 []]]]) := by
 go_enter Tryz.func20, Tryz.ntmps20
 go_wp2_with (first | (go_at_call 38; refine (spec_sReadShareGroupStateResponseTopicPartition _).mono ?_; rintro e w1 ⟨k1, rfl, hm1, hf1⟩))
 go_ret
 exact ⟨_, rfl, ((Mod.refl w).trans hm1).alloc _, fun W hW => FdsI.of (fs := [.mk 7 0 (-1) (-1) (-1) 0 0 [], .mk 11 0 (-1) (-1) (-1) 0 10 [.mk 3 0 (-1) (-1) (-1) 0 0 [], .mk 2 0 (-1) (-1) (-1) 0 0 [], .mk 8 0 (-1) 0 (-1) 0 0 [], .mk 3 0 (-1) (-1) (-1) 0 0 [], .mk 4 0 (-1) (-1) (-1) 0 0 [], .mk 11 0 (-1) (-1) (-1) 0 10 [.mk 4 0 (-1) (-1) (-1) 0 0 [], .mk 4 0 (-1) (-1) (-1) 0 0 [], .mk 1 0 (-1) (-1) (-1) 0 0 [], .mk 2 0 (-1) (-1) (-1) 0 0 []]]]) [.slice none 0 0, .slice (some ⟨k1, 0, none⟩) 6 6] (hW.some (Zh w1 _) (Nat.not_lt.2 (hm1.size))) rfl (by decide) rfl ⟨FdsI.none' _, hf1 _ (Mod.trans' ((Mod.refl (S := none') _).alloc _) hW (fun _ _ f => f.elim) (fun i _ h => Nat.lt_of_lt_of_le h (Nat.le_refl _))), trivial⟩⟩
set_option maxHeartbeats 4000000 in
set_option maxRecDepth 100000 in
theorem spec_ReadShareGroupStateResponse (w : World) : Calls Tryz.prog 7 #[] w fun e w' => ∃ v, e = .returned (.agg #[v, .int .i64 0]) /\ Mod none' w w' /\ FdsI w' v Zg := by
 go_enter Tryz.func7, Tryz.ntmps7
 go_wp2_with (first | (go_at_call 20; refine (spec_sReadShareGroupStateResponseTopic _).mono ?_; rintro e w1 ⟨k1, rfl, hm1, hf1⟩; have hx1 : w1.heap[w.heap.size]? = some (.cells #[.slice none 0 0, .int .i64 0] 31 (0, 0)) := hm1.some (Zh w _) (fun f => f); have qa1 : w1.cell? ⟨w.heap.size, 0, none⟩ = some (.slice none 0 0) := (Zc hx1).trans rfl; have qb1 : w1.cell? ⟨w.heap.size, 1, none⟩ = some (.int .i64 0) := (Zc hx1).trans rfl; have qc1 : w1.frozen? ⟨w.heap.size, 0, none⟩ = false := (Zz hx1).trans rfl; have qd1 : w1.frozen? ⟨w.heap.size, 1, none⟩ = false := (Zz hx1).trans rfl; have qs1 : w.heap.size < w1.heap.size := lt_of_block hx1; have hb1 := Lib.hid hx1; clear hx1))
 obtain ⟨hA, hB, hM⟩ := spec_end (y0 := .slice (some ⟨w1.heap.size, 0, none⟩) 1 1) (y1 := .int .i64 0) (cells := #[.int .i64 11, .int .i64 0, .int .i64 (-1), .int .i64 (-1), .int .i64 (-1), .int .i64 0, .int .i64 10, .slice (some ⟨k1, 0, none⟩) 2 2]) (T := 51) hb1.out
 refine bodyPost_ret (results_cellN rfl (b := w.heap.size) (o := 0) (cs := [.slice (some ⟨w1.heap.size, 0, none⟩) 1 1, .int .i64 0]) rfl (by kernel_rfl) (fun j u hu => by rw [Zc hA, Nat.zero_add]; simpa using hu)) rfl
  ⟨_, rfl, Mod.trans' (((Mod.refl w).alloc _).trans hm1) hM (fun _ _ f => f) (fun j hj e => by have : j = w.heap.size := e; omega), FdsI.of (fs := Zg) [.slice (some ⟨k1, 0, none⟩) 2 2] hB rfl (by decide) rfl ⟨hf1 _ (Mod.trans' (Mod.refl (S := none') w1) hM (fun _ _ f => f.elim) (fun i _ e => by have e1 : i = w.heap.size := e; show i < (World.alloc _ _).heap.size; simp; omega)), trivial⟩⟩
set_option maxHeartbeats 1000000 in
set_option maxRecDepth 20000 in
theorem law_ReadShareGroupStateResponse {w : World} {n : Int} {ct : Array Value} {t : Tr} (hn : 0 <= n /\ n <= 255) (hct : ct.size = 5) (ht : TreeI w (from' ct 0) t) (hlen : ∀ ver fl, (partW Zg ver fl t).length <= 4294967295) :
  Calls Tryz.prog 3 #[.int .u8 n, .agg ct] w fun e w' => e = .returned (.bool true) /\ Mod none' w w' := by
 refine calls_of_wp Tryz.func3 rfl ?_
 show Code.wp _ _ _ { tmps := (#[.int .u8 n, .agg ct] : Array Value) ++ Array.replicate (31 - (#[.int .u8 n, .agg ct] : Array Value).size) undef, defers := [] } w
 refine wp_act (fun a : Act => Act.get a 0 = .int .u8 n /\ Act.get a 1 = .agg ct /\ a.tmps.size = 31 /\ a.defers = []) ⟨?_, ?_, ?_, rfl⟩ ?_
 ·rw [Zj _ _ _ (by simp)]; rfl
 ·rw [Zj _ _ _ (by simp)]; rfl
 ·simp
 rintro a ⟨a0, a1, aN, ad⟩
 refine wp_seq (wp_region_lit (Zv rfl x_box (Zv rfl Zi (wpList_nil ?_))))
 rw [show (a.eval (.tmp 1)).cells = ct from by rw [Ze, a1]; rfl]
 have b3 := Zh w (.cells ct 26)
 have m0 : Mod none' w (w.alloc (.cells ct 26)) := (Mod.refl w).alloc _
 generalize w.alloc (.cells ct 26) = w0 at *
 obtain ⟨x3, hx3⟩ : ∃ x, x = w.heap.size := ⟨_, rfl⟩
 rw [<- hx3] at b3 ⊢
 refine wp_act (fun a : Act => Act.get a 0 = .int .u8 n /\ Act.get a 3 = .pointer (some ⟨x3, 0, none⟩) /\ a.tmps.size = 31 /\ a.defers = []) ⟨?_, ?_, ?_, ?_⟩ ?_
 ·simp (disch := first | omega | simp only [Zs]; omega) only [Zo, Ze, Zn, Zq, a0]
 ·simp (disch := first | omega | simp only [Zs]; omega) only [Zo, Ze, Zn, Zq]
 ·simp only [Zs]; exact aN
 ·simp only [Zd]; exact ad
 clear a0 a1 aN ad
 rintro a ⟨a0, a3, aN, ad⟩
 refine wp_seq (wp_seq (wp_region_lit (Zv rfl (x_loadN (cs := ct.toList) (b := x3) (o := 0) (by rw [Array.length_toList, hct]; kernel_rfl) ?_ ?_) (wpl_call rfl (Zy (by kernel_rfl) rfl) (R := SomeBool w0) ?_ ?_))))
 ·simp (disch := first | omega | simp only [Zs]; omega) only [Zo, Ze, Zn, Zq, a3]
 ·intro j u hu
  rw [Zc b3, Nat.zero_add]; simpa using hu
 ·rw [show ∀ a : Act, (#[Operand.tmp 8] : Array Operand).map a.eval = #[Act.get a 8] from fun a => by simp [Ze]]
  simp (disch := first | omega | simp only [Zs]; omega) only [Zo, Ze, Zn, Zq, Array.toArray_toList]
  exact zz1_c hct (ht.mod m0)
 rintro e w1 ⟨b, rfl, m1⟩
 refine ⟨_, rfl, Zv rfl (x_notV (b := b) (c := !b) ?_ rfl) (wpList_nil ?_)⟩
 ·simp (disch := first | omega | simp only [Zs]; omega) only [Zo, Ze, Zn, Zq]
 cases b with
 | false =>
  refine wp_cond_true ?_ (wp_seq (wp_region_lit (Zv rfl Zi (wpList_nil (wp_ret ?_)))))
  ·simp (disch := first | omega | simp only [Zs]; omega) only [Zo, Ze, Zn, Zq]
   rfl
  ·simp only [Exit.then]
   refine bodyPost_ret (results_tmp rfl _ _ _) ?_ ⟨?_, m0.trans m1⟩
   ·simp only [Zd]; exact ad
   ·rw [show ∀ (a : Act), a.tmps.getD 4 undef = Act.get a 4 from fun _ => rfl]
    simp (disch := first | omega | simp only [Zs]; omega) only [Zo, Ze, Zn, Zq]
    rfl
 | true =>
 refine wp_cond_false ?_ (wp_skip ?_)
 ·simp (disch := first | omega | simp only [Zs]; omega) only [Zo, Ze, Zn, Zq]
  rfl
 refine wp_act (fun a : Act => Act.get a 0 = .int .u8 n /\ Act.get a 3 = .pointer (some ⟨x3, 0, none⟩) /\ a.tmps.size = 31 /\ a.defers = []) ⟨?_, ?_, ?_, ?_⟩ ?_
 ·simp (disch := first | omega | simp only [Zs]; omega) only [Zo, Ze, Zn, Zq, a0]
 ·simp (disch := first | omega | simp only [Zs]; omega) only [Zo, Ze, Zn, Zq, a3]
 ·simp only [Zs]; exact aN
 ·simp only [Zd]; exact ad
 clear a0 a3 aN ad
 rintro a ⟨a0, a3, aN, ad⟩
 refine wp_seq (wp_region_lit (wpl_call rfl (Zy (by kernel_rfl) rfl) (R := fun e w' => e = .returned (.int .i64 (0 : Int)) /\ Mod none' w1 w') (by simpa using max_ReadShareGroupStateResponse w1) ?_))
 rintro e w2 ⟨rfl, m2⟩
 refine ⟨_, rfl, Zv rfl Zi (wpList_nil ?_)⟩
 refine wp_seq (wp_seq (wp_region_lit (Zv rfl Zm (Zv rfl (x_lss (k := .i64) (m := 0) (n := 0) ?_ rfl) (wpList_nil ?_)))))
 ·simp (disch := first | omega | simp only [Zs]; omega) only [Zo, Ze, Zn, Zq]
 refine wp_cond_false ?_ (wp_skip ?_)
 ·simp (disch := first | omega | simp only [Zs]; omega) only [Zo, Ze, Zn, Zq]
  rfl
 refine wp_act (fun a : Act => Act.get a 0 = .int .u8 n /\ Act.get a 3 = .pointer (some ⟨x3, 0, none⟩) /\ Act.get a 5 = .int .i64 0 /\ a.tmps.size = 31 /\ a.defers = []) ⟨?_, ?_, ?_, ?_, ?_⟩ ?_
 ·simp (disch := first | omega | simp only [Zs]; omega) only [Zo, Ze, Zn, Zq, a0]
 ·simp (disch := first | omega | simp only [Zs]; omega) only [Zo, Ze, Zn, Zq, a3]
 ·simp (disch := first | omega | simp only [Zs]; omega) only [Zo, Ze, Zn, Zq]
 ·simp only [Zs]; exact aN
 ·simp only [Zd]; exact ad
 clear a0 a3 aN ad
 rintro a ⟨a0, a3, a5, aN, ad⟩
 have hv : IntKind.i64.wrap ((0 : Int) + 1) ≠ 0 := by decide
 obtain ⟨k, hk⟩ : ∃ k, k = (IntKind.i64.wrap n).tmod (IntKind.i64.wrap ((0 : Int) + 1)) := ⟨_, rfl⟩
 have hver : ∀ w, Calls Tryz.prog 8 #[.int .u8 n, .int .i64 0] w fun e w' => e = .returned (.int .i64 k) /\ w = w' := fun w => by rw [hk]; exact version_spec hv w
 have hkr : 0 <= k /\ k <= 0 := by
  have e1 : IntKind.i64.wrap n = n := by rw [IntKind.wrap_i64]; omega
  have e2 : IntKind.i64.wrap ((0 : Int) + 1) = 0 + 1 := by decide
  rw [hk, e1, e2, Int.tmod_eq_emod_of_nonneg hn.1]
  omega
 clear hk
 have hk16 : IntKind.i16.wrap k = k := by
  simp only [IntKind.wrap, IntKind.bits, IntKind.signed]; simp; split <;> omega
 -- the fields
 refine wp_seq (wp_region_lit (wpl_call rfl (Zy (by kernel_rfl) rfl) (R := fun e w' => ∃ v, e = .returned (.agg #[v, .int .i64 0]) /\ Mod none' w2 w' /\ FdsI w' v Zg) (by simpa using spec_ReadShareGroupStateResponse w2) ?_))
 rintro e w3 ⟨v, rfl, m3, hfs⟩
 obtain ⟨fa, fcap, hfv⟩ := hfs.slice
 subst hfv
 refine ⟨_, rfl, Zv rfl Zm (Zv rfl Zm (wpl_call rfl (Zy (by kernel_rfl) rfl) (R := fun e w' => e = .returned (.int .i64 k) /\ w3 = w') ?_ ?_))⟩
 ·rw [show ∀ a : Act, (#[Operand.tmp 15, Operand.tmp 16] : Array Operand).map a.eval = #[Act.get a 15, Act.get a 16] from fun a => by simp [Ze]]
  simp (disch := first | omega | simp only [Zs]; omega) only [Zo, Ze, Zn, Zq, a0, a5]
  exact hver w3
 rintro e w' ⟨rfl, rfl⟩
 refine ⟨_, rfl, Zv rfl (x_alloc zeroMsg) (wpl_skip rfl (x_storeN (cs := #[.slice fa Zg.length fcap, .int .i64 0]) (b := w3.heap.size) (o := 0) (by kernel_rfl) ?_ ?_ (by simp [Value.oneCell']) (there_new rfl)) (Zv rfl Zi (wpList_nil ?_)))⟩
 ·simp (disch := first | omega | simp only [Zs]; omega) only [Zo, Ze, Zn, Zq]
 ·simp (disch := first | omega | simp only [Zs]; omega) only [Zo, Ze, Zn, Zq]
 obtain ⟨b6, m4⟩ := store_new w3 31 (zc := (Value.agg #[.slice none 0 0, .int .i64 0]).cells) (cs := #[.slice fa Zg.length fcap, .int .i64 0]) rfl
 generalize (w3.alloc (.cells (Value.agg #[.slice none 0 0, .int .i64 0]).cells 31)).setCells w3.heap.size 0 (#[Value.slice fa Zg.length fcap, .int .i64 0] : Array Value).toList = w4 at *
 obtain ⟨x6, hx6⟩ : ∃ x, x = w3.heap.size := ⟨_, rfl⟩
 rw [<- hx6] at b6 ⊢
 refine wp_act (fun a : Act => Act.get a 3 = .pointer (some ⟨x3, 0, none⟩) /\ Act.get a 6 = .pointer (some ⟨x6, 0, none⟩) /\ Act.get a 7 = .int .i64 k /\ a.tmps.size = 31 /\ a.defers = []) ⟨?_, ?_, ?_, ?_, ?_⟩ ?_
 ·simp (disch := first | omega | simp only [Zs]; omega) only [Zo, Ze, Zn, Zq, a3]
 ·simp (disch := first | omega | simp only [Zs]; omega) only [Zo, Ze, Zn, Zq]
 ·simp (disch := first | omega | simp only [Zs]; omega) only [Zo, Ze, Zn, Zq]
 ·simp only [Zs]; exact aN
 ·simp only [Zd]; exact ad
 clear a0 a3 a5 aN ad
 rintro a ⟨a3, a6, a7, aN, ad⟩
 have m04 := ((m1.trans m2).trans m3).trans m4
 have b3' := m04.some b3 (fun f => f)
 have ht4 := (ht.mod m0).mod m04
 have hfs4 := hfs.mod m4
 have hflx : Zf k = flexW 0 k := by
  simp only [Zf, flexW]
  first | rfl | (rw [Bool.eq_iff_iff]; simp)
 obtain ⟨Y, hY⟩ : ∃ Y, Y = Tr.mk 0 [] false (fitsW Zg 0 k t) (cutW (unkW t.U)) := ⟨_, rfl⟩
 obtain ⟨bs, hbs⟩ : ∃ bs, bs = partW Zg k (flexW 0 k) t := ⟨_, rfl⟩
 have hYU : Y.U = cutW (unkW t.U) := by rw [hY]; rfl
 have henc : encP Zg k (Zf k) (fillsW Zg 0 Y, Y.U) = bs := by
  rw [hYU, hY, fills_fitz Zg k t (by decide), encP_set (by decide) ht.ok, hbs, hflx]
 have hgok : goksW Zg 0 Y := by rw [hY]; exact goks_fit ht.ok _ _
 have hUok : UOk Y.U := by rw [hYU]; exact cutW_ok (unk_ok t.U (TreeI.keys ht))
 have hlb : bs.length <= 4294967295 := hbs ▸ hlen _ _
 have mg : ∀ a w', Mod none' w4 w' -> a = x6 -> True := fun _ _ _ _ => trivial
 refine wp_seq (region_rlt (l := [_, _, _, _, _, _, _, _, _, _, _, _, _]) (tl := [_]) rfl (Mod none') (Mod.refl w4).drew (fun _ _ _ h h' => h.trans h') [18, 19, 20, 21, 22, 23, 24, 25, 26, 27, 28, 29, 30]
  [fun v _ => v = .int .i64 k, fun v _ => v = .pointer (some ⟨x6, 0 + 0, none⟩), fun v _ => v = .slice fa Zg.length fcap, fun v _ => v = .int .i64 k, fun v _ => v = .agg ct, fun v w' => TreeV w' (fun _ => True) v Y, fun v w' => TreeV w' (fun _ => True) v Y, fun v w' => OctI w' v bs,
   fun v _ => v = .agg #[.slice fa Zg.length fcap, .int .i64 0], fun v _ => v = .int .i64 k, fun v _ => v = .agg ct, fun v w' => OctI w' v bs, fun v _ => v = .bool true]
  ?_ (by simp [regFormT]) (by decide) (fun d hd => by rw [aN]; simp at hd; omega) (by simp) (by kernel_rfl) ⟨?_, ?_, ?_, ?_, ?_, ?_, ?_, ?_, ?_, ?_, ?_, ?_, ?_, trivial⟩ ?_)
 ·intro g hg u1 w1 w2 hv hr
  simp only [List.mem_cons, List.not_mem_nil, or_false] at hg
  rcases hg with rfl | rfl | rfl | rfl | rfl | rfl | rfl | rfl | rfl | rfl | rfl | rfl | rfl
  ·exact hv
  ·exact hv
  ·exact hv
  ·exact hv
  ·exact hv
  ·exact hv.mod hr (fun _ _ f => f) (fun _ h => h)
  ·exact hv.mod hr (fun _ _ f => f) (fun _ h => h)
  ·exact hv.mod hr
  ·exact hv
  ·exact hv
  ·exact hv
  ·exact hv.mod hr
  ·exact hv
 ·intro a1 w1 hr hs hd
  exact Zw (x_moveV ((hs.get 7 (by decide)).trans a7)) ⟨_, rfl, .refl _, rfl⟩
 ·intro a1 w1 hr hs hd
  exact Zw (Za (show fieldOff Tryz.prog 31 0 = some 0 by kernel_rfl) (b := x6) (o0 := 0) (by rw [Ze]; exact (hs.get 6 (by decide)).trans a6)) ⟨_, rfl, .refl _, rfl⟩
 ·intro a1 w1 hr hs hd
  have q : Act.get a1 19 = .pointer (some ⟨x6, 0 + 0, none⟩) := hd ⟨1, .data⟩ (by simp) rfl
  exact Zw (Zl (by kernel_rfl) (b := x6) (o := 0 + 0) (by rw [Ze]; exact q) (by rw [Zc (hr.some b6 (fun f => f))]; rfl)) ⟨_, rfl, .refl _, rfl⟩
 ·intro a1 w1 hr hs hd
  exact Zw (x_moveV ((hs.get 7 (by decide)).trans a7)) ⟨_, rfl, .refl _, rfl⟩
 ·intro a1 w1 hr hs hd
  exact Zw (x_loadN (cs := ct.toList) (b := x3) (o := 0) (by rw [Array.length_toList, hct]; kernel_rfl) (by rw [Ze]; exact (hs.get 3 (by decide)).trans a3) (fun j v hv => by rw [Zc (hr.some b3' (fun f => f)), Nat.zero_add]; simpa using hv)) ⟨_, rfl, .refl _, by simp⟩
 ·intro a1 w1 hr hs hd
  have q20 : Act.get a1 20 = .slice fa Zg.length fcap := hd ⟨2, .data⟩ (by simp) rfl
  have q21 : Act.get a1 21 = .int .i64 k := hd ⟨3, .data⟩ (by simp) rfl
  have q22 : Act.get a1 22 = .agg ct := hd ⟨4, .data⟩ (by simp) rfl
  have ee : (#[Operand.tmp 20, .tmp 21, .tmp 22] : Array Operand).map a1.eval = #[.slice fa Zg.length fcap, .int .i64 k, .agg ct] := by simp [Ze, q20, q21, q22]
  refine owp_call (Zy (by kernel_rfl) rfl) (by rw [ee]; exact fit_c (fits_ok Zg (by decide)) (by decide) (Mod.refl w1) (hfs4.mod hr) hct (ht4.mod hr)) ?_
  rintro e w2 ⟨v, rfl, hm, hv⟩
  exact ⟨_, rfl, _, rfl, hm, hY ▸ hv.mod (Mod.refl (S := none') w2) (fun _ _ f => f) (fun _ _ => trivial)⟩
 ·intro a1 w1 hr hs hd
  obtain ⟨us, q, q2, q3, q4⟩ : TreeV w1 (fun _ => True) (Act.get a1 23) Y := hd ⟨5, .data⟩ (by simp) rfl
  have ee : (#[Operand.tmp 23] : Array Operand).map a1.eval = #[.agg us] := by simp [Ze, q]
  refine owp_call (Zy (by kernel_rfl) rfl) (by rw [ee]; exact given_spec _ Y (Nat.lt_succ_self _) us w1 _ q2 q4) ?_
  rintro e w2 ⟨v, rfl, hm, hv⟩
  exact ⟨_, rfl, _, rfl, hm, hv.mod (Mod.refl (S := none') w2) (fun _ _ f => f) (fun _ _ => trivial)⟩
 ·intro a1 w1 hr hs hd
  obtain ⟨us, q, q2, q3, q4⟩ : TreeV w1 (fun _ => True) (Act.get a1 24) Y := hd ⟨6, .data⟩ (by simp) rfl
  have q18 : Act.get a1 18 = .int .i64 k := hd ⟨0, .data⟩ (by simp) rfl
  have ee : (#[Operand.tmp 18, .tmp 24] : Array Operand).map a1.eval = #[.int .i64 k, .agg us] := by simp [Ze, q, q18]
  have hmk := make_ReadShareGroupStateResponse w1 us Y k q2 q4.toI (by rw [hk16]; exact ⟨hkr.1, hkr.2, rfl⟩) hgok hUok (by rw [hk16, henc]; omega)
  rw [hk16, henc] at hmk
  refine owp_call (Zy (by kernel_rfl) rfl) (by rw [ee]; exact hmk) ?_
  rintro e w2 ⟨z, rfl, hm, hown⟩
  obtain ⟨nl, _, ho⟩ := hown.oct
  exact ⟨_, rfl, _, rfl, hm, OctI.of_oct ho⟩
 ·intro a1 w1 hr hs hd
  exact Zw (x_loadN (cs := [.slice fa Zg.length fcap, .int .i64 0]) (b := x6) (o := 0) (by kernel_rfl) (by rw [Ze]; exact (hs.get 6 (by decide)).trans a6) (fun j u hu => by rw [Zc (hr.some b6 (fun f => f)), Nat.zero_add]; simpa using hu)) ⟨_, rfl, .refl _, rfl⟩
 ·intro a1 w1 hr hs hd
  exact Zw (x_moveV ((hs.get 7 (by decide)).trans a7)) ⟨_, rfl, .refl _, rfl⟩
 ·intro a1 w1 hr hs hd
  exact Zw (x_loadN (cs := ct.toList) (b := x3) (o := 0) (by rw [Array.length_toList, hct]; kernel_rfl) (by rw [Ze]; exact (hs.get 3 (by decide)).trans a3) (fun j v hv => by rw [Zc (hr.some b3' (fun f => f)), Nat.zero_add]; simpa using hv)) ⟨_, rfl, .refl _, by simp⟩
 ·intro a1 w1 hr hs hd
  have q26 : Act.get a1 26 = .agg #[.slice fa Zg.length fcap, .int .i64 0] := hd ⟨8, .data⟩ (by simp) rfl
  have q27 : Act.get a1 27 = .int .i64 k := hd ⟨9, .data⟩ (by simp) rfl
  have q28 : Act.get a1 28 = .agg ct := hd ⟨10, .data⟩ (by simp) rfl
  have ee : (#[Operand.tmp 26, .tmp 27, .tmp 28] : Array Operand).map a1.eval = #[.agg #[.slice fa Zg.length fcap, .int .i64 0], .int .i64 k, .agg ct] := by simp [Ze, q26, q27, q28]
  refine owp_call (Zy (by kernel_rfl) rfl) (by rw [ee]; exact write_c (by decide) (hfs4.mod hr) hct (ht4.mod hr) (hlen _ _)) ?_
  rintro e w2 ⟨z, rfl, hm, hown⟩
  obtain ⟨nl, _, ho⟩ := hown.oct
  exact ⟨_, rfl, _, rfl, hm, hbs ▸ OctI.of_oct ho⟩
 ·intro a1 w1 hr hs hd
  have q25 : OctI w1 (Act.get a1 25) bs := hd ⟨7, .data⟩ (by simp) rfl
  have q29 : OctI w1 (Act.get a1 29) bs := hd ⟨11, .data⟩ (by simp) rfl
  have ee : (#[Operand.tmp 25, .tmp 29] : Array Operand).map a1.eval = #[Act.get a1 25, Act.get a1 29] := by simp [Ze]
  refine owp_call (Zy (by kernel_rfl) rfl) (by rw [ee]; exact same_octs q25.s q29.s) ?_
  rintro e w2 hpost
  first
   | (obtain ⟨rfl, rfl⟩ := hpost; exact ⟨_, rfl, _, rfl, .refl _, rfl⟩)
   | (obtain ⟨rfl, hm⟩ := hpost; exact ⟨_, rfl, _, rfl, hm, rfl⟩)
 ·intro a1 w1 hr hs hh
  have q30 : Act.get a1 30 = .bool true := hh 12 (by simp)
  refine Zv rfl Zi (wpList_nil ?_)
  refine wp_ret (bodyPost_ret (results_tmp rfl _ _ _) ?_ ⟨?_, m0.trans (m04.trans hr)⟩)
  ·simp only [Zd]; exact hs.defers.trans ad
  ·rw [show ∀ (a : Act) t, a.tmps.getD t undef = Act.get a t from fun _ _ => rfl]
   rw [Zq (by rw [hs.size, aN]; decide), Ze, q30]
end Go.Proofs.YtmehfgiadapekaaGreat
set_option linter.unusedSimpArgs false
set_option linter.unusedVariables false
namespace Go.Proofs.YtmehfgiadapekaaGreat.CReadShareGroupStateResponse
open Go Go.ChangeShapes Go.WideShapes Go.ChangeAt Go.RowKit Go.Proofs.YtmehfgiadapekaaGreat
section
variable {H : Type} {enc : TypeId × Value -> H} {P : Program}
theorem post_of_below' {f : Func} {s : ChangeSpec} {apart fresh handsOn again : Bool} {W W' : World} {args : Array Value} {v : Value} {ds gs : List (DataW H)} {before pa pv : List MemPlace}
  (hW : DataW.Whole enc P f.params.toList s.vars apart W args.toList ds gs before)
  (hres : ∀ (b : Nat) (sp : Nat -> Bool) (hd : Bool), DataW.TrodAll enc P W' b sp hd f.resultTypes.toList (v.resultList f.resultTypes.size) (s.fn H (ds ++ gs)).results [])
  (hargs : ∀ sp : Nat -> Bool, (∀ p ∈ before, sp p.block = true) -> DataW.TrodAll enc P W' 0 sp true f.params.toList args.toList (s.fn H (ds ++ gs)).args pa)
  (hvars : ∀ sp : Nat -> Bool, (∀ p ∈ before, sp p.block = true) -> DataW.TrodVars enc P W' sp s.vars (s.fn H (ds ++ gs)).vars pv)
  (hps : before = pa ++ pv) (hb : Below W.heap.size W W')
  (hok : ∀ (j : Nat) (t : TypeId) (r : Value), f.resultTypes[j]? = some t -> (v.resultList f.resultTypes.size)[j]? = some r -> Value.okWide P W' .any 0 t r) :
  s.post enc P f apart fresh handsOn again W args v W' := by
 have hlt : ∀ p ∈ before, p.block < W.heap.size := fun p hp => hW.lt p hp
 have hold : ∀ p ∈ before, (fun b => decide (b < W.heap.size)) p.block = true := fun p hp => by simpa using hlt p hp
 refine ⟨ds, gs, before, [], pa, pv, hW, hres _ _ _, hargs _ hold, hvars _ hold, World.keptBut_mono (fun p hp => ⟨hp, ?_⟩) (hb.frame (· ∈ before)), fun _ => ?_⟩
 ·rw [hps, List.mem_append] at hp
  exact Or.inr hp
 ·obtain ⟨_, _, _, _, _, hz, hn⟩ := hW
  refine ⟨hok, _, _, ([] ++ pa) ++ pv, ⟨[] ++ pa, pv, trodAll_append (hargs _ (fun _ _ => rfl)) (hres _ _ _), hvars _ (fun _ _ => rfl), rfl, ?_, ?_⟩, ?_⟩
  ·intro b off hp
   have hin : MemPlace.cell b off ∈ before := by rw [hps]; simpa using hp
   rw [hb.frozen (hlt _ hin)]
   exact hz b off hin
  ·intro ha
   have := hn ha
   rw [hps] at this
   simpa using this
  ·intro p hp _
   rw [hps]
   simpa using hp
end
theorem own : ownKnob Tryz.prog.godebug = none := by kernel_rfl
theorem rowsFull : ∀ t e, t < Tryz.prog.types.size -> Tryz.prog.underlying t = some (.slice e) -> 0 < Tryz.prog.cellsOf e := slices_full_of Tryz.prog (by kernel_rfl)
theorem carryAll {H : Type} {enc : TypeId × Value -> H} {P : Program} {w w' : World} {base : Nat} {spare : Nat -> Bool} {held : Bool} : ∀ {ts : List TypeId} {vs : List Value} {ds : List (DataW H)} {ps : List MemPlace}, DataW.TrodAll enc P w base spare held ts vs ds ps -> (∀ p ∈ ps, w.sameAt w' p) -> DataW.TrodAll enc P w' base spare held ts vs ds ps
 | [], [], [], _, h, _ => h
 | _ :: _, _ :: _, _ :: _, _, ⟨p, q, ⟨n, h1⟩, h2, e⟩, hs => ⟨p, q, ⟨n, DataW.trod_carry n _ _ _ h1 (fun x hx => hs x (by rw [e]; exact List.mem_append_left _ hx))⟩, carryAll h2 (fun x hx => hs x (by rw [e]; exact List.mem_append_right _ hx)), e⟩
set_option maxRecDepth 100000 in
theorem contract (H : Type) (enc : TypeId × Value -> H) (W : World) (base : Nat) (args : Array Value) (ds gs : List (DataW H)) (before : List MemPlace)
  (hval : ∀ (j : Nat) t v, Tryz.f3.params[j]? = some t -> args[j]? = some v -> Value.okWide Tryz.prog W .any base t v)
  (hW : DataW.Whole enc Tryz.prog Tryz.f3.params.toList Rows.fnMakeReadShareGroupStateResponseSpec.vars false W args.toList ds gs before)
  (hk : Rows.uptoSmall H (ds ++ gs) = true) :
  Calls Tryz.prog 3 args W fun e W' => ∃ v, e = .returned v /\ Rows.fnMakeReadShareGroupStateResponseSpec.post enc Tryz.prog Tryz.f3 false true false false W args v W' := by
 have hW' := hW
 have hlt : ∀ p ∈ before, p.block < W.heap.size := fun p hp => hW.lt p hp
 obtain ⟨p, q, hA0, hV, rfl, hfz, hnd⟩ := hW
 have hA : DataW.TrodAll enc Tryz.prog W 0 (fun _ => true) true Tryz.f3.params.toList args.toList ds p := hA0
 rw [Tryz.params3] at hA hval
 have hAA := hA
 obtain ⟨v0, vs0, d0, ds0, p0, q0, hargs, rfl, rfl, h0, r0⟩ := trodAll_cons hA
 obtain ⟨v1, vs1, d1, ds1, p1, q1, rfl, rfl, rfl, h1, r1⟩ := trodAll_cons r0
 obtain ⟨rfl, rfl, rfl⟩ := trodAll_nil r1
 obtain rfl : args = #[v0, v1] := by cases args; simp_all
 obtain ⟨rfl, rfl⟩ := trodVars_none hV
 obtain ⟨n, rfl, rfl, rfl, hwn⟩ := open_int Tryz.underlying5 (hval 0 5 v0 rfl rfl) h0
 clear hA0
 obtain ⟨ct, rfl, hct⟩ := okWide_struct Tryz.underlying26 (hval 1 26 v1 rfl rfl)
 rw [cellsTree] at hct
 obtain ⟨fuel, hf⟩ := h1
 obtain ⟨t, hti, hbulk⟩ := open_tree fuel _ _ hf
 have ht : TreeI W (from' ct 0) t := hti.congr (fun j hj => by simp [from', Value.cells, Array.getD, List.getD, hct, hj])
 have hn : 0 <= n /\ n <= 255 := by
  simp [Lit.wf, IntKind.min, IntKind.max, IntKind.signed, IntKind.bits] at hwn
  omega
 have hlen : ∀ ver fl, (partW Zg ver fl t).length <= 4294967295 := fun ver fl => upto_len (by decide) ht.ok (by have h3 : t.bulk <= Rows.uptoBulk d1 := hbulk; have h2 := of_decide_eq_true hk; simp only [List.append_nil, Rows.uptoBulkAll] at h2; omega)
 refine (law_ReadShareGroupStateResponse hn hct ht hlen).mono fun e W' ⟨he, hm⟩ => ?_
 subst he
 refine ⟨_, rfl, post_of_below' (pv := []) hW' (fun _ _ _ => trodAll_cons_mk (shut_bool Tryz.underlying4 _) trodAll_mk0) (fun sp hsp => ?_) (fun _ _ => rfl) rfl hm.below
  (ok_one (by kernel_rfl) rfl (okWide_bool_mk Tryz.underlying4 _))⟩
 rw [Tryz.params3]
 refine carryAll (DataW.TrodAll.respare (kids_rows (by kernel_rfl) (by kernel_rfl)) rowsFull (by decide +kernel) hAA (fun x hx => hsp x (by simpa using hx))) (fun x hx => hm.below.same (hlt x (by simpa using hx)))
abbrev wArgs : Array Value := #[.int .u8 0, .agg #[.int .i64 0, .slice none 0 0, .bool false, .slice none 0 0, .slice none 0 0]]
set_option maxRecDepth 100000 in
theorem lifted (os : Os) (started : os.Started) (H : Type) (enc : TypeId × Value -> H) (F : Stop.Interp) :
  ReturnsInHanded {} Tryz.checked os 3 .any ((Rows.OpenSpec.upto Rows.fnMakeReadShareGroupStateResponseSpec).pre6 enc Tryz.prog Tryz.f3 Rows.fnMakeReadShareGroupStateResponseUptoRow.domain false) (((Rows.OpenSpec.upto Rows.fnMakeReadShareGroupStateResponseSpec).at F).post enc Tryz.prog Tryz.f3 false true false false) := by
 refine returnsInHanded_of_cond (C := Tryz.checked) (s := Rows.OpenSpec.upto Rows.fnMakeReadShareGroupStateResponseSpec) (k := Rows.uptoSmall) rfl own started (by kernel_rfl) Tryz.func3
  (OpenSpec.witness (enc := enc) (C := Tryz.checked) (s := Rows.OpenSpec.upto Rows.fnMakeReadShareGroupStateResponseSpec) (k := Rows.uptoSmall) rfl false ⟨#[], wArgs, []⟩ 8 (by kernel_rfl) (by kernel_rfl) (by kernel_rfl)
   (x := ([.lit (.int .u8 0), .agg [.lit (.int .i64 0), .nil, .lit (.bool false), .nil, .nil]], [], [])) (by kernel_rfl) rfl (by kernel_rfl)) ?_
 intro W base args ds gs before hval hW _ hk _
 exact contract H enc W base args ds gs before hval hW hk
set_option maxRecDepth 100000 in
theorem clo : Program.closure Tryz.prog 3 = [3, 5, 17, 36, 6, 18, 37, 19, 7, 20, 38, 73, 8, 12, 25, 24, 54, 27, 55, 26, 56, 11, 10, 21, 22, 39, 40, 74, 75, 89, 90, 41, 23, 42, 51, 78, 91, 43, 45, 76, 44, 46, 72, 47, 65, 48, 66, 49, 77, 50, 52, 53, 80, 79, 93, 92, 97, 98, 99, 100, 111, 101, 112, 113, 120, 114, 121, 122, 115, 123, 124, 125, 116, 117, 118, 119, 13, 28, 57, 58, 81, 60, 83, 82, 84, 59, 9] := by kernel_rfl
set_option maxRecDepth 100000 in
theorem eP : Program.inPlace Tryz.prog 3 = ["internal/reflectlite.ValueOf", "internal/reflectlite.Swapper", "(internal/reflectlite.Value).Len"] := by unfold Program.inPlace; rw [clo]; kernel_rfl
set_option maxRecDepth 100000 in
theorem eU : Program.unfollowed Tryz.prog 3 = true := by unfold Program.unfollowed; rw [clo]; kernel_rfl
theorem eR : Program.recurses Tryz.prog 3 = true := by unfold Program.recurses; rw [eU]; rfl
set_option maxRecDepth 100000 in
theorem eV : Program.varsNamed Tryz.prog 3 = [] := by unfold Program.varsNamed; rw [clo]; kernel_rfl
set_option maxRecDepth 100000 in
theorem facts : joinedFacts Tryz.prog 3 Tryz.f3 (Rows.OpenSpec.upto Rows.fnMakeReadShareGroupStateResponseSpec).bare Rows.fnMakeReadShareGroupStateResponseUptoRow = true := by
 unfold joinedFacts
 rw [eP, eU, eR, eV]
 kernel_rfl
theorem said : Rows.FnMakeReadShareGroupStateResponseUptoSaid :=
 OpenClaim.holds_of_cond 3 Tryz.f3 rfl rfl rfl rfl rfl rfl rfl ⟨rfl, rfl, rfl, rfl, rfl⟩ rfl rfl rfl rfl rfl (by kernel_rfl) Tryz.func3 facts
  (of_decide_eq_true (by kernel_rfl)) (by unfold Func.isWrapper; first | (rw [if_pos (by decide +kernel)]; kernel_rfl) | (rw [if_neg (by decide +kernel)]; exact ⟨rfl, rfl⟩))
  (fun os started H enc _ F => lifted os started H enc F)
end Go.Proofs.YtmehfgiadapekaaGreat.CReadShareGroupStateResponse
