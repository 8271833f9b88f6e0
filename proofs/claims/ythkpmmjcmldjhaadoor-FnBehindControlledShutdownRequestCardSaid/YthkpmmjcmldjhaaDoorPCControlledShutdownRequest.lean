/-
  FnBehindControlledShutdownRequest: the walk through the law.
  FnBehindControlledShutdownRequest: the row and its card.
-/
import Derived.Test.YthkpmmjcmldjhaaDoorCards
import Derived.Test.YthkpmmjcmldjhaaDoorTie
import Derived.WalkKit
import Derived.ProofKit
import Derived.OpenShut
import Derived.Below
import Derived.ChangeSame
import Derived.ChangeSlices
import Derived.Stop.LaidErr
import Derived.Deep.DeepHandedRow
import Derived.Deep.DeepWitnessRowRef
import Derived.ReadAgain
import Derived.Test.YthkpmmjcmldjhaaDoorPDControlledShutdownRequest
import Derived.Test.YthkpmmjcmldjhaaDoorPWr
set_option linter.unusedSimpArgs false
set_option linter.unusedVariables false
namespace Go.Proofs.YthkpmmjcmldjhaaDoor
open Go Go.RowKit
theorem max_ControlledShutdownRequest (w : World) : Calls Tryd.prog 6 #[] w fun e w' => e = .returned (.int .i64 (3 : Int)) /\ Mod none' w w' := by
 refine calls_of_wp Tryd.func6 rfl ?_
 refine wp_act (fun a : Act => a.tmps.size = 4 /\ a.defers = []) ⟨rfl, rfl⟩ ?_
 rintro a ⟨aN, ad⟩
 refine wp_seq (wp_region_lit (Zv rfl Zi (wpList_nil ?_)))
 refine wp_seq (wp_region_lit (wpl_call rfl (Zy (by kernel_rfl) rfl) (R := fun e w' => e = .returned (.pointer (some ⟨w.heap.size, 0, none⟩)) /\ Mod none' w w' /\ w.heap.size < w'.heap.size /\ Cur sControlledShutdownRequest none' w.heap.size 0 v_ControlledShutdownRequest w') (by simpa using new_ControlledShutdownRequest w) ?_))
 rintro e w1 ⟨rfl, m1, _, _⟩
 refine ⟨_, rfl, wpl_call rfl (Zy (by kernel_rfl) rfl) (R := fun e w' => e = .returned (.int .i16 3) /\ w1 = w') ?_ ?_⟩
 ·go_enter Tryd.func20, Tryd.ntmps20
  go_wp2
  go_ret
  exact ⟨rfl, rfl⟩
 rintro e w2 ⟨rfl, rfl⟩
 refine ⟨_, rfl, Zv rfl (x_convInt (n := 3) (k := .i16) (k' := .i64) (by kernel_rfl) (by kernel_rfl) ?_) (Zv rfl Zi (wpList_nil ?_))⟩
 ·simp (disch := first | omega | simp only [Zs]; omega) only [Zo, Ze, Zn, Zq]
 refine wp_act (c := .ret) (fun a : Act => Act.get a 0 = .int .i64 3 /\ a.defers = []) ⟨?_, ?_⟩ ?_
 ·simp (disch := first | omega | simp only [Zs]; omega) only [Zo, Ze, Zn, Zq]
  rfl
 ·simp only [Zd]; exact ad
 rintro a9 ⟨z0, zd⟩
 exact wp_ret (bodyPost_ret (results_tmp rfl _ _ _) zd ⟨congrArg Ending.returned z0, m1⟩)
set_option maxHeartbeats 4000000 in
set_option maxRecDepth 100000 in
theorem spec_ControlledShutdownRequest (w : World) : Calls Tryd.prog 7 #[] w fun e w' => ∃ v, e = .returned (.agg #[v, .int .i64 3]) /\ Mod none' w w' /\ FdsI w' v Zg := by
 go_enter Tryd.func7, Tryd.ntmps7
 go_wp2
 obtain ⟨hA, hB⟩ := two_boxes (Mod.refl (S := none') ((w.alloc (.cells #[.slice (some ⟨w.heap.size + 1, 0, none⟩) 2 2, .int .i64 3] 31)).alloc (.cells #[.int .i64 3, .int .i64 0, .int .i64 (-1), .int .i64 (-1), .int .i64 (-1), .int .i64 0, .int .i64 0, .slice none 0 0, .int .i64 4, .int .i64 2, .int .i64 (-1), .int .i64 (-1), .int .i64 (-1), .int .i64 (-1), .int .i64 0, .slice none 0 0] 54)))
 exact bodyPost_ret (results_cellN rfl (b := w.heap.size) (o := 0) (cs := [.slice (some ⟨w.heap.size + 1, 0, none⟩) 2 2, .int .i64 3]) rfl (by kernel_rfl) (fun j u hu => by rw [Zc hA, Nat.zero_add]; simpa using hu)) rfl
  ⟨_, rfl, ((Mod.refl w).alloc _).alloc _, FdsI.of (fs := Zg) [.slice none 0 0, .slice none 0 0] hB rfl (by decide) rfl ⟨FdsI.none' _, FdsI.none' _, trivial⟩⟩
theorem head_ControlledShutdownRequest {f : FD} {r fs : List FD} {ver : Int} {fl : Bool} {t : Tr} (hf : fs = f :: r) (h : (decide (f.tag < 0) && f.has ver) = true) (hk : (leafK f.kind || decide (f.kind = 11)) = true) : 1 <= (fieldsW fs 0 ver fl t).length := by
 subst hf
 simp only [fieldsW, List.length_append]
 rw [if_pos h]
 have := fieldW_pos (f := f) (ver := ver) (fl := fl) (t := t.L.getD 0 .zero) hk
 omega
set_option maxHeartbeats 1000000 in
set_option maxRecDepth 20000 in
theorem law_ControlledShutdownRequest {w : World} {n : Int} {ct : Array Value} {t : Tr} {ev dstv : Value} {ds : List UInt8} (hn : 0 <= n /\ n <= 255) (hE : ErrIs w ev) (hev : ∃ tx vx, ev = .iface tx vx) (hds : OctI w dstv ds) (hct : ct.size = 5) (ht : TreeI w (from' ct 0) t) (hlen : ∀ ver fl, (partW Zg ver fl t).length + 1000 <= 4294967295) :
    Calls Tryd.prog 3 #[.int .u8 n, dstv, .agg ct] w fun e w' => e = .returned (.bool true) /\ Mod none' w w' := by
  obtain ⟨ft, hd1, hwr⟩ := doors_ControlledShutdownRequest
  obtain ⟨dao, dcap, hdv, _⟩ := hds.slice
  refine calls_of_wp Tryd.func3 rfl ?_
  show Code.wp _ _ _ { tmps := (#[.int .u8 n, dstv, .agg ct] : Array Value) ++ Array.replicate (52 - (#[.int .u8 n, dstv, .agg ct] : Array Value).size) undef, defers := [] } w
  refine wp_act (fun a : Act => Act.get a 0 = .int .u8 n /\ Act.get a 1 = dstv /\ Act.get a 2 = .agg ct /\ a.tmps.size = 52 /\ a.defers = []) ⟨?_, ?_, ?_, ?_, rfl⟩ ?_
  · rw [Zj _ _ _ (by simp)]; rfl
  · rw [Zj _ _ _ (by simp)]; rfl
  · rw [Zj _ _ _ (by simp)]; rfl
  · simp
  rintro a ⟨a0, a1, a2, aN, ad⟩
  refine wp_seq (wp_region_lit (Zv rfl x_box (Zv rfl Zi (wpList_nil ?_))))
  rw [show (a.eval (.tmp 2)).cells = ct from by rw [Ze, a2]; rfl]
  have b3 := Zh w (.cells ct 26)
  have m0 : Mod none' w (w.alloc (.cells ct 26)) := (Mod.refl w).alloc _
  generalize w.alloc (.cells ct 26) = w0 at *
  obtain ⟨x3, hx3⟩ : ∃ x, x = w.heap.size := ⟨_, rfl⟩
  rw [<- hx3] at b3 ⊢
  refine wp_act (fun a : Act => Act.get a 0 = .int .u8 n /\ Act.get a 1 = dstv /\ Act.get a 5 = .pointer (some ⟨x3, 0, none⟩) /\ a.tmps.size = 52 /\ a.defers = []) ⟨?_, ?_, ?_, ?_, ?_⟩ ?_
  · simp (disch := first | omega | simp only [Zs]; omega) only [Zo, Ze, Zn, Zq, a0]
  · simp (disch := first | omega | simp only [Zs]; omega) only [Zo, Ze, Zn, Zq, a1]
  · simp (disch := first | omega | simp only [Zs]; omega) only [Zo, Ze, Zn, Zq]
  · simp only [Zs]; exact aN
  · simp only [Zd]; exact ad
  clear a0 a1 a2 aN ad
  rintro a ⟨a0, a1, a5, aN, ad⟩
  -- how long what stands ahead is
  refine wp_seq (wp_seq (wp_region_lit (WL.out (wl_val rfl Zm (wl_val rfl (x_len (n := ds.length) (cap := dcap) (ao := dao) (by kernel_rfl) rfl ?_) (wl_val rfl (x_gtr (k := .i64) (m := (ds.length : Nat)) (n := 2147483647) ?_ rfl) (wl_val rfl Zm ?_)))))))
  · simp (disch := first | omega | simp only [Zs]; omega) only [Zo, Ze, Zn, Zq, a1]
    exact hdv
  · simp (disch := first | omega | simp only [Zs]; omega) only [Zo, Ze, Zn, Zq]
  refine wl_act (fun b : Act => Act.get b 0 = .int .u8 n /\ Act.get b 1 = dstv /\ Act.get b 5 = .pointer (some ⟨x3, 0, none⟩) /\ Act.get b 16 = .bool (decide ((2147483647 : Int) < (ds.length : Nat))) /\ b.tmps.size = 52 /\ b.defers = []) ⟨?_, ?_, ?_, ?_, ?_, ?_⟩ ?_
  · simp (disch := first | omega | simp only [Zs]; omega) only [Zo, Ze, Zn, Zq, a0]
  · simp (disch := first | omega | simp only [Zs]; omega) only [Zo, Ze, Zn, Zq, a1]
  · simp (disch := first | omega | simp only [Zs]; omega) only [Zo, Ze, Zn, Zq, a5]
  · simp (disch := first | omega | simp only [Zs]; omega) only [Zo, Ze, Zn, Zq]
  · simp only [Zs]; exact aN
  · simp only [Zd]; exact ad
  clear a0 a1 a5 aN ad a
  rintro a ⟨a0, a1, a5, a16, aN, ad⟩
  by_cases hbig : (2147483647 : Int) < (ds.length : Nat)
  · rw [decide_eq_true hbig] at a16
    refine ⟨wpl_unwanted ((wanted_of (k := 3) (d := 16) rfl (by kernel_rfl) a16).trans rfl) ?_⟩
    refine wpl_unwanted ((wanted_of (k := 3) (d := 16) rfl (by kernel_rfl) (by rw [Zn (by decide)]; exact a16)).trans rfl) ?_
    refine wpl_unwanted ((wanted_of (k := 3) (d := 16) rfl (by kernel_rfl) (by rw [Zn (by decide), Zn (by decide)]; exact a16)).trans rfl) ?_
    refine Zv rfl (x_pickT (v := .bool true) ?_ rfl) (wpList_nil ?_)
    · rw [Ze, Zn (by decide), Zn (by decide), Zn (by decide)]; exact a16
    refine wp_cond_true ?_ (wp_seq (wp_region_lit (Zv rfl Zi (wpList_nil (wp_ret ?_)))))
    · rw [Ze, Zq (by simp only [Zs]; omega)]
    simp only [Exit.then]
    refine bodyPost_ret (results_tmp rfl _ _ _) ?_ ⟨?_, m0⟩
    · simp only [Zd]; exact ad
    · rw [show ∀ (a : Act), a.tmps.getD 6 undef = Act.get a 6 from fun _ => rfl, Zq (by simp only [Zs]; omega)]
      rfl
  rw [decide_eq_false hbig] at a16
  refine wl_gval (k := 3) (d := 16) (b := false) rfl (by kernel_rfl) a16 (x_loadN (cs := ct.toList) (b := x3) (o := 0) (by rw [Array.length_toList, hct]; kernel_rfl) (by rw [Ze]; exact a5) ?_) ?_
  · intro j u hu
    rw [Zc b3, Nat.zero_add]; simpa using hu
  refine wl_gcall (k := 3) (d := 16) (b := false) rfl (by kernel_rfl) ?_ (Zy (by kernel_rfl) rfl) (R := SomeBool w0) ?_ ?_
  · simp (disch := first | omega | simp only [Zs]; omega) only [Zo, Ze, Zn, Zq, a16]
  · rw [show ∀ a : Act, (#[Operand.tmp 17] : Array Operand).map a.eval = #[Act.get a 17] from fun a => by simp [Ze]]
    simp (disch := first | omega | simp only [Zs]; omega) only [Zo, Ze, Zn, Zq, Array.toArray_toList]
    exact zz1_c hct (ht.mod m0)
  rintro e w1 ⟨b, rfl, m1⟩
  refine ⟨_, rfl, wl_gval (k := 3) (d := 16) (b := false) rfl (by kernel_rfl) ?_ (x_notV (b := b) (c := !b) ?_ rfl) (wl_val rfl (x_pickF (v := .bool (!b)) ?_ ?_) (wl_nil ?_))⟩
  · simp (disch := first | omega | simp only [Zs]; omega) only [Zo, Ze, Zn, Zq, a16]
  · simp (disch := first | omega | simp only [Zs]; omega) only [Zo, Ze, Zn, Zq]
  · simp (disch := first | omega | simp only [Zs]; omega) only [Zo, Ze, Zn, Zq, a16]
  · simp (disch := first | omega | simp only [Zs]; omega) only [Zo, Ze, Zn, Zq]
  cases b with
  | false =>
    refine wp_cond_true ?_ (wp_seq (wp_region_lit (Zv rfl Zi (wpList_nil (wp_ret ?_)))))
    · simp (disch := first | omega | simp only [Zs]; omega) only [Zo, Ze, Zn, Zq]
      rfl
    · simp only [Exit.then]
      refine bodyPost_ret (results_tmp rfl _ _ _) ?_ ⟨?_, m0.trans m1⟩
      · simp only [Zd]; exact ad
      · rw [show ∀ (a : Act), a.tmps.getD 6 undef = Act.get a 6 from fun _ => rfl]
        simp (disch := first | omega | simp only [Zs]; omega) only [Zo, Ze, Zn, Zq]
        rfl
  | true =>
  refine wp_cond_false ?_ (wp_skip ?_)
  · simp (disch := first | omega | simp only [Zs]; omega) only [Zo, Ze, Zn, Zq]
    rfl
  refine wp_act (fun b : Act => Act.get b 0 = .int .u8 n /\ Act.get b 1 = dstv /\ Act.get b 5 = .pointer (some ⟨x3, 0, none⟩) /\ b.tmps.size = 52 /\ b.defers = []) ⟨?_, ?_, ?_, ?_, ?_⟩ ?_
  · simp (disch := first | omega | simp only [Zs]; omega) only [Zo, Ze, Zn, Zq, a0]
  · simp (disch := first | omega | simp only [Zs]; omega) only [Zo, Ze, Zn, Zq, a1]
  · simp (disch := first | omega | simp only [Zs]; omega) only [Zo, Ze, Zn, Zq, a5]
  · simp only [Zs]; exact aN
  · simp only [Zd]; exact ad
  clear a0 a1 a5 a16 aN ad a
  rintro a ⟨a0, a1, a5, aN, ad⟩
  refine wp_seq (wp_region_lit (wpl_call rfl (Zy (by kernel_rfl) rfl) (R := fun e w' => e = .returned (.int .i64 (3 : Int)) /\ Mod none' w1 w') (by simpa using max_ControlledShutdownRequest w1) ?_))
  rintro e w2 ⟨rfl, m2⟩
  refine ⟨_, rfl, Zv rfl Zi (wpList_nil ?_)⟩
  refine wp_seq (wp_seq (wp_region_lit (Zv rfl Zm (Zv rfl (x_lss (k := .i64) (m := 3) (n := 0) ?_ rfl) (wpList_nil ?_)))))
  · simp (disch := first | omega | simp only [Zs]; omega) only [Zo, Ze, Zn, Zq]
  refine wp_cond_false ?_ (wp_skip ?_)
  · simp (disch := first | omega | simp only [Zs]; omega) only [Zo, Ze, Zn, Zq]
    rfl
  refine wp_act (fun a : Act => Act.get a 0 = .int .u8 n /\ Act.get a 1 = dstv /\ Act.get a 5 = .pointer (some ⟨x3, 0, none⟩) /\ Act.get a 7 = .int .i64 3 /\ a.tmps.size = 52 /\ a.defers = []) ⟨?_, ?_, ?_, ?_, ?_, ?_⟩ ?_
  · simp (disch := first | omega | simp only [Zs]; omega) only [Zo, Ze, Zn, Zq, a0]
  · simp (disch := first | omega | simp only [Zs]; omega) only [Zo, Ze, Zn, Zq, a1]
  · simp (disch := first | omega | simp only [Zs]; omega) only [Zo, Ze, Zn, Zq, a5]
  · simp (disch := first | omega | simp only [Zs]; omega) only [Zo, Ze, Zn, Zq]
  · simp only [Zs]; exact aN
  · simp only [Zd]; exact ad
  clear a0 a1 a5 aN ad a
  rintro a ⟨a0, a1, a5, a7, aN, ad⟩
  have hv : IntKind.i64.wrap ((3 : Int) + 1) ≠ 0 := by decide
  obtain ⟨k, hk⟩ : ∃ k, k = (IntKind.i64.wrap n).tmod (IntKind.i64.wrap ((3 : Int) + 1)) := ⟨_, rfl⟩
  have hver : ∀ w, Calls Tryd.prog 8 #[.int .u8 n, .int .i64 3] w fun e w' => e = .returned (.int .i64 k) /\ w = w' := fun w => by rw [hk]; exact version_spec hv w
  have hkr : 0 <= k /\ k <= 3 := by
    have e1 : IntKind.i64.wrap n = n := by rw [IntKind.wrap_i64]; omega
    have e2 : IntKind.i64.wrap ((3 : Int) + 1) = 3 + 1 := by decide
    rw [hk, e1, e2, Int.tmod_eq_emod_of_nonneg hn.1]
    omega
  clear hk
  have hk16 : IntKind.i16.wrap k = k := by
    simp only [IntKind.wrap, IntKind.bits, IntKind.signed]; simp; split <;> omega
  -- the fields
  refine wp_seq (wp_region_lit (wpl_call rfl (Zy (by kernel_rfl) rfl) (R := fun e w' => ∃ v, e = .returned (.agg #[v, .int .i64 3]) /\ Mod none' w2 w' /\ FdsI w' v Zg) (by simpa using spec_ControlledShutdownRequest w2) ?_))
  rintro e w3 ⟨v, rfl, m3, hfs⟩
  obtain ⟨fa, fcap, hfv⟩ := hfs.slice
  subst hfv
  refine ⟨_, rfl, Zv rfl Zm (Zv rfl Zm (wpl_call rfl (Zy (by kernel_rfl) rfl) (R := fun e w' => e = .returned (.int .i64 k) /\ w3 = w') ?_ ?_))⟩
  · rw [show ∀ a : Act, (#[Operand.tmp 25, Operand.tmp 26] : Array Operand).map a.eval = #[Act.get a 25, Act.get a 26] from fun a => by simp [Ze]]
    simp (disch := first | omega | simp only [Zs]; omega) only [Zo, Ze, Zn, Zq, a0, a7]
    exact hver w3
  rintro e w' ⟨rfl, rfl⟩
  refine ⟨_, rfl, Zv rfl (x_alloc zeroMsg) (wpl_skip rfl (x_storeN (cs := #[.slice fa Zg.length fcap, .int .i64 3]) (b := w3.heap.size) (o := 0) (by kernel_rfl) ?_ ?_ (by simp [Value.oneCell']) (there_new rfl)) (Zv rfl Zi (wpList_nil ?_)))⟩
  · simp (disch := first | omega | simp only [Zs]; omega) only [Zo, Ze, Zn, Zq]
  · simp (disch := first | omega | simp only [Zs]; omega) only [Zo, Ze, Zn, Zq]
  obtain ⟨b6, m4⟩ := store_new w3 31 (zc := (Value.agg #[.slice none 0 0, .int .i64 0]).cells) (cs := #[.slice fa Zg.length fcap, .int .i64 3]) rfl
  generalize (w3.alloc (.cells (Value.agg #[.slice none 0 0, .int .i64 0]).cells 31)).setCells w3.heap.size 0 (#[Value.slice fa Zg.length fcap, .int .i64 3] : Array Value).toList = w4 at *
  obtain ⟨x6, hx6⟩ : ∃ x, x = w3.heap.size := ⟨_, rfl⟩
  rw [<- hx6] at b6 ⊢
  refine wp_act (fun a : Act => Act.get a 1 = dstv /\ Act.get a 5 = .pointer (some ⟨x3, 0, none⟩) /\ Act.get a 8 = .pointer (some ⟨x6, 0, none⟩) /\ Act.get a 9 = .int .i64 k /\ a.tmps.size = 52 /\ a.defers = []) ⟨?_, ?_, ?_, ?_, ?_, ?_⟩ ?_
  · simp (disch := first | omega | simp only [Zs]; omega) only [Zo, Ze, Zn, Zq, a1]
  · simp (disch := first | omega | simp only [Zs]; omega) only [Zo, Ze, Zn, Zq, a5]
  · simp (disch := first | omega | simp only [Zs]; omega) only [Zo, Ze, Zn, Zq]
  · simp (disch := first | omega | simp only [Zs]; omega) only [Zo, Ze, Zn, Zq]
  · simp only [Zs]; exact aN
  · simp only [Zd]; exact ad
  clear a0 a1 a5 a7 aN ad a
  rintro a ⟨a1, a5, a8, a9, aN, ad⟩
  have m04 := ((m1.trans m2).trans m3).trans m4
  have b3' := m04.some b3 (fun f => f)
  have ht4 := (ht.mod m0).mod m04
  have hfs4 := hfs.mod m4
  have hE4 := (hE.mod m0 (fun f => f)).mod m04 (fun f => f)
  have hds4 := (hds.mod m0).mod m04
  -- no more than a thousand octets
  refine wp_seq (wp_seq (wp_region_lit (Zv rfl Zm (Zv rfl (x_len (n := ds.length) (cap := dcap) (ao := dao) (by kernel_rfl) rfl ?_) (Zv rfl (x_gtr (k := .i64) (m := (ds.length : Nat)) (n := 1000) ?_ rfl) (wpList_nil ?_))))))
  · simp (disch := first | omega | simp only [Zs]; omega) only [Zo, Ze, Zn, Zq, a1]
    exact hdv
  · simp (disch := first | omega | simp only [Zs]; omega) only [Zo, Ze, Zn, Zq]
  by_cases h1000 : (1000 : Int) < (ds.length : Nat)
  · refine wp_cond_true ?_ (wp_seq (wp_region_lit (Zv rfl Zi (wpList_nil (wp_ret ?_)))))
    · simp (disch := first | omega | simp only [Zs]; omega) only [Zo, Ze, Zn, Zq]
      rw [decide_eq_true h1000]
    · simp only [Exit.then]
      refine bodyPost_ret (results_tmp rfl _ _ _) ?_ ⟨?_, m0.trans m04⟩
      · simp only [Zd]; exact ad
      · rw [show ∀ (a : Act), a.tmps.getD 6 undef = Act.get a 6 from fun _ => rfl]
        simp (disch := first | omega | simp only [Zs]; omega) only [Zo, Ze, Zn, Zq]
        rfl
  refine wp_cond_false ?_ (wp_skip ?_)
  · simp (disch := first | omega | simp only [Zs]; omega) only [Zo, Ze, Zn, Zq]
    rw [decide_eq_false h1000]
  refine wp_act (fun a : Act => Act.get a 1 = dstv /\ Act.get a 5 = .pointer (some ⟨x3, 0, none⟩) /\ Act.get a 8 = .pointer (some ⟨x6, 0, none⟩) /\ Act.get a 9 = .int .i64 k /\ a.tmps.size = 52 /\ a.defers = []) ⟨?_, ?_, ?_, ?_, ?_, ?_⟩ ?_
  · simp (disch := first | omega | simp only [Zs]; omega) only [Zo, Ze, Zn, Zq, a1]
  · simp (disch := first | omega | simp only [Zs]; omega) only [Zo, Ze, Zn, Zq, a5]
  · simp (disch := first | omega | simp only [Zs]; omega) only [Zo, Ze, Zn, Zq, a8]
  · simp (disch := first | omega | simp only [Zs]; omega) only [Zo, Ze, Zn, Zq, a9]
  · simp only [Zs]; exact aN
  · simp only [Zd]; exact ad
  clear a1 a5 a8 a9 aN ad a
  rintro a ⟨a1, a5, a8, a9, aN, ad⟩
  -- written
  refine wp_seq (wp_region_lit (Zv rfl (x_loadN (cs := [.slice fa Zg.length fcap, .int .i64 3]) (b := x6) (o := 0) (by kernel_rfl) ?_ ?_) (Zv rfl Zm (Zv rfl (x_loadN (cs := ct.toList) (b := x3) (o := 0) (by rw [Array.length_toList, hct]; kernel_rfl) ?_ ?_)
    (wpl_call rfl (Zy (by kernel_rfl) rfl) (R := fun e w' => ∃ v, e = .returned v /\ Mod none' w4 w' /\ OwnB w' w4.heap.size v (partW Zg k (flexW 3 k) t)) ?_ ?_)))))
  · simp (disch := first | omega | simp only [Zs]; omega) only [Zo, Ze, Zn, Zq, a8]
  · intro j u hu
    rw [Zc b6, Nat.zero_add]; simpa using hu
  · simp (disch := first | omega | simp only [Zs]; omega) only [Zo, Ze, Zn, Zq, a5]
  · intro j u hu
    rw [Zc b3', Nat.zero_add]; simpa using hu
  · rw [show ∀ a : Act, (#[Operand.tmp 31, Operand.tmp 32, Operand.tmp 33] : Array Operand).map a.eval = #[Act.get a 31, Act.get a 32, Act.get a 33] from fun a => by simp [Ze]]
    simp (disch := first | omega | simp only [Zs]; omega) only [Zo, Ze, Zn, Zq, a9, Array.toArray_toList]
    exact write_c (by decide) hfs4 hct ht4 (by have := hlen k (flexW 3 k); omega)
  rintro e w5 ⟨bv, rfl, m5, hown⟩
  obtain ⟨bs, hbs⟩ : ∃ bs, bs = partW Zg k (flexW 3 k) t := ⟨_, rfl⟩
  have hlb : bs.length + 1000 <= 4294967295 := hbs ▸ hlen _ _
  have hflx : Zf k = flexW 3 k := by
    simp only [Zf, flexW]
    first | rfl | (rw [Bool.eq_iff_iff]; simp)
  have hpos : 1 <= bs.length := by
    rw [hbs, partW, List.length_append]
    first
      | (have := fieldsW_pos (fl := flexW 3 k) (t := t) hkr.1 Zg 0 (by decide); omega)
      | (cases hfx : flexW 3 k with
         | true =>
           have := uvE_pos (unkW t.U).length
           simp only [if_true, tagsW, List.length_append]; omega
         | false =>
           have hk6 : k < 3 := by simp only [flexW] at hfx; simp at hfx; omega
           refine Nat.le_trans (head_ControlledShutdownRequest (fs := Zg) (fl := false) (t := t) rfl ?_ ?_) (Nat.le_add_right _ _)
           · simp [FD.tag, FD.has, FD.from_, FD.to]; exact ⟨decide_eq_true (by omega), decide_eq_true (by omega)⟩
           · decide)
  have hne : bs.isEmpty = false := by cases bs <;> simp at hpos ⊢
  obtain ⟨xs, hread, htold⟩ := hwr k (flexW 3 k) t [] ⟨hkr.1, hkr.2, hflx.symm⟩ ht.ok
  rw [List.append_nil, <- hbs] at hread
  have henc : encP Zg k (flexW 3 k) (xs, if flexW 3 k = true then cutW (unkW t.U) else []) = bs := by
    rw [hbs]
    exact encP_eq (by decide) ht.ok (saids_of_told _ _ _ _ _ _ htold) (fun h => by simp [h])
  have hbsI : OctI w5 bv bs := by obtain ⟨nl, _, h⟩ := (hbs ▸ hown).oct; exact OctI.of_oct h
  have hds5 : Srcs w5 dstv ds := by
    rcases hds4.mod m5 with h | ⟨sb, off, cap, c, tc, fr, q1, q2, q3, q4, q5⟩
    · exact .inl h
    · exact .inr ⟨sb, off, cap, c, tc, fr, q1, q4, q5⟩
  have hd := hd1 k bv dstv bs ds ev w5 (.num k :: xs, if flexW 3 k = true then cutW (unkW t.U) else []) ⟨[], false, false⟩ (hE4.mod m5 (fun f => f)) hev (hbs ▸ hown.srcs) hds5 (hds4.mod m5) (by omega) (by rw [hk16, hflx, hne]; exact hread) rfl (by rw [hk16]; rfl)
    (by rw [hk16]; exact ⟨hkr.1, hkr.2, rfl⟩) (by rw [hk16, hflx]; show ds.length + (encP _ _ _ (xs, _)).length <= _; rw [henc]; omega)
  rw [hk16, hflx] at hd
  replace hd : Calls Tryd.prog 10 #[.int .i64 k, dstv, bv] w5 fun e w' => ∃ z, e = .returned (.tuple #[z, .bool true]) /\ Mod none' w5 w' /\ OwnB w' w5.heap.size z (ds ++ bs) := by rw [<- henc]; exact hd
  refine ⟨_, rfl, Zv rfl Zi (wpList_nil ?_)⟩
  refine wp_seq (wp_region_lit (Zv rfl Zm (Zv rfl Zm (Zv rfl Zm (wpl_call rfl (Zy (by kernel_rfl) rfl) (R := fun e w' => ∃ z, e = .returned (.tuple #[z, .bool true]) /\ Mod none' w5 w' /\ OwnB w' w5.heap.size z (ds ++ bs)) ?_ ?_)))))
  · rw [show ∀ a : Act, (#[Operand.tmp 36, Operand.tmp 37, Operand.tmp 38] : Array Operand).map a.eval = #[Act.get a 36, Act.get a 37, Act.get a 38] from fun a => by simp [Ze]]
    simp (disch := first | omega | simp only [Zs]; omega) only [Zo, Ze, Zn, Zq, a9, a1]
    exact hd
  rintro e w6 ⟨z, rfl, m6, o6⟩
  refine ⟨_, rfl, Zv rfl Zm (Zv rfl (x_extract (vs := #[z, .bool true]) (i := 0) (v := z) ?_ rfl) (Zv rfl (x_extract (vs := #[z, .bool true]) (i := 1) (v := .bool true) ?_ rfl) (Zv rfl Zi (Zv rfl Zi (wpList_nil ?_)))))⟩
  · simp (disch := first | omega | simp only [Zs]; omega) only [Zo, Ze, Zn, Zq]
  · simp (disch := first | omega | simp only [Zs]; omega) only [Zo, Ze, Zn, Zq]
  refine wp_act (fun a : Act => Act.get a 1 = dstv /\ Act.get a 10 = bv /\ Act.get a 11 = z /\ Act.get a 12 = .bool true /\ a.tmps.size = 52 /\ a.defers = []) ⟨?_, ?_, ?_, ?_, ?_, ?_⟩ ?_
  · simp (disch := first | omega | simp only [Zs]; omega) only [Zo, Ze, Zn, Zq, a1]
  · simp (disch := first | omega | simp only [Zs]; omega) only [Zo, Ze, Zn, Zq]
  · simp (disch := first | omega | simp only [Zs]; omega) only [Zo, Ze, Zn, Zq]
  · simp (disch := first | omega | simp only [Zs]; omega) only [Zo, Ze, Zn, Zq]
  · simp only [Zs]; exact aN
  · simp only [Zd]; exact ad
  clear a1 a5 a8 a9 aN ad a
  rintro a ⟨a1, a10, a11, a12, aN, ad⟩
  have hzI : OctI w6 z (ds ++ bs) := by obtain ⟨nl, _, h⟩ := o6.oct; exact OctI.of_oct h
  refine wp_seq (wp_mono (beh_last aN a12 a11 a1 a10 hzI ((hds4.mod m5).mod m6) (hbsI.mod m6) (by omega)) ?_)
  rintro e a' w7 ⟨rfl, m7, h6, hd6⟩
  exact wp_ret (bodyPost_ret (results_tmp rfl _ _ _) (hd6.trans ad) ⟨congrArg Ending.returned h6, (((m0.trans m04).trans m5).trans m6).trans m7⟩)
end Go.Proofs.YthkpmmjcmldjhaaDoor
set_option linter.unusedSimpArgs false
set_option linter.unusedVariables false
namespace Go.Proofs.YthkpmmjcmldjhaaDoor.CControlledShutdownRequest
open Go Go.ChangeShapes Go.WideShapes Go.ChangeAt Go.RowKit Go.Proofs.YthkpmmjcmldjhaaDoor
theorem goesBy_of {c : OpenClaim} {P : Program} {f : FuncId} (hs : c.start = .entering) (hn : P.funcNamed c.func = some f) (hg : P.goes f = false) : false = c.goesBy P := by
 simp [OpenClaim.goesBy, Program.goesAt, Program.goesFrom, hs, hn, hg]
section
variable {H : Type} {enc : TypeId × Value -> H} {P : Program}
theorem post_of_below' {f : Func} {s : ChangeSpec} {apart fresh handsOn again : Bool} {W W' : World} {args : Array Value} {v : Value} {ds gs : List (DataW H)} {before pa pv : List MemPlace}
  (hW : DataW.Whole enc P f.params.toList s.vars apart W args.toList ds gs before)
  (hres : ∀ (b : Nat) (sp : Nat -> Bool) (hd : Bool), DataW.TrodAll enc P W' b sp hd f.resultTypes.toList (v.resultList f.resultTypes.size) (s.fn H (ds ++ gs)).results [])
  (hargs : ∀ sp : Nat -> Bool, (∀ p ∈ before, sp p.block = true) -> DataW.TrodAll enc P W' 0 sp true f.params.toList args.toList (s.fn H (ds ++ gs)).args pa)
  (hvars : ∀ sp : Nat -> Bool, (∀ p ∈ before, sp p.block = true) -> DataW.TrodVars enc P W' sp s.vars (s.fn H (ds ++ gs)).vars pv)
  (hps : before = pa ++ pv) (hb : Below W.heap.size W W')
  (hok : ∀ (j : Nat) (t : TypeId) (r : Value), f.resultTypes[j]? = some t -> (v.resultList f.resultTypes.size)[j]? = some r -> Value.okWide P W' .any 0 t r) :
  s.post enc P f apart fresh handsOn again W args v W' := by
 have hlt : ∀ p ∈ before, p.block < W.heap.size := fun p hp => hW.lt p hp
 have hold : ∀ p ∈ before, (fun b => decide (b < W.heap.size)) p.block = true := fun p hp => by simpa using hlt p hp
 refine ⟨ds, gs, before, [], pa, pv, hW, hres _ _ _, hargs _ hold, hvars _ hold, World.keptBut_mono (fun p hp => ⟨hp, ?_⟩) (hb.frame (· ∈ before)), fun _ => ?_⟩
 ·rw [hps, List.mem_append] at hp
  exact Or.inr hp
 ·obtain ⟨_, _, _, _, _, hz, hn⟩ := hW
  refine ⟨hok, _, _, ([] ++ pa) ++ pv, ⟨[] ++ pa, pv, trodAll_append (hargs _ (fun _ _ => rfl)) (hres _ _ _), hvars _ (fun _ _ => rfl), rfl, ?_, ?_⟩, ?_⟩
  ·intro b off hp
   have hin : MemPlace.cell b off ∈ before := by rw [hps]; simpa using hp
   rw [hb.frozen (hlt _ hin)]
   exact hz b off hin
  ·intro ha
   have := hn ha
   rw [hps] at this
   simpa using this
  ·intro p hp _
   rw [hps]
   simpa using hp
end
theorem own : ownKnob Tryd.prog.godebug = none := by kernel_rfl
theorem gErrName : Tryd.prog.globalNamed "pub-mailsack/pub/kmsg/inner/kbin.ErrNotEnoughData" = some gErr := by kernel_rfl
theorem gErrType : (Tryd.prog.globals[gErr]?).map (·.type) = some 58 := by kernel_rfl
theorem star : "*" ++ "errors.errorString" = "*errors.errorString" := by decide
theorem rowOf (u : TypeId) (h : Tryd.prog.typeName? 3 u = some "*errors.errorString") : u = 156 :=
 typeName_ptr_named (nm := "errors.errorString") (by rw [star]; kernel_rfl) (by kernel_rfl) (by decide) u (by rw [star]; exact h)
theorem cellsE : Tryd.prog.cellsOf 174 = 1 := by kernel_rfl
theorem cellsS : Tryd.prog.cellsOf 9 = 1 := by kernel_rfl
/-- what the row's list gives -/
theorem errOf {W : World} (h : laidMetH Tryd.prog Rows.fnBehindControlledShutdownRequestRow.laid W) : ∃ ev, ErrIs W ev /\ ∃ tx vx, ev = .iface tx vx := by
 obtain ⟨a0, s0, hv0, -, -, -⟩ := laid_sentinel (show laidMet Tryd.prog Rows.fnBehindControlledShutdownRequestRow.laid W from h) gErrName gErrType Tryd.underlying58 rowOf Tryd.underlying156 Tryd.underlying174 rfl rfl Tryd.underlying9 cellsE cellsS
 exact ⟨_, by have h0 := World.var?_cell gErrName hv0 0; unfold ErrIs; simpa using h0, _, _, rfl⟩
theorem rowsFull : ∀ t e, t < Tryd.prog.types.size -> Tryd.prog.underlying t = some (.slice e) -> 0 < Tryd.prog.cellsOf e := slices_full_of Tryd.prog (by kernel_rfl)
theorem carryAll {H : Type} {enc : TypeId × Value -> H} {P : Program} {w w' : World} {base : Nat} {spare : Nat -> Bool} {held : Bool} : ∀ {ts : List TypeId} {vs : List Value} {ds : List (DataW H)} {ps : List MemPlace}, DataW.TrodAll enc P w base spare held ts vs ds ps -> (∀ p ∈ ps, w.sameAt w' p) -> DataW.TrodAll enc P w' base spare held ts vs ds ps
 | [], [], [], _, h, _ => h
 | _ :: _, _ :: _, _ :: _, _, ⟨p, q, ⟨n, h1⟩, h2, e⟩, hs => ⟨p, q, ⟨n, DataW.trod_carry n _ _ _ h1 (fun x hx => hs x (by rw [e]; exact List.mem_append_left _ hx))⟩, carryAll h2 (fun x hx => hs x (by rw [e]; exact List.mem_append_right _ hx)), e⟩
set_option maxRecDepth 100000 in
theorem contract (H : Type) (enc : TypeId × Value -> H) (W : World) (base : Nat) (args : Array Value) (ds gs : List (DataW H)) (before : List MemPlace)
  (hval : ∀ (j : Nat) t v, Tryd.f3.params[j]? = some t -> args[j]? = some v -> Value.okWide Tryd.prog W .any base t v)
  (hW : DataW.Whole enc Tryd.prog Tryd.f3.params.toList Rows.fnBehindControlledShutdownRequestSpec.vars false W args.toList ds gs before) (hL : laidMetH Tryd.prog Rows.fnBehindControlledShutdownRequestRow.laid W)
  (hk : ∀ k, (OpenSpec.ofChange Rows.fnBehindControlledShutdownRequestSpec).cond = some k -> k H (ds ++ gs) = true) :
  Calls Tryd.prog 3 args W fun e W' => ∃ v, e = .returned v /\ Rows.fnBehindControlledShutdownRequestSpec.post enc Tryd.prog Tryd.f3 false true false false W args v W' := by
 have hW' := hW
 have hlt : ∀ p ∈ before, p.block < W.heap.size := fun p hp => hW.lt p hp
 obtain ⟨p, q, hA0, hV, rfl, hfz, hnd⟩ := hW
 have hA : DataW.TrodAll enc Tryd.prog W 0 (fun _ => true) true Tryd.f3.params.toList args.toList ds p := hA0
 rw [Tryd.params3] at hA hval
 have hAA := hA
 obtain ⟨v0, vs0, d0, ds0, p0, q0, hargs, rfl, rfl, h0, r0⟩ := trodAll_cons hA
 obtain ⟨v1, vs1, d1, ds1, p1, q1, rfl, rfl, rfl, h1, r1⟩ := trodAll_cons r0
 obtain ⟨v2, vs2, d2, ds2, p2, q2, rfl, rfl, rfl, h2, r2⟩ := trodAll_cons r1
 obtain ⟨rfl, rfl, rfl⟩ := trodAll_nil r2
 obtain rfl : args = #[v0, v1, v2] := by cases args; simp_all
 obtain ⟨rfl, rfl⟩ := trodVars_none hV
 obtain ⟨n, rfl, rfl, rfl, hwn⟩ := open_int Tryd.underlying5 (hval 0 5 v0 rfl rfl) h0
 clear hA0
 obtain ⟨ev, hE, hev⟩ := errOf hL
 obtain ⟨ct, rfl, hct⟩ := okWide_struct Tryd.underlying26 (hval 2 26 v2 rfl rfl)
 rw [cellsTree] at hct
 obtain ⟨fuel1, hf1⟩ := h1
 obtain ⟨dstv, dsb, hdv, hds, _⟩ := open_octs hf1
 obtain ⟨a1, len1, cap1, hsl⟩ := okWide_slice Tryd.underlying22 (hval 1 22 v1 rfl rfl)
 have hv1 : v1 = dstv := by
  rw [hsl] at hdv ⊢
  simpa [Value.cells] using hdv
 subst hv1
 obtain ⟨fuel, hf⟩ := h2
 obtain ⟨t, hti, hbulk⟩ := open_tree fuel _ _ hf
 have ht : TreeI W (from' ct 0) t := hti.congr (fun j hj => by simp [from', Value.cells, Array.getD, List.getD, hct, hj])
 have hn : 0 <= n /\ n <= 255 := by
  simp [Lit.wf, IntKind.min, IntKind.max, IntKind.signed, IntKind.bits] at hwn
  omega
 have hlen : ∀ ver fl, (partW Zg ver fl t).length + 1000 <= 4294967295 := fun ver fl => (by have h1 := leafs_len1 (ver := ver) (fl := fl) (fs := Zg) (t := t) (by decide) (by decide) ht.ok; omega)
 refine (law_ControlledShutdownRequest hn hE hev hds hct ht hlen).mono fun e W' ⟨he, hm⟩ => ?_
 subst he
 refine ⟨_, rfl, post_of_below' (pv := []) hW' (fun _ _ _ => trodAll_cons_mk (shut_bool Tryd.underlying4 _) trodAll_mk0) (fun sp hsp => ?_) (fun _ _ => rfl) rfl hm.below
  (ok_one (by kernel_rfl) rfl (okWide_bool_mk Tryd.underlying4 _))⟩
 rw [Tryd.params3]
 refine carryAll (DataW.TrodAll.respare (kids_rows (by kernel_rfl) (by kernel_rfl)) rowsFull (by decide +kernel) hAA (fun x hx => hsp x (by simpa using hx))) (fun x hx => hm.below.same (hlt x (by simpa using hx)))
abbrev errText : ByteArray := { data := #[114, 101, 115, 112, 111, 110, 115, 101, 32, 100, 105, 100, 32, 110, 111, 116, 32, 99, 111, 110, 116, 97, 105, 110, 32, 101, 110, 111, 117, 103, 104, 32, 100, 97, 116, 97, 32, 116, 111, 32, 98, 101, 32, 118, 97, 108, 105, 100] }
noncomputable def lowB : Nat := (World.holding Tryd.prog default ⟨#[], #[], []⟩).heap.size
noncomputable def laidWorld (os : Os) : World :=
 let w0 := World.holding Tryd.prog os ⟨#[.cells #[.string errText] 174], #[], []⟩
 { w0 with heap := w0.heap.modify gErr fun
   | .cells _ t frozen => .cells #[.iface 156 (.pointer (some ⟨lowB, 0, none⟩))] t frozen
   | o => o }
abbrev wArgs : Array Value := #[.int .u8 0, .slice none 0 0, .agg #[.int .i64 0, .slice none 0 0, .bool false, .slice none 0 0, .slice none 0 0]]
theorem laid_met (os : Os) : laidMet Tryd.prog Rows.fnBehindControlledShutdownRequestRow.laid ((laidWorld os).forCall (fun _ _ => 0) ⟨#[], wArgs, []⟩).memory :=
 laidMet_of_run' 8 (by kernel_rfl) (by kernel_rfl)
theorem reads (os : Os) {H : Type} (enc : TypeId × Value -> H) : ∃ places, DataW.whole enc Tryd.prog ((laidWorld os).forCall (fun _ _ => 0) ⟨#[], wArgs, []⟩).memory Tryd.f3.params.toList Rows.fnBehindControlledShutdownRequestSpec.vars false wArgs.toList 8 = some ([.lit (.int .u8 0), .nil, .agg [.lit (.int .i64 0), .nil, .lit (.bool false), .nil, .nil]], [], places) :=
 ⟨[], by kernel_rfl⟩
set_option maxRecDepth 100000 in
theorem lifted (os : Os) (started : os.Started) (H : Type) (enc : TypeId × Value -> H) (F : Stop.Interp) :
  ReturnsInHanded {} Tryd.checked os 3 .any ((OpenSpec.ofChange Rows.fnBehindControlledShutdownRequestSpec).preRow enc Tryd.prog Tryd.f3 Rows.fnBehindControlledShutdownRequestRow.domain false Rows.fnBehindControlledShutdownRequestRow.laid) (((OpenSpec.ofChange Rows.fnBehindControlledShutdownRequestSpec).at F).post enc Tryd.prog Tryd.f3 false true false false) := by
 obtain ⟨places, hx⟩ := reads os enc
 refine returnsInHanded_of_row (C := Tryd.checked) (s := OpenSpec.ofChange Rows.fnBehindControlledShutdownRequestSpec) own started (by kernel_rfl) Tryd.func3
  (witness_row_at (enc := enc) (C := Tryd.checked) false (laidWorld os) wArgs rfl (by kernel_rfl) (by kernel_rfl) (by kernel_rfl)
   (OpenSpec.preRow_of_cond 8 hx (by kernel_rfl) (fun k hk => by first | (cases hk; kernel_rfl) | cases hk) (by kernel_rfl) (laid_met os))) ?_
 intro W base args ds gs before hval hW _ hk _ hL _ _
 exact contract H enc W base args ds gs before hval hW hL hk
set_option maxRecDepth 100000 in
theorem clo : Program.closure Tryd.prog 3 = [3, 5, 18, 30, 6, 19, 31, 20, 7, 8, 9, 21, 32, 34, 33, 49, 50, 51, 37, 28, 52, 39, 53, 35, 36, 38, 11, 10, 22, 23, 40, 54, 67, 55, 68, 77, 56, 69, 78, 71, 70, 57, 24, 41, 58, 42, 59, 44, 43, 60, 72, 45, 62, 61, 74, 73, 79, 80, 81, 82, 93, 83, 94, 95, 102, 96, 103, 104, 97, 105, 106, 107, 98, 99, 100, 101] := by kernel_rfl
set_option maxRecDepth 100000 in
theorem eP : Program.inPlace Tryd.prog 3 = ["internal/reflectlite.ValueOf", "internal/reflectlite.Swapper", "(internal/reflectlite.Value).Len"] := by unfold Program.inPlace; rw [clo]; kernel_rfl
set_option maxRecDepth 100000 in
theorem eU : Program.unfollowed Tryd.prog 3 = true := by unfold Program.unfollowed; rw [clo]; kernel_rfl
theorem eR : Program.recurses Tryd.prog 3 = true := by unfold Program.recurses; rw [eU]; rfl
set_option maxRecDepth 100000 in
theorem eV : Program.varsNamed Tryd.prog 3 = ["encoding/binary.BigEndian", "pub-mailsack/pub/kmsg/inner/kbin.ErrNotEnoughData"] := by unfold Program.varsNamed; rw [clo]; kernel_rfl
set_option maxRecDepth 100000 in
theorem eG : Program.goes Tryd.prog 3 = false := by unfold Program.goes; rw [clo, eU]; kernel_rfl
set_option maxRecDepth 100000 in
theorem facts : joinedFacts Tryd.prog 3 Tryd.f3 (OpenSpec.ofChange Rows.fnBehindControlledShutdownRequestSpec).bare Rows.fnBehindControlledShutdownRequestRow = true := by
 unfold joinedFacts
 rw [eP, eU, eR, eV]
 kernel_rfl
theorem said : Rows.FnBehindControlledShutdownRequestSaid :=
 OpenClaim.holds_of_cond 3 Tryd.f3 rfl rfl rfl rfl rfl rfl rfl ⟨rfl, rfl, rfl, rfl, rfl⟩ rfl rfl rfl rfl rfl (by kernel_rfl) Tryd.func3 facts
  (of_decide_eq_true (by kernel_rfl)) (by unfold Func.isWrapper; first | (rw [if_pos (by decide +kernel)]; kernel_rfl) | (rw [if_neg (by decide +kernel)]; exact ⟨rfl, rfl⟩))
  (fun os started H enc _ F => by rw [OpenClaim.pre_eq_preRow]; exact lifted os started H enc F)
theorem plain (f : FuncId) (fn : Func) (hf : Tryd.pinned.checked.prog.funcNamed "pub-mailsack/laws.FnBehindControlledShutdownRequest" = some f) (hfn : Tryd.pinned.checked.prog.funcs[f]? = some fn) :
  false = Tryd.pinned.checked.prog.looks [] /\ ∀ (j : Nat) t, fn.params[j]? = some t -> Tryd.pinned.checked.prog.wantsStandIn t = false := by
 obtain rfl : f = 3 := Option.some.inj ((show Tryd.prog.funcNamed "pub-mailsack/laws.FnBehindControlledShutdownRequest" = some 3 by kernel_rfl).symm.trans hf) |>.symm
 obtain rfl : fn = Tryd.f3 := (Option.some.inj (Tryd.func3.symm.trans hfn)).symm
 refine ⟨by kernel_rfl, fun j t ht => ?_⟩
 rw [Tryd.params3] at ht
 have : t = 5 \/ t = 22 \/ t = 26 := by simpa using Array.mem_of_getElem? ht
 rcases this with rfl | rfl | rfl
 ·exact (show Tryd.prog.wantsStandIn 5 = false by kernel_rfl)
 ·exact (show Tryd.prog.wantsStandIn 22 = false by kernel_rfl)
 ·exact (show Tryd.prog.wantsStandIn 26 = false by kernel_rfl)
theorem card : Rows.FnBehindControlledShutdownRequestCardSaid :=
 Claim7.holds_tied_plain_at .later [] _ _ _ _ said (fun _ h => by cases h) (by kernel_rfl) (fun _ h => by cases h) fnBehindControlledShutdownRequest_row_tie rfl ⟨rfl, rfl⟩ (by kernel_rfl) rfl plain (goesBy_of (P := Tryd.prog) (f := 3) rfl (by kernel_rfl) eG)
end Go.Proofs.YthkpmmjcmldjhaaDoor.CControlledShutdownRequest
