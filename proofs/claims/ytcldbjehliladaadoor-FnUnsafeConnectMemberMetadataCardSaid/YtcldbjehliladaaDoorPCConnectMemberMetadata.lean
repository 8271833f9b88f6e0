/-
  ConnectMemberMetadata: how it is read.
  ConnectMemberMetadata: its doors.
  FnUnsafeConnectMemberMetadata: the walk through the law (a kept message).
  FnUnsafeConnectMemberMetadata: the row and its card.
-/
import Derived.Laws.IdiomCopy
import Derived.Test.YtcldbjehliladaaDoorCards
import Derived.Test.YtcldbjehliladaaDoorTie
import Derived.WalkKit
import Derived.ProofKit
import Derived.OpenShut
import Derived.Below
import Derived.ChangeSame
import Derived.ChangeSlices
import Derived.Stop.LaidErr
import Derived.Deep.DeepHandedRow
import Derived.Deep.DeepWitnessRowRef
import Derived.Test.YtcldbjehliladaaDoorPWh
import Derived.Test.YtcldbjehliladaaDoorPWr
import Derived.Test.YtcldbjehliladaaDoorPSaT
set_option linter.unusedSimpArgs false
set_option linter.unusedVariables false
namespace Go.Proofs.YtcldbjehliladaaDoor
open Go Go.RowKit
abbrev sConnectMemberMetadata : St := ⟨9, .cons 0 (.int .i16) (.cons 1 .str (.cons 2 (.int .i64) (.cons 3 .bytes .nil))), none, 4⟩
theorem d_sConnectMemberMetadata : DfC Tryd.prog 38 sConnectMemberMetadata (fun v => v) := by
 apply dfc_rule (N := 2) (hf := Tryd.func38) (hbody := rfl) (hN := rfl) (hres := rfl) (hN1 := by decide)
 exact dblk_skip
abbrev v_ConnectMemberMetadata : SV := (Lay.zeroL sConnectMemberMetadata.lay, ([] : Tags))
abbrev Zf : Int -> Bool := fun _ => false
abbrev Zg : List FD := [.mk 8 0 (-1) (-1) (-1) 0 0 [], .mk 4 0 (-1) (-1) (-1) 0 0 [], .mk 9 1 (-1) (-1) (-1) 0 0 []]
abbrev Zk : OkV := fun ver fl => 0 <= ver /\ ver <= 1 /\ fl = Zf ver
abbrev z_ConnectMemberMetadata : List Tr := [.oct [], .num 0, .octs [] true]
theorem ptail_ConnectMemberMetadata {ok : OkV} {gf : FT} {f : FD} {i j : Nat} {z : Tr} (h : Piece ok gf f i j z) : Piece ok (fun ver fl v s => (gf ver fl v s).then (idF ver fl)) f i j z := by
 have e : (fun ver fl v s => (gf ver fl v s).then (idF ver fl)) = gf := by funext ver fl v s; exact R.then_ok _
 rw [e]; exact h
theorem nsk_ConnectMemberMetadata {f : FT} {v1 : SV} {B : List Nat} (hf : Ns f [] B) : NsI f v1 := fun ver fl s => (hf ver fl _ s (fun j hj => by simp at hj)).1
set_option maxRecDepth 100000 in
theorem read_ConnectMemberMetadata : ∃ ft, ReadK Tryd.prog 39 sConnectMemberMetadata ft (fun v => v) /\ Chain Zk ft Zg 1 0 z_ConnectMemberMetadata /\ NsI ft v_ConnectMemberMetadata := by
 apply Exists.intro
 constructor
 ·apply read_kept (m := 13) (N := 47) (hf := Tryd.func39) (hN := rfl) (hres := rfl) (hR := rdT) (h16 := by kernel_rfl) (hver := by kernel_rfl) (hlay := rfl) (hsz := rfl) (htg := by rfl) (htg0 := by decide) (hs16 := by kernel_rfl) (hs := rfl) (hm := by decide) (hmN := by decide) (hbd := by kernel_rfl) (hd := d_sConnectMemberMetadata) (hbI := by kernel_rfl) (hI := fun _ _ _ _ h => rd_Int16 h) (hbody := rfl)
  apply whole_seq
  ·apply blk_seq
   ·apply blk_nop
    rfl
   ·apply blk_get (i := 1)
    ·apply get_uns
     ·apply get_call
      ·exact rc_UnsafeString
      ·kernel_rfl
      ·rfl
     ·apply get_call
      ·exact rc_String
      ·kernel_rfl
      ·rfl
     ·rfl
    ·apply blkV_put
     ·rfl
     ·rfl
     ·kernel_rfl
     ·kernel_rfl
     ·rfl
    ·rfl
   ·decide
  ·apply whole_seq
   ·apply blk_get (i := 2)
    ·apply get_call
     ·exact rc_Int64
     ·kernel_rfl
     ·rfl
    ·apply blkV_put
     ·rfl
     ·rfl
     ·kernel_rfl
     ·kernel_rfl
     ·rfl
    ·rfl
   ·apply whole_seq
    ·apply blk_if
     ·apply tst_geq
      rfl
     ·apply blk_get (i := 3)
      ·apply get_call
       ·exact rc_NullableBytes
       ·kernel_rfl
       ·rfl
      ·apply blkV_put
       ·rfl
       ·rfl
       ·kernel_rfl
       ·kernel_rfl
       ·rfl
      ·rfl
     ·exact blk_skip
     ·rfl
    ·apply whole_end
     ·exact rd_Complete
     ·kernel_rfl
     ·rfl
    ·rfl
   ·rfl
  ·rfl
 ·constructor
  ·refine Zb (z := .oct []) ?_ (by kernel_rfl) ?_
   ·repeat' (first | (with_reducible refine piece_nop ?_) | (with_reducible refine ptail_ConnectMemberMetadata ?_) | (with_reducible refine piece_if ?_ ?_; rotate_left; · (refine has_if (by decide) ?_; intro v l h; simp [Zk, Zf] at h ⊢ <;> omega)))
    refine piece_put ?_ (FD.alw (by decide) (by intro v l h; simp [Zk, Zf] at h ⊢ <;> omega))
    repeat' (first | (with_reducible exact rdw_text) | (with_reducible exact rdw_ntext) | (with_reducible refine rdw_stiff rdw_text ?_; intro v l h; cases l with | false => rfl | true => (exfalso; simp [Zk, Zf] at h <;> omega)) | (with_reducible refine rdw_stiff rdw_ntext ?_; intro v l h; cases l with | false => rfl | true => (exfalso; simp [Zk, Zf] at h <;> omega)) | (with_reducible refine rdw_when ?_ ?_))
   refine Zb (z := .num 0) ?_ (by kernel_rfl) ?_
   ·repeat' (first | (with_reducible refine piece_nop ?_) | (with_reducible refine ptail_ConnectMemberMetadata ?_) | (with_reducible refine piece_if ?_ ?_; rotate_left; · (refine has_if (by decide) ?_; intro v l h; simp [Zk, Zf] at h ⊢ <;> omega)))
    refine piece_put ?_ (FD.alw (by decide) (by intro v l h; simp [Zk, Zf] at h ⊢ <;> omega))
    repeat' (first | (with_reducible exact rdw_int64) | (with_reducible refine rdw_stiff rdw_int64 ?_; intro v l h; cases l with | false => rfl | true => (exfalso; simp [Zk, Zf] at h <;> omega)) | (with_reducible refine rdw_when ?_ ?_))
   first | refine chain_last (z := .octs [] true) ?_ (by kernel_rfl) (by intro v l h; cases l with | false => rfl | true => (exfalso; simp [Zk, Zf] at h <;> omega)) | refine Zb (z := .octs [] true) ?_ (by kernel_rfl) (chain_stiff (by intro v l h; cases l with | false => rfl | true => (exfalso; simp [Zk, Zf] at h <;> omega)))
   repeat' (first | (with_reducible refine piece_nop ?_) | (with_reducible refine ptail_ConnectMemberMetadata ?_) | (with_reducible refine piece_if ?_ ?_; rotate_left; · (refine has_if (by decide) ?_; intro v l h; simp [Zk, Zf] at h ⊢ <;> omega)))
   refine piece_put ?_ (FD.alw (by decide) (by intro v l h; simp [Zk, Zf] at h ⊢ <;> omega))
   repeat' (first | (with_reducible exact rdw_bytes) | (with_reducible exact rdw_nbytes) | (with_reducible refine rdw_stiff rdw_bytes ?_; intro v l h; cases l with | false => rfl | true => (exfalso; simp [Zk, Zf] at h <;> omega)) | (with_reducible refine rdw_stiff rdw_nbytes ?_; intro v l h; cases l with | false => rfl | true => (exfalso; simp [Zk, Zf] at h <;> omega)) | (with_reducible refine rdw_when ?_ ?_))
  ·apply nsk_ConnectMemberMetadata
   ·repeat' (first | (with_reducible (first | exact nse_ok | exact ns_tag | exact ns_id | exact ns_put | apply ns_skip | apply ns_list | apply ns_sub | apply ns_psub | apply nse_struct | apply ns_if | apply ns_then)) | rfl)
end Go.Proofs.YtcldbjehliladaaDoor
set_option linter.unusedSimpArgs false
set_option linter.unusedVariables false
namespace Go.Proofs.YtcldbjehliladaaDoor
open Go Go.RowKit
theorem dflt_ConnectMemberMetadata (w : World) (v : Value) : Calls Tryd.prog 38 #[v] w fun e w' => (∃ r, e = .returned r) /\ w = w' := by
 refine calls_of_wp Tryd.func38 rfl ?_
 refine wp_skip ?_
 exact ⟨rfl, .tuple #[], by simp [results, Tryd.f38], ⟨_, rfl⟩, rfl⟩
set_option maxRecDepth 100000 in
theorem new_ConnectMemberMetadata : NewK Tryd.prog 19 sConnectMemberMetadata v_ConnectMemberMetadata := by
 intro w
 go_enter Tryd.func19, Tryd.ntmps19
 go_wp2_with (go_at_call 38; refine (dflt_ConnectMemberMetadata _ _).mono ?_; rintro e w1 ⟨⟨r, rfl⟩, rfl⟩)
 obtain ⟨hA, hB⟩ := two_boxes (Mod.refl (S := none') ((w.alloc (.cells #[.int .i16 0, .string (str []), .int .i64 0, .slice none 0 0] 47)).alloc (.cells #[.int .i16 0, .string (str []), .int .i64 0, .slice none 0 0] 47)))
 refine bodyPost_ret (results_cellN rfl (b := w.heap.size) (o := 0) (cs := (#[.int .i16 0, .string (str []), .int .i64 0, .slice none 0 0] : Array Value).toList) rfl (by kernel_rfl) (fun j u hu => (Zc (i := 0 + j) hA).trans (by rw [Nat.zero_add]; simpa using hu))) rfl ⟨#[.int .i16 0, .string (str []), .int .i64 0, .slice none 0 0], rfl, ((Mod.refl w).alloc _).alloc _, rfl, by simp [Value.oneCell'], fun W b t h => ?_⟩
 have hz := zero_ok (lay := sConnectMemberMetadata.lay) (tg := sConnectMemberMetadata.tg) (z := from' #[.int .i16 0, .string (str []), .int .i64 0, .slice none 0 0] 0) (by repeat' (first | rfl | trivial | apply And.intro)) (by trivial) W none'
 exact ⟨⟨_, t, h, by decide, hz.1, hz.2⟩⟩
set_option maxRecDepth 100000 in
theorem tell_ConnectMemberMetadata : ∃ G, TellC Tryd.prog 21 sConnectMemberMetadata G /\ PresG (Zg) G 1 := by
 apply Exists.intro
 constructor
 ·apply tell_plain (N := 32) (n := 3) (hf := Tryd.func21) (hN := rfl) (hres := rfl) (hT := tellT) (hok := by rfl) (h4 := by decide) (hne := by decide) (hn := by decide) (hbody := rfl)
  apply twhole_seq
  ·apply tell_str (i := 1) (o := 1) (eb := 5) tellT
   ·kernel_rfl
   ·kernel_rfl
   ·kernel_rfl
   ·rfl
   ·rfl
   ·decide
  ·apply twhole_seq
   ·apply tell_num64 (i := 2) (o := 2) tellT
    ·kernel_rfl
    ·kernel_rfl
    ·rfl
    ·rfl
    ·decide
   ·apply twhole_seq
    ·apply tell_leaf (i := 3) (o := 3) tellT (leaf_octets tellT)
     ·kernel_rfl
     ·rfl
     ·kernel_rfl
     ·kernel_rfl
     ·rfl
     ·rfl
     ·decide
    ·exact twhole_end tellT rfl (by rfl)
 ·refine pres_leaf ?_
  refine pres_leaf ?_
  refine pres_leaf ?_
  exact pres_nil
theorem doors_ConnectMemberMetadata : ∃ ft G, DoorK Tryd.prog 6 (kRead ft v_ConnectMemberMetadata) G /\ DoorK Tryd.prog 9 (kRead ft v_ConnectMemberMetadata) G /\ Chain Zk ft Zg 1 0 z_ConnectMemberMetadata /\ NsI ft v_ConnectMemberMetadata := by
 obtain ⟨ft, hr, hw, hns⟩ := read_ConnectMemberMetadata
 obtain ⟨G, hG, hP⟩ := tell_ConnectMemberMetadata
 refine ⟨ft, G, ?_, ?_, hw, hns⟩
 ·exact door_kept (K := fun v => kRead ft v) (v1 := v_ConnectMemberMetadata) (hf := Tryd.func6) (hN := rfl) (hres := rfl) (hT := tellT) (hbody := rfl) (hb1 := by kernel_rfl) (hb3 := by kernel_rfl) (hb4 := by kernel_rfl) (hi := by kernel_rfl) (h16 := by kernel_rfl) (h16l := by kernel_rfl) (h64s := by kernel_rfl) (eb := 5) (hby := by kernel_rfl) (hE := by kernel_rfl) (hver := by kernel_rfl) (hverI := by kernel_rfl) (hlay := rfl) (hX := ⟨.agg #[.int .i16 0, .string (str []), .int .i64 0, .slice none 0 0], by kernel_rfl, rfl⟩) (hXs := by kernel_rfl) (hNew := new_ConnectMemberMetadata) (hRF := rf_kept Tryd.func20 rfl rfl rfl hr (by kernel_rfl)) (hTell := hG)
 ·exact door_kept (K := fun v => kRead ft v) (v1 := v_ConnectMemberMetadata) (hf := Tryd.func9) (hN := rfl) (hres := rfl) (hT := tellT) (hbody := rfl) (hb1 := by kernel_rfl) (hb3 := by kernel_rfl) (hb4 := by kernel_rfl) (hi := by kernel_rfl) (h16 := by kernel_rfl) (h16l := by kernel_rfl) (h64s := by kernel_rfl) (eb := 5) (hby := by kernel_rfl) (hE := by kernel_rfl) (hver := by kernel_rfl) (hverI := by kernel_rfl) (hlay := rfl) (hX := ⟨.agg #[.int .i16 0, .string (str []), .int .i64 0, .slice none 0 0], by kernel_rfl, rfl⟩) (hXs := by kernel_rfl) (hNew := new_ConnectMemberMetadata) (hRF := rf_kept Tryd.func24 rfl rfl rfl hr (by kernel_rfl)) (hTell := hG)
end Go.Proofs.YtcldbjehliladaaDoor
set_option linter.unusedSimpArgs false
set_option linter.unusedVariables false
namespace Go.Proofs.YtcldbjehliladaaDoor
open Go Go.RowKit
set_option maxHeartbeats 4000000 in
set_option maxRecDepth 100000 in
theorem spec_ConnectMemberMetadata (w : World) : Calls Tryd.prog 8 #[] w fun e w' => ∃ v, e = .returned (.agg #[v, .int .i64 (-1)]) /\ Mod none' w w' /\ FdsI w' v Zg := by
 go_enter Tryd.func8, Tryd.ntmps8
 go_wp2
 obtain ⟨hA, hB⟩ := two_boxes (Mod.refl (S := none') ((w.alloc (.cells #[.slice (some ⟨w.heap.size + 1, 0, none⟩) 3 3, .int .i64 (-1)] 32)).alloc (.cells #[.int .i64 8, .int .i64 0, .int .i64 (-1), .int .i64 (-1), .int .i64 (-1), .int .i64 0, .int .i64 0, .slice none 0 0, .int .i64 4, .int .i64 0, .int .i64 (-1), .int .i64 (-1), .int .i64 (-1), .int .i64 0, .int .i64 0, .slice none 0 0, .int .i64 9, .int .i64 1, .int .i64 (-1), .int .i64 (-1), .int .i64 (-1), .int .i64 0, .int .i64 0, .slice none 0 0] 56)))
 exact bodyPost_ret (results_cellN rfl (b := w.heap.size) (o := 0) (cs := [.slice (some ⟨w.heap.size + 1, 0, none⟩) 3 3, .int .i64 (-1)]) rfl (by kernel_rfl) (fun j u hu => by rw [Zc hA, Nat.zero_add]; simpa using hu)) rfl
  ⟨_, rfl, ((Mod.refl w).alloc _).alloc _, FdsI.of (fs := Zg) [.slice none 0 0, .slice none 0 0, .slice none 0 0] hB rfl (by decide) rfl ⟨FdsI.none' _, FdsI.none' _, FdsI.none' _, trivial⟩⟩
set_option maxHeartbeats 1000000 in
set_option maxRecDepth 20000 in
theorem law_ConnectMemberMetadata {w : World} {srcv : Value} {bs : List UInt8} {ev : Value} (hE : ErrIs w ev) (hev : ∃ tx vx, ev = .iface tx vx) (hsrc : Srcs w srcv bs) :
  Calls Tryd.prog 3 #[srcv] w fun e w' => e = .returned (.bool true) /\ Mod none' w w' := by
 obtain ⟨ft, G, hd1, hd2, hwr, hns⟩ := doors_ConnectMemberMetadata
 obtain ⟨ao, cap, hsl⟩ := hsrc.shape
 refine calls_of_wp Tryd.func3 rfl ?_
 show Code.wp _ _ _ { tmps := (#[srcv] : Array Value) ++ Array.replicate (49 - (#[srcv] : Array Value).size) undef, defers := [] } w
 refine wp_act (fun a : Act => Act.get a 0 = srcv /\ a.tmps.size = 49 /\ a.defers = []) ⟨?_, ?_, rfl⟩ ?_
 ·rw [Zj _ _ _ (by simp)]; rfl
 ·simp
 rintro a ⟨a0, aN, ad⟩
 refine wp_seq (wp_region_lit (Zv rfl Zi (wpList_nil ?_)))
 refine wp_seq (wp_seq (wp_region_lit (Zv rfl Zm (Zv rfl (x_len (by kernel_rfl) rfl (ao := ao) (cap := cap) (n := bs.length) ?_) (Zv rfl (x_gtr (k := .i64) (m := bs.length) (n := 2147483647) ?_ rfl) (wpList_nil ?_))))))
 ·simp (disch := first | omega | simp only [Zs]; omega) only [Zo, Ze, Zn, Zq, a0, hsl]
 ·simp (disch := first | omega | simp only [Zs]; omega) only [Zo, Ze, Zn, Zq]
 by_cases hbig : (2147483647 : Int) < bs.length
 ·refine wp_cond_true ?_ (wp_seq (wp_region_lit (Zv rfl Zi (wpList_nil (wp_ret ?_)))))
  ·simp (disch := first | omega | simp only [Zs]; omega) only [Zo, Ze, Zn, Zq]
   simpa using hbig
  ·simp only [Exit.then]
   refine bodyPost_ret (results_tmp rfl _ _ _) ?_ ⟨?_, .refl w⟩
   ·simp only [Zd]; exact ad
   ·rw [show ∀ (a : Act), a.tmps.getD 2 undef = Act.get a 2 from fun _ => rfl]
    simp (disch := first | omega | simp only [Zs]; omega) only [Zo, Ze, Zn, Zq]
    rfl
 refine wp_cond_false ?_ (wp_skip ?_)
 ·simp (disch := first | omega | simp only [Zs]; omega) only [Zo, Ze, Zn, Zq]
  simpa using hbig
 refine wp_act (fun a : Act => Act.get a 0 = srcv /\ a.tmps.size = 49 /\ a.defers = []) ⟨?_, ?_, ?_⟩ ?_
 ·simp (disch := first | omega | simp only [Zs]; omega) only [Zo, Ze, Zn, Zq, a0]
 ·simp only [Zs]; exact aN
 ·simp only [Zd]; exact ad
 clear a0 aN ad
 rintro a ⟨a0, aN, ad⟩
 refine wp_seq (wp_seq (wp_region_lit (Zv rfl Zm (Zv rfl (x_len (by kernel_rfl) rfl (ao := ao) (cap := cap) (n := bs.length) ?_) (Zv rfl (x_gtr (k := .i64) (m := bs.length) (n := 1000) ?_ rfl) (wpList_nil ?_))))))
 ·simp (disch := first | omega | simp only [Zs]; omega) only [Zo, Ze, Zn, Zq, a0, hsl]
 ·simp (disch := first | omega | simp only [Zs]; omega) only [Zo, Ze, Zn, Zq]
 by_cases hmid : (1000 : Int) < bs.length
 ·refine wp_cond_true ?_ (wp_seq (wp_region_lit (Zv rfl Zi (wpList_nil (wp_ret ?_)))))
  ·simp (disch := first | omega | simp only [Zs]; omega) only [Zo, Ze, Zn, Zq]
   simpa using hmid
  ·simp only [Exit.then]
   refine bodyPost_ret (results_tmp rfl _ _ _) ?_ ⟨?_, .refl w⟩
   ·simp only [Zd]; exact ad
   ·rw [show ∀ (a : Act), a.tmps.getD 2 undef = Act.get a 2 from fun _ => rfl]
    simp (disch := first | omega | simp only [Zs]; omega) only [Zo, Ze, Zn, Zq]
    rfl
 refine wp_cond_false ?_ (wp_skip ?_)
 ·simp (disch := first | omega | simp only [Zs]; omega) only [Zo, Ze, Zn, Zq]
  simpa using hmid
 refine wp_act (fun a : Act => Act.get a 0 = srcv /\ a.tmps.size = 49 /\ a.defers = []) ⟨?_, ?_, ?_⟩ ?_
 ·simp (disch := first | omega | simp only [Zs]; omega) only [Zo, Ze, Zn, Zq, a0]
 ·simp only [Zs]; exact aN
 ·simp only [Zd]; exact ad
 clear a0 aN ad
 rintro a ⟨a0, aN, ad⟩
 have hbl : bs.length <= 4294967295 := by omega
 -- what is written of nothing can be read
 refine wp_seq (wp_region_lit (wpl_call rfl (Zy (by kernel_rfl) rfl) (R := fun e w' => ∃ v, e = .returned (.agg #[v, .int .i64 (-1)]) /\ Mod none' w w' /\ FdsI w' v Zg) (by simpa using spec_ConnectMemberMetadata w) ?_))
 rintro e w3 ⟨v, rfl, m3, hfs⟩
 obtain ⟨fa, fcap, hfv⟩ := hfs.slice
 subst hfv
 have ht0 := TreeI.zero w3
 refine ⟨_, rfl, Zv rfl (x_build (cells := #[.int .i64 0, .slice none 0 0, .bool false, .slice none 0 0, .slice none 0 0]) (by kernel_rfl)) (wpl_call rfl (Zy (by kernel_rfl) rfl) (R := fun e w' => ∃ v, e = .returned v /\ Mod none' w3 w' /\ OwnB w' w3.heap.size v (fixedE 0 2 ++ partW Zg 0 (flexW (-1) 0) .zero)) ?_ ?_)⟩
 ·rw [show ∀ a : Act, (#[Operand.tmp 16, .const (.int .i64 0), .tmp 17] : Array Operand).map a.eval = #[Act.get a 16, .int .i64 0, Act.get a 17] from fun a => by simp [Ze]; rfl]
  simp (disch := first | omega | simp only [Zs]; omega) only [Zo, Ze, Zn, Zq]
  exact kept_c (by decide) hfs rfl ht0 (leafs_low (by decide) (by decide) ht0.ok)
 rintro e w5 ⟨bv, rfl, m5, hown⟩
 have hflx : flexW (-1) 0 = false := by simp [flexW]
 rw [hflx] at hown
 obtain ⟨b0, hb0⟩ : ∃ b0, b0 = fixedE 0 2 ++ partW Zg 0 false .zero := ⟨_, rfl⟩
 have hlb : b0.length <= 4294967295 := by
  have : (partW Zg 0 false .zero).length <= 4294960000 := leafs_low (by decide) (by decide) ht0.ok
  rw [hb0, List.length_append, fixedE_length]; omega
 have hpos : 1 <= b0.length := by rw [hb0, List.length_append, fixedE_length]; omega
 have hne : b0.isEmpty = false := by cases b0 <;> simp at hpos ⊢
 obtain ⟨xs, hread, htold⟩ := hwr 0 false .zero [.num 0] [] ⟨by decide, by decide, rfl⟩ ht0.ok rfl
 have hK : kRead ft v_ConnectMemberMetadata ⟨b0, false, false⟩ = .ok ([.num 0] ++ xs, []) ⟨[], false, false⟩ := by
  have e1 : b0 = fixedE 0 2 ++ (fieldsW Zg 0 0 false .zero ++ []) := by rw [hb0, partW]; simp
  rw [kRead, e1, rdInt16_w, show IntKind.i16.wrap 0 = 0 by decide]
  show ft 0 false ([Tr.num 0] ++ z_ConnectMemberMetadata, []) _ = _
  simpa using hread
 have m05 : Mod none' w w5 := m3.trans m5
 have hE5 := hE.mod m05 (fun f => f)
 have hd := hd1 bv b0 ev w5 hE5 hev (hb0 ▸ hown.srcs) hlb (by rw [hne, hK]; exact fun h => by cases h)
 rw [hne, hK] at hd
 refine ⟨_, rfl, wpl_call rfl (Zy (by kernel_rfl) rfl) (R := fun e w' => ∃ cs ok, e = .returned (.tuple #[.agg cs, .bool ok]) /\ Mod none' w5 w' /\ cs.size = 5 /\ cs.all (·.oneCell') = true /\ ok = true) ?_ ?_⟩
 ·rw [show ∀ a : Act, (#[Operand.tmp 18] : Array Operand).map a.eval = #[Act.get a 18] from fun a => by simp [Ze]]
  simp (disch := first | omega | simp only [Zs]; omega) only [Zo, Ze, Zn, Zq]
  exact hd.mono (by rintro e w' ⟨cs, ok, h1, h2, h3, h4, h5, _⟩; exact ⟨cs, ok, h1, h2, h3, h4, h5⟩)
 rintro e w6 ⟨cx, _, rfl, m6, hcx, hcx1, rfl⟩
 refine ⟨_, rfl, Zv rfl Zm (Zv rfl (x_extract (vs := #[.agg cx, .bool true]) (i := 0) (v := .agg cx) ?_ rfl) (Zv rfl (x_extract (vs := #[.agg cx, .bool true]) (i := 1) (v := .bool true) ?_ rfl) (Zv rfl (x_alloc zeroTr) (wpl_skip rfl (x_storeN (cs := cx) (b := w6.heap.size) (o := 0) (by rw [hcx]; kernel_rfl) ?_ ?_ hcx1 (there_new (by rw [hcx]; rfl))) (Zv rfl Zi (wpList_nil ?_))))))⟩
 ·simp (disch := first | omega | simp only [Zs]; omega) only [Zo, Ze, Zn, Zq]
 ·simp (disch := first | omega | simp only [Zs]; omega) only [Zo, Ze, Zn, Zq]
 ·simp (disch := first | omega | simp only [Zs]; omega) only [Zo, Ze, Zn, Zq]
 ·simp (disch := first | omega | simp only [Zs]; omega) only [Zo, Ze, Zn, Zq]
 obtain ⟨_, m7⟩ := store_new w6 26 (zc := (Value.agg #[.int .i64 0, .slice none 0 0, .bool false, .slice none 0 0, .slice none 0 0]).cells) (cs := cx) (by rw [hcx]; rfl)
 generalize (w6.alloc (.cells (Value.agg #[.int .i64 0, .slice none 0 0, .bool false, .slice none 0 0, .slice none 0 0]).cells 26)).setCells w6.heap.size 0 cx.toList = w1 at *
 refine wp_act (fun a : Act => Act.get a 0 = srcv /\ Act.get a 4 = .bool true /\ a.tmps.size = 49 /\ a.defers = []) ⟨?_, ?_, ?_, ?_⟩ ?_
 ·simp (disch := first | omega | simp only [Zs]; omega) only [Zo, Ze, Zn, Zq, a0]
 ·simp (disch := first | omega | simp only [Zs]; omega) only [Zo, Ze, Zn, Zq]
 ·simp only [Zs]; exact aN
 ·simp only [Zd]; exact ad
 clear a0 aN ad
 rintro a ⟨a0, a4, aN, ad⟩
 have m1 : Mod none' w w1 := (m05.trans m6).trans m7
 clear hd hown hfs ht0 hread htold hK hE5 m05 m3 m5 m6 m7
 -- told
 have hE1 := hE.mod m1 (fun f => f)
 have hsrc1 := hsrc.mod m1
 refine wp_seq (wp_region_lit (Zv rfl Zm (wpl_call rfl (Zy (by kernel_rfl) rfl) (R := fun e w' => ∃ cs ok, e = .returned (.tuple #[.agg cs, .bool ok]) /\ Mod none' w1 w' /\ cs.size = 5 /\ cs.all (·.oneCell') = true /\
   match kRead ft v_ConnectMemberMetadata ⟨bs, bs.isEmpty, false⟩ with
   | .ok v' s' => ok = !s'.bad /\ (ok = true -> ∃ ver, v'.1[0]? = some (.num ver) /\ TreeR w' (From w1) (from' cs 0) (.mk ver [] false (G v') v'.2))
   | .early => ok = false
   | .stuck => False) ?_ ?_)))
 ·rw [show ∀ a : Act, (#[Operand.tmp 23] : Array Operand).map a.eval = #[Act.get a 23] from fun a => by simp [Ze]]
  simp (disch := first | omega | simp only [Zs]; omega) only [Zo, Ze, Zn, Zq, a0]
  exact hd1 srcv bs ev w1 hE1 hev hsrc1 hbl (hns _ _ _)
 rintro e v1 ⟨cs1, ok1, rfl, n1, q1, r1, t1⟩
 refine ⟨_, rfl, Zv rfl Zm (Zv rfl (x_extract (vs := #[.agg cs1, .bool ok1]) (i := 0) (v := .agg cs1) ?_ rfl) (Zv rfl (x_extract (vs := #[.agg cs1, .bool ok1]) (i := 1) (v := .bool ok1) ?_ rfl) (Zv rfl (x_alloc zeroTr) (wpl_skip rfl (x_storeN (cs := cs1) (b := v1.heap.size) (o := 0) (by rw [q1]; kernel_rfl) ?_ ?_ r1 (there_new (by rw [q1]; rfl))) (Zv rfl Zi (wpList_nil ?_))))))⟩
 ·simp (disch := first | omega | simp only [Zs]; omega) only [Zo, Ze, Zn, Zq]
 ·simp (disch := first | omega | simp only [Zs]; omega) only [Zo, Ze, Zn, Zq]
 ·simp (disch := first | omega | simp only [Zs]; omega) only [Zo, Ze, Zn, Zq]
 ·simp (disch := first | omega | simp only [Zs]; omega) only [Zo, Ze, Zn, Zq]
 obtain ⟨kk1, pp1⟩ := store_new v1 26 (zc := (Value.agg #[.int .i64 0, .slice none 0 0, .bool false, .slice none 0 0, .slice none 0 0]).cells) (cs := cs1) (by rw [q1]; rfl)
 generalize (v1.alloc (.cells (Value.agg #[.int .i64 0, .slice none 0 0, .bool false, .slice none 0 0, .slice none 0 0]).cells 26)).setCells v1.heap.size 0 cs1.toList = u1 at *
 obtain ⟨x1, hx1⟩ : ∃ x, x = v1.heap.size := ⟨_, rfl⟩
 rw [<- hx1] at kk1 ⊢
 refine wp_act (fun a : Act => Act.get a 0 = srcv /\ Act.get a 4 = .bool true /\ Act.get a 5 = .pointer (some ⟨x1, 0, none⟩) /\ Act.get a 6 = .bool ok1 /\ a.tmps.size = 49 /\ a.defers = []) ⟨?_, ?_, ?_, ?_, ?_, ?_⟩ ?_
 ·simp (disch := first | omega | simp only [Zs]; omega) only [Zo, Ze, Zn, Zq, a0]
 ·simp (disch := first | omega | simp only [Zs]; omega) only [Zo, Ze, Zn, Zq, a4]
 ·simp (disch := first | omega | simp only [Zs]; omega) only [Zo, Ze, Zn, Zq]
 ·simp (disch := first | omega | simp only [Zs]; omega) only [Zo, Ze, Zn, Zq]
 ·simp only [Zs]; exact aN
 ·simp only [Zd]; exact ad
 clear a0 a4 aN ad
 rintro a ⟨a0, a4, a5, a6, aN, ad⟩
 have nn1 := n1.trans pp1
 have m1' : Mod none' w u1 := m1.trans nn1
 -- told
 have hE2 := hE.mod m1' (fun f => f)
 have hsrc2 := hsrc.mod m1'
 refine wp_seq (wp_region_lit (Zv rfl Zm (wpl_call rfl (Zy (by kernel_rfl) rfl) (R := fun e w' => ∃ cs ok, e = .returned (.tuple #[.agg cs, .bool ok]) /\ Mod none' u1 w' /\ cs.size = 5 /\ cs.all (·.oneCell') = true /\
   match kRead ft v_ConnectMemberMetadata ⟨bs, bs.isEmpty, false⟩ with
   | .ok v' s' => ok = !s'.bad /\ (ok = true -> ∃ ver, v'.1[0]? = some (.num ver) /\ TreeR w' (From u1) (from' cs 0) (.mk ver [] false (G v') v'.2))
   | .early => ok = false
   | .stuck => False) ?_ ?_)))
 ·rw [show ∀ a : Act, (#[Operand.tmp 28] : Array Operand).map a.eval = #[Act.get a 28] from fun a => by simp [Ze]]
  simp (disch := first | omega | simp only [Zs]; omega) only [Zo, Ze, Zn, Zq, a0]
  exact hd2 srcv bs ev u1 hE2 hev hsrc2 hbl (hns _ _ _)
 rintro e v2 ⟨cs2, ok2, rfl, n2, q2, r2, t2⟩
 refine ⟨_, rfl, Zv rfl Zm (Zv rfl (x_extract (vs := #[.agg cs2, .bool ok2]) (i := 0) (v := .agg cs2) ?_ rfl) (Zv rfl (x_extract (vs := #[.agg cs2, .bool ok2]) (i := 1) (v := .bool ok2) ?_ rfl) (Zv rfl (x_alloc zeroTr) (wpl_skip rfl (x_storeN (cs := cs2) (b := v2.heap.size) (o := 0) (by rw [q2]; kernel_rfl) ?_ ?_ r2 (there_new (by rw [q2]; rfl))) (Zv rfl Zi (wpList_nil ?_))))))⟩
 ·simp (disch := first | omega | simp only [Zs]; omega) only [Zo, Ze, Zn, Zq]
 ·simp (disch := first | omega | simp only [Zs]; omega) only [Zo, Ze, Zn, Zq]
 ·simp (disch := first | omega | simp only [Zs]; omega) only [Zo, Ze, Zn, Zq]
 ·simp (disch := first | omega | simp only [Zs]; omega) only [Zo, Ze, Zn, Zq]
 obtain ⟨kk2, pp2⟩ := store_new v2 26 (zc := (Value.agg #[.int .i64 0, .slice none 0 0, .bool false, .slice none 0 0, .slice none 0 0]).cells) (cs := cs2) (by rw [q2]; rfl)
 generalize (v2.alloc (.cells (Value.agg #[.int .i64 0, .slice none 0 0, .bool false, .slice none 0 0, .slice none 0 0]).cells 26)).setCells v2.heap.size 0 cs2.toList = u2 at *
 obtain ⟨x2, hx2⟩ : ∃ x, x = v2.heap.size := ⟨_, rfl⟩
 rw [<- hx2] at kk2 ⊢
 refine wp_act (fun a : Act => Act.get a 4 = .bool true /\ Act.get a 5 = .pointer (some ⟨x1, 0, none⟩) /\ Act.get a 6 = .bool ok1 /\ Act.get a 7 = .pointer (some ⟨x2, 0, none⟩) /\ Act.get a 8 = .bool ok2 /\ a.tmps.size = 49 /\ a.defers = []) ⟨?_, ?_, ?_, ?_, ?_, ?_, ?_⟩ ?_
 ·simp (disch := first | omega | simp only [Zs]; omega) only [Zo, Ze, Zn, Zq, a4]
 ·simp (disch := first | omega | simp only [Zs]; omega) only [Zo, Ze, Zn, Zq, a5]
 ·simp (disch := first | omega | simp only [Zs]; omega) only [Zo, Ze, Zn, Zq, a6]
 ·simp (disch := first | omega | simp only [Zs]; omega) only [Zo, Ze, Zn, Zq]
 ·simp (disch := first | omega | simp only [Zs]; omega) only [Zo, Ze, Zn, Zq]
 ·simp only [Zs]; exact aN
 ·simp only [Zd]; exact ad
 clear a0 a4 a5 a6 aN ad
 rintro a ⟨a4, a5, a6, a7, a8, aN, ad⟩
 have nn2 := n2.trans pp2
 have mall := m1'.trans nn2
 have hb1 := nn2.some kk1 (fun f => f)
 have hok : ok1 = ok2 /\ (ok1 = true -> ∃ t, TreeR u2 (From w1) (from' cs1 0) t /\ TreeR u2 (From u1) (from' cs2 0) t) := by
  revert t1 t2
  cases kRead ft v_ConnectMemberMetadata ⟨bs, bs.isEmpty, false⟩ with
  | ok v' s' =>
   rintro ⟨h1, h2⟩ ⟨h3, h4⟩
   refine ⟨h1.trans h3.symm, fun ht => ?_⟩
   obtain ⟨ver, g1, g2⟩ := h2 ht
   obtain ⟨ver', g3, g4⟩ := h4 (h3.trans (h1.symm.trans ht))
   rw [g1] at g3
   obtain rfl : ver = ver' := by simpa [Tr.num] using g3
   exact ⟨_, g2.mod (pp1.trans nn2) (fun _ _ f => f) (fun _ h => h), g4.mod pp2 (fun _ _ f => f) (fun _ h => h)⟩
  | early => intro h1 h2; exact ⟨h1.trans h2.symm, fun ht => by rw [h1] at ht; cases ht⟩
  | stuck => intro h; exact h.elim
 obtain ⟨hok, htree⟩ := hok
 subst hok
 have fin : ∀ (a' : Act) (w' : World), Mod none' u2 w' -> Act.get a' 2 = .bool true -> a'.defers = [] -> Code.ret.wp Tryd.prog (bodyPost Tryd.prog Tryd.f3 fun e w' => e = .returned (.bool true) /\ Mod none' w w') a' w' := by
  intro a' w' hm h4 hd
  refine wp_ret (bodyPost_ret (results_tmp rfl _ _ _) hd ⟨?_, mall.trans hm⟩)
  exact congrArg Ending.returned h4
 cases ok1 with
 | false =>
  refine wp_seq (region_rlg (l := [_, _, _, _, _, _, _, _, _, _, _, _, _, _, _, _, _]) (tl := [_]) rfl (Mod none') (Mod.refl u2).drew (fun a => .refl a) (fun _ _ _ h h' => h.trans h') [32, 33, 34, 35, 36, 37, 38, 39, 40, 41, 42, 43, 44, 45, 46, 47, 48]
   [fun v _ => v = .bool true, fun v _ => v = .bool true, fun v _ => v = .bool false, fun v _ => v = .bool false, fun v _ => v = .bool true, fun v _ => v = .bool true, fun v _ => v = .bool true, fun v _ => v = .bool false, fun v _ => v = .bool true, fun v _ => v = .bool true, fun _ _ => True, fun _ _ => True, fun _ _ => True, fun _ _ => True, fun _ _ => True, fun v _ => v = .bool true, fun v _ => v = .bool true]
   ?_ rfl (by decide) (by simp [aN]) (by simp) (by kernel_rfl) ⟨?_, ?_, ?_, ?_, ?_, ?_, ?_, ?_, ?_, ?_, ?_, ?_, ?_, ?_, ?_, ?_, ?_, trivial⟩ ?_)
  ·intro g hg v v1 v2 hv hr
   simp only [List.mem_cons, List.not_mem_nil, or_false] at hg
   rcases hg with rfl | rfl | rfl | rfl | rfl | rfl | rfl | rfl | rfl | rfl | rfl | rfl | rfl | rfl | rfl | rfl | rfl <;> exact hv
  ·intro b v hr hs hd
   exact .inl ⟨rfl, Zw (x_moveV ((hs.get 4 (by decide)).trans a4)) ⟨_, rfl, .refl _, rfl⟩⟩
  ·intro b v hr hs hd
   have d1 : Act.get b 32 = .bool true := hd ⟨0, .data⟩ (by simp) rfl
   exact .inl ⟨rfl, Zw (x_moveV d1) ⟨_, rfl, .refl _, rfl⟩⟩
  ·intro b v hr hs hd
   have d0 : Act.get b 33 = .bool true := hd ⟨1, .guard⟩ (by simp) rfl
   exact .inl ⟨⟨by decide, true, d0, rfl⟩, Zw (x_moveV ((hs.get 6 (by decide)).trans a6)) ⟨_, rfl, .refl _, rfl⟩⟩
  ·intro b v hr hs hd
   have d0 : Act.get b 33 = .bool true := hd ⟨1, .guard⟩ (by simp) rfl
   exact .inl ⟨⟨by decide, true, d0, rfl⟩, Zw (x_moveV ((hs.get 8 (by decide)).trans a8)) ⟨_, rfl, .refl _, rfl⟩⟩
  ·intro b v hr hs hd
   have d0 : Act.get b 33 = .bool true := hd ⟨1, .guard⟩ (by simp) rfl
   have d1 : Act.get b 34 = .bool false := hd ⟨2, .data⟩ (by simp) rfl
   have d2 : Act.get b 35 = .bool false := hd ⟨3, .data⟩ (by simp) rfl
   exact .inl ⟨⟨by decide, true, d0, rfl⟩, Zw (x_eqlB (by kernel_rfl) d1 d2) ⟨_, rfl, .refl _, rfl⟩⟩
  ·intro b v hr hs hd
   have d1 : Act.get b 33 = .bool true := hd ⟨1, .data⟩ (by simp) rfl
   have d2 : Act.get b 36 = .bool true := hd ⟨4, .data⟩ (by simp) rfl
   exact .inl ⟨rfl, Zw (x_pickT d1 d2) ⟨_, rfl, .refl _, rfl⟩⟩
  ·intro b v hr hs hd
   have d1 : Act.get b 37 = .bool true := hd ⟨5, .data⟩ (by simp) rfl
   exact .inl ⟨rfl, Zw (x_moveV d1) ⟨_, rfl, .refl _, rfl⟩⟩
  ·intro b v hr hs hd
   have d0 : Act.get b 38 = .bool true := hd ⟨6, .guard⟩ (by simp) rfl
   exact .inl ⟨⟨by decide, true, d0, rfl⟩, Zw (x_moveV ((hs.get 6 (by decide)).trans a6)) ⟨_, rfl, .refl _, rfl⟩⟩
  ·intro b v hr hs hd
   have d0 : Act.get b 38 = .bool true := hd ⟨6, .guard⟩ (by simp) rfl
   have d1 : Act.get b 39 = .bool false := hd ⟨7, .data⟩ (by simp) rfl
   exact .inl ⟨⟨by decide, true, d0, rfl⟩, Zw (x_notV (c := true) d1 rfl) ⟨_, rfl, .refl _, rfl⟩⟩
  ·intro b v hr hs hd
   have d0 : Act.get b 38 = .bool true := hd ⟨6, .guard⟩ (by simp) rfl
   have d1 : Act.get b 40 = .bool true := hd ⟨8, .data⟩ (by simp) rfl
   exact .inl ⟨⟨by decide, true, d0, rfl⟩, Zw (x_moveV d1) ⟨_, rfl, .refl _, rfl⟩⟩
  ·intro b v hr hs hd
   have d0 : Act.get b 41 = .bool true := hd ⟨9, .guard⟩ (by simp) rfl
   exact .inr ⟨⟨by decide, true, d0, rfl⟩, trivial⟩
  ·intro b v hr hs hd
   have d0 : Act.get b 41 = .bool true := hd ⟨9, .guard⟩ (by simp) rfl
   exact .inr ⟨⟨by decide, true, d0, rfl⟩, trivial⟩
  ·intro b v hr hs hd
   have d0 : Act.get b 41 = .bool true := hd ⟨9, .guard⟩ (by simp) rfl
   exact .inr ⟨⟨by decide, true, d0, rfl⟩, trivial⟩
  ·intro b v hr hs hd
   have d0 : Act.get b 41 = .bool true := hd ⟨9, .guard⟩ (by simp) rfl
   exact .inr ⟨⟨by decide, true, d0, rfl⟩, trivial⟩
  ·intro b v hr hs hd
   have d0 : Act.get b 41 = .bool true := hd ⟨9, .guard⟩ (by simp) rfl
   exact .inr ⟨⟨by decide, true, d0, rfl⟩, trivial⟩
  ·intro b v hr hs hd
   have d0 : Act.get b 38 = .bool true := hd ⟨6, .guard⟩ (by simp) rfl
   have d1 : Act.get b 41 = .bool true := hd ⟨9, .data⟩ (by simp) rfl
   exact .inl ⟨⟨by decide, true, d0, rfl⟩, Zw (x_pickT (v := .bool true) d1 rfl) ⟨_, rfl, .refl _, rfl⟩⟩
  ·intro b v hr hs hd
   have d1 : Act.get b 38 = .bool true := hd ⟨6, .data⟩ (by simp) rfl
   have d2 : Act.get b 47 = .bool true := hd ⟨15, .data⟩ (by simp) rfl
   exact .inl ⟨rfl, Zw (x_pickT d1 d2) ⟨_, rfl, .refl _, rfl⟩⟩
  ·intro b v hr hs hh
   have d0 : Act.get b 48 = .bool true := hh 16 (by decide)
   refine Zv rfl Zi (wpList_nil (fin _ v hr ?_ ?_))
   ·rw [Zq (by rw [hs.size]; omega)]; exact d0
   ·exact (Zd _ _ _).trans (hs.defers.trans ad)
 | true =>
  obtain ⟨t, htA, htB⟩ := htree rfl
  refine wp_seq (region_rlg (l := [_, _, _, _, _, _, _, _, _, _, _, _, _, _, _, _, _]) (tl := [_]) rfl (Mod none') (Mod.refl u2).drew (fun a => .refl a) (fun _ _ _ h h' => h.trans h') [32, 33, 34, 35, 36, 37, 38, 39, 40, 41, 42, 43, 44, 45, 46, 47, 48]
   [fun v _ => v = .bool true, fun v _ => v = .bool true, fun v _ => v = .bool true, fun v _ => v = .bool true, fun v _ => v = .bool true, fun v _ => v = .bool true, fun v _ => v = .bool true, fun v _ => v = .bool true, fun v _ => v = .bool false, fun v _ => v = .bool false, fun v _ => v = .agg cs1, fun v w' => TreeV w' (fun _ => True) v t, fun v _ => v = .agg cs2, fun v w' => TreeV w' (fun _ => True) v t, fun v _ => v = .bool true, fun v _ => v = .bool true, fun v _ => v = .bool true]
   ?_ rfl (by decide) (by simp [aN]) (by simp) (by kernel_rfl) ⟨?_, ?_, ?_, ?_, ?_, ?_, ?_, ?_, ?_, ?_, ?_, ?_, ?_, ?_, ?_, ?_, ?_, trivial⟩ ?_)
  ·intro g hg v v1 v2 hv hr
   simp only [List.mem_cons, List.not_mem_nil, or_false] at hg
   rcases hg with rfl | rfl | rfl | rfl | rfl | rfl | rfl | rfl | rfl | rfl | rfl | rfl | rfl | rfl | rfl | rfl | rfl <;> first | exact hv | exact TreeV.mod hv hr (fun _ _ f => f) (fun _ h => h)
  ·intro b v hr hs hd
   exact .inl ⟨rfl, Zw (x_moveV ((hs.get 4 (by decide)).trans a4)) ⟨_, rfl, .refl _, rfl⟩⟩
  ·intro b v hr hs hd
   have d1 : Act.get b 32 = .bool true := hd ⟨0, .data⟩ (by simp) rfl
   exact .inl ⟨rfl, Zw (x_moveV d1) ⟨_, rfl, .refl _, rfl⟩⟩
  ·intro b v hr hs hd
   have d0 : Act.get b 33 = .bool true := hd ⟨1, .guard⟩ (by simp) rfl
   exact .inl ⟨⟨by decide, true, d0, rfl⟩, Zw (x_moveV ((hs.get 6 (by decide)).trans a6)) ⟨_, rfl, .refl _, rfl⟩⟩
  ·intro b v hr hs hd
   have d0 : Act.get b 33 = .bool true := hd ⟨1, .guard⟩ (by simp) rfl
   exact .inl ⟨⟨by decide, true, d0, rfl⟩, Zw (x_moveV ((hs.get 8 (by decide)).trans a8)) ⟨_, rfl, .refl _, rfl⟩⟩
  ·intro b v hr hs hd
   have d0 : Act.get b 33 = .bool true := hd ⟨1, .guard⟩ (by simp) rfl
   have d1 : Act.get b 34 = .bool true := hd ⟨2, .data⟩ (by simp) rfl
   have d2 : Act.get b 35 = .bool true := hd ⟨3, .data⟩ (by simp) rfl
   exact .inl ⟨⟨by decide, true, d0, rfl⟩, Zw (x_eqlB (by kernel_rfl) d1 d2) ⟨_, rfl, .refl _, rfl⟩⟩
  ·intro b v hr hs hd
   have d1 : Act.get b 33 = .bool true := hd ⟨1, .data⟩ (by simp) rfl
   have d2 : Act.get b 36 = .bool true := hd ⟨4, .data⟩ (by simp) rfl
   exact .inl ⟨rfl, Zw (x_pickT d1 d2) ⟨_, rfl, .refl _, rfl⟩⟩
  ·intro b v hr hs hd
   have d1 : Act.get b 37 = .bool true := hd ⟨5, .data⟩ (by simp) rfl
   exact .inl ⟨rfl, Zw (x_moveV d1) ⟨_, rfl, .refl _, rfl⟩⟩
  ·intro b v hr hs hd
   have d0 : Act.get b 38 = .bool true := hd ⟨6, .guard⟩ (by simp) rfl
   exact .inl ⟨⟨by decide, true, d0, rfl⟩, Zw (x_moveV ((hs.get 6 (by decide)).trans a6)) ⟨_, rfl, .refl _, rfl⟩⟩
  ·intro b v hr hs hd
   have d0 : Act.get b 38 = .bool true := hd ⟨6, .guard⟩ (by simp) rfl
   have d1 : Act.get b 39 = .bool true := hd ⟨7, .data⟩ (by simp) rfl
   exact .inl ⟨⟨by decide, true, d0, rfl⟩, Zw (x_notV (c := false) d1 rfl) ⟨_, rfl, .refl _, rfl⟩⟩
  ·intro b v hr hs hd
   have d0 : Act.get b 38 = .bool true := hd ⟨6, .guard⟩ (by simp) rfl
   have d1 : Act.get b 40 = .bool false := hd ⟨8, .data⟩ (by simp) rfl
   exact .inl ⟨⟨by decide, true, d0, rfl⟩, Zw (x_moveV d1) ⟨_, rfl, .refl _, rfl⟩⟩
  ·intro b v hr hs hd
   have d0 : Act.get b 41 = .bool false := hd ⟨9, .guard⟩ (by simp) rfl
   refine .inl ⟨⟨by decide, false, d0, rfl⟩, Zw (x_loadN (cs := cs1.toList) (by rw [Array.length_toList, q1]; kernel_rfl) ((hs.get 5 (by decide)).trans a5) (fun j u hu => by rw [Zc (hr.some hb1 (fun f => f)), Nat.zero_add]; simpa using hu)) ⟨_, rfl, .refl _, by simp⟩⟩
  ·intro b v hr hs hd
   have d0 : Act.get b 41 = .bool false := hd ⟨9, .guard⟩ (by simp) rfl
   have d1 : Act.get b 42 = .agg cs1 := hd ⟨10, .data⟩ (by simp) rfl
   refine .inl ⟨⟨by decide, false, d0, rfl⟩, owp_call (Zy (by kernel_rfl) rfl) (R := fun e w' => ∃ x, e = .returned x /\ Mod none' v w' /\ TreeV w' (fun k => From w1 k \/ v.heap.size <= k) x t) ?_ ?_⟩
   ·rw [show ∀ a : Act, (#[Operand.tmp 42] : Array Operand).map a.eval = #[Act.get a 42] from fun a => by simp [Ze], d1]
    exact got_spec _ t (Nat.lt_succ_self _) cs1 v _ q1 (htA.mod hr (fun _ _ f => f) (fun _ h => h))
   ·rintro e w' ⟨x, rfl, hm, hx⟩
    exact ⟨x, rfl, x, rfl, hm, hx.mod (Mod.refl (S := none') w') (fun _ _ f => f) (fun _ _ => trivial)⟩
  ·intro b v hr hs hd
   have d0 : Act.get b 41 = .bool false := hd ⟨9, .guard⟩ (by simp) rfl
   refine .inl ⟨⟨by decide, false, d0, rfl⟩, Zw (x_loadN (cs := cs2.toList) (by rw [Array.length_toList, q2]; kernel_rfl) ((hs.get 7 (by decide)).trans a7) (fun j u hu => by rw [Zc (hr.some kk2 (fun f => f)), Nat.zero_add]; simpa using hu)) ⟨_, rfl, .refl _, by simp⟩⟩
  ·intro b v hr hs hd
   have d0 : Act.get b 41 = .bool false := hd ⟨9, .guard⟩ (by simp) rfl
   have d1 : Act.get b 44 = .agg cs2 := hd ⟨12, .data⟩ (by simp) rfl
   refine .inl ⟨⟨by decide, false, d0, rfl⟩, owp_call (Zy (by kernel_rfl) rfl) (R := fun e w' => ∃ x, e = .returned x /\ Mod none' v w' /\ TreeV w' (fun k => From u1 k \/ v.heap.size <= k) x t) ?_ ?_⟩
   ·rw [show ∀ a : Act, (#[Operand.tmp 44] : Array Operand).map a.eval = #[Act.get a 44] from fun a => by simp [Ze], d1]
    exact got_spec _ t (Nat.lt_succ_self _) cs2 v _ q2 (htB.mod hr (fun _ _ f => f) (fun _ h => h))
   ·rintro e w' ⟨x, rfl, hm, hx⟩
    exact ⟨x, rfl, x, rfl, hm, hx.mod (Mod.refl (S := none') w') (fun _ _ f => f) (fun _ _ => trivial)⟩
  ·intro b v hr hs hd
   have d0 : Act.get b 41 = .bool false := hd ⟨9, .guard⟩ (by simp) rfl
   obtain ⟨ca, e1, e2, e3, e4⟩ : TreeV v (fun _ => True) (Act.get b 43) t := hd ⟨11, .data⟩ (by simp) rfl
   obtain ⟨cb, f1, f2, f3, f4⟩ : TreeV v (fun _ => True) (Act.get b 45) t := hd ⟨13, .data⟩ (by simp) rfl
   refine .inl ⟨⟨by decide, false, d0, rfl⟩, owp_call (Zy (by kernel_rfl) rfl) (R := fun e w' => e = .returned (.bool true) /\ Mod none' v w') ?_ ?_⟩
   ·rw [show ∀ a : Act, (#[Operand.tmp 43, Operand.tmp 45] : Array Operand).map a.eval = #[Act.get a 43, Act.get a 45] from fun a => by simp [Ze], e1, f1]
    exact sametree_spec _ t (Nat.lt_succ_self _) ca cb v _ _ e2 f2 e4 f4
   ·rintro e w' ⟨rfl, hm⟩
    exact ⟨_, rfl, _, rfl, hm, rfl⟩
  ·intro b v hr hs hd
   have d0 : Act.get b 38 = .bool true := hd ⟨6, .guard⟩ (by simp) rfl
   have d1 : Act.get b 41 = .bool false := hd ⟨9, .data⟩ (by simp) rfl
   have d2 : Act.get b 46 = .bool true := hd ⟨14, .data⟩ (by simp) rfl
   exact .inl ⟨⟨by decide, true, d0, rfl⟩, Zw (x_pickF d1 d2) ⟨_, rfl, .refl _, rfl⟩⟩
  ·intro b v hr hs hd
   have d1 : Act.get b 38 = .bool true := hd ⟨6, .data⟩ (by simp) rfl
   have d2 : Act.get b 47 = .bool true := hd ⟨15, .data⟩ (by simp) rfl
   exact .inl ⟨rfl, Zw (x_pickT d1 d2) ⟨_, rfl, .refl _, rfl⟩⟩
  ·intro b v hr hs hh
   have d0 : Act.get b 48 = .bool true := hh 16 (by decide)
   refine Zv rfl Zi (wpList_nil (fin _ v hr ?_ ?_))
   ·rw [Zq (by rw [hs.size]; omega)]; exact d0
   ·exact (Zd _ _ _).trans (hs.defers.trans ad)
end Go.Proofs.YtcldbjehliladaaDoor
set_option linter.unusedSimpArgs false
set_option linter.unusedVariables false
namespace Go.Proofs.YtcldbjehliladaaDoor.CConnectMemberMetadata
open Go Go.ChangeShapes Go.WideShapes Go.ChangeAt Go.RowKit Go.Proofs.YtcldbjehliladaaDoor
theorem goesBy_of {c : OpenClaim} {P : Program} {f : FuncId} (hs : c.start = .entering) (hn : P.funcNamed c.func = some f) (hg : P.goes f = false) : false = c.goesBy P := by
 simp [OpenClaim.goesBy, Program.goesAt, Program.goesFrom, hs, hn, hg]
section
variable {H : Type} {enc : TypeId × Value -> H} {P : Program}
theorem post_of_below' {f : Func} {s : ChangeSpec} {apart fresh handsOn again : Bool} {W W' : World} {args : Array Value} {v : Value} {ds gs : List (DataW H)} {before pa pv : List MemPlace}
  (hW : DataW.Whole enc P f.params.toList s.vars apart W args.toList ds gs before)
  (hres : ∀ (b : Nat) (sp : Nat -> Bool) (hd : Bool), DataW.TrodAll enc P W' b sp hd f.resultTypes.toList (v.resultList f.resultTypes.size) (s.fn H (ds ++ gs)).results [])
  (hargs : ∀ sp : Nat -> Bool, (∀ p ∈ before, sp p.block = true) -> DataW.TrodAll enc P W' 0 sp true f.params.toList args.toList (s.fn H (ds ++ gs)).args pa)
  (hvars : ∀ sp : Nat -> Bool, (∀ p ∈ before, sp p.block = true) -> DataW.TrodVars enc P W' sp s.vars (s.fn H (ds ++ gs)).vars pv)
  (hps : before = pa ++ pv) (hb : Below W.heap.size W W')
  (hok : ∀ (j : Nat) (t : TypeId) (r : Value), f.resultTypes[j]? = some t -> (v.resultList f.resultTypes.size)[j]? = some r -> Value.okWide P W' .any 0 t r) :
  s.post enc P f apart fresh handsOn again W args v W' := by
 have hlt : ∀ p ∈ before, p.block < W.heap.size := fun p hp => hW.lt p hp
 have hold : ∀ p ∈ before, (fun b => decide (b < W.heap.size)) p.block = true := fun p hp => by simpa using hlt p hp
 refine ⟨ds, gs, before, [], pa, pv, hW, hres _ _ _, hargs _ hold, hvars _ hold, World.keptBut_mono (fun p hp => ⟨hp, ?_⟩) (hb.frame (· ∈ before)), fun _ => ?_⟩
 ·rw [hps, List.mem_append] at hp
  exact Or.inr hp
 ·obtain ⟨_, _, _, _, _, hz, hn⟩ := hW
  refine ⟨hok, _, _, ([] ++ pa) ++ pv, ⟨[] ++ pa, pv, trodAll_append (hargs _ (fun _ _ => rfl)) (hres _ _ _), hvars _ (fun _ _ => rfl), rfl, ?_, ?_⟩, ?_⟩
  ·intro b off hp
   have hin : MemPlace.cell b off ∈ before := by rw [hps]; simpa using hp
   rw [hb.frozen (hlt _ hin)]
   exact hz b off hin
  ·intro ha
   have := hn ha
   rw [hps] at this
   simpa using this
  ·intro p hp _
   rw [hps]
   simpa using hp
end
theorem own : ownKnob Tryd.prog.godebug = none := by kernel_rfl
theorem gErrName : Tryd.prog.globalNamed "pub-mailsack/pub/kmsg/inner/kbin.ErrNotEnoughData" = some gErr := by kernel_rfl
theorem gErrType : (Tryd.prog.globals[gErr]?).map (·.type) = some 50 := by kernel_rfl
theorem star : "*" ++ "errors.errorString" = "*errors.errorString" := by decide
theorem rowOf (u : TypeId) (h : Tryd.prog.typeName? 3 u = some "*errors.errorString") : u = 185 :=
 typeName_ptr_named (nm := "errors.errorString") (by rw [star]; kernel_rfl) (by kernel_rfl) (by decide) u (by rw [star]; exact h)
theorem cellsE : Tryd.prog.cellsOf 204 = 1 := by kernel_rfl
theorem cellsS : Tryd.prog.cellsOf 9 = 1 := by kernel_rfl
theorem cellsU : Tryd.prog.cellsOf 5 = 1 := by kernel_rfl
/-- what the row's list gives -/
theorem errOf {W : World} (h : laidMetH Tryd.prog Rows.fnUnsafeConnectMemberMetadataRow.laid W) : ∃ ev, ErrIs W ev /\ ∃ tx vx, ev = .iface tx vx := by
 obtain ⟨a0, s0, hv0, -, -, -⟩ := laid_sentinel (show laidMet Tryd.prog Rows.fnUnsafeConnectMemberMetadataRow.laid W from h) gErrName gErrType Tryd.underlying50 rowOf Tryd.underlying185 Tryd.underlying204 rfl rfl Tryd.underlying9 cellsE cellsS
 exact ⟨_, by have h0 := World.var?_cell gErrName hv0 0; unfold ErrIs; simpa using h0, _, _, rfl⟩
set_option maxRecDepth 100000 in
theorem contract (H : Type) (enc : TypeId × Value -> H) (W : World) (base : Nat) (args : Array Value) (ds gs : List (DataW H)) (before : List MemPlace)
  (hval : ∀ (j : Nat) t v, Tryd.f3.params[j]? = some t -> args[j]? = some v -> Value.okWide Tryd.prog W .any base t v)
  (hW : DataW.Whole enc Tryd.prog Tryd.f3.params.toList Rows.fnUnsafeConnectMemberMetadataSpec.vars false W args.toList ds gs before) (hL : laidMetH Tryd.prog Rows.fnUnsafeConnectMemberMetadataRow.laid W) :
  Calls Tryd.prog 3 args W fun e W' => ∃ v, e = .returned v /\ Rows.fnUnsafeConnectMemberMetadataSpec.post enc Tryd.prog Tryd.f3 false true false false W args v W' := by
 have hW' := hW
 obtain ⟨p, q, hA0, hV, rfl, hfz, hnd⟩ := hW
 have hA : DataW.TrodAll enc Tryd.prog W 0 (fun _ => true) true Tryd.f3.params.toList args.toList ds p := hA0
 rw [Tryd.params3] at hA hval
 obtain ⟨v1, vs1, d1, ds1, p1, q1, hargs, rfl, rfl, h1, r1⟩ := trodAll_cons hA
 obtain ⟨rfl, rfl, rfl⟩ := trodAll_nil r1
 obtain rfl : args = #[v1] := by cases args; simp_all
 obtain ⟨rfl, rfl⟩ := trodVars_none hV
 clear hA0
 obtain ⟨ev, hE, hev⟩ := errOf hL
 obtain ⟨a1, len, cap, rfl⟩ := okWide_slice Tryd.underlying22 (hval 0 22 v1 rfl rfl)
 obtain ⟨fuel, hf⟩ := h1
 have finish : ∀ bs, Srcs W (.slice a1 len cap) bs -> (∀ (W' : World) (sp : Nat -> Bool), Below W.heap.size W W' -> (∀ x ∈ p1, sp x.block = true) -> DataW.Trod enc Tryd.prog W' 0 sp true 22 (.slice a1 len cap) d1 p1) ->
   Calls Tryd.prog 3 #[.slice a1 len cap] W fun e W' => ∃ v, e = .returned v /\ Rows.fnUnsafeConnectMemberMetadataSpec.post enc Tryd.prog Tryd.f3 false true false false W #[.slice a1 len cap] v W' := by
  intro bs hsrc hagain
  refine (law_ConnectMemberMetadata hE hev hsrc).mono fun e W' ⟨he, hm⟩ => ?_
  subst he
  simp only [List.append_nil, List.nil_append] at hW'
  refine ⟨_, rfl, post_of_below' (pa := p1) (pv := []) hW' (fun _ _ _ => trodAll_cons_mk (shut_bool Tryd.underlying4 _) trodAll_mk0) (fun sp hsp => ?_) (fun _ _ => rfl) (by simp) hm.below
   (ok_one (by kernel_rfl) rfl (okWide_bool_mk Tryd.underlying4 _))⟩
  rw [Tryd.params3]
  have := trodAll_cons_mk (hagain W' sp hm.below (fun x hx => hsp x (by simpa using hx))) (trodAll_mk0 (enc := enc) (P := Tryd.prog))
  show DataW.TrodAll enc Tryd.prog W' 0 sp true [22] [Value.slice a1 len cap] [d1] p1
  simpa using this
 rcases open_ints Tryd.underlying22 Tryd.underlying5 cellsU hf with ⟨hcs, hx⟩ | ⟨a, len', cap', zs, hcs, _, hl, hmx, hz, hx, hcell, hwz⟩
 ·simp [Value.cells] at hcs
  obtain ⟨rfl, rfl, rfl⟩ := hcs
  simp only [Prod.mk.injEq] at hx
  obtain ⟨rfl, rfl⟩ := hx
  refine finish [] (.inl ⟨rfl, _, _, rfl⟩) fun W' sp _ _ => ⟨1, by simp [DataW.trod, Value.cells, Tryd.underlying22]⟩
 ·simp [Value.cells] at hcs
  obtain ⟨rfl, rfl, rfl⟩ := hcs
  simp only [Prod.mk.injEq] at hx
  obtain ⟨rfl, rfl⟩ := hx
  simp only [if_true] at hz
  obtain ⟨ab, ao, spot⟩ := a
  by_cases hc0 : cap = 0
  ·subst hc0
   obtain rfl : len = 0 := by omega
   have hz0 : zs = [] := List.eq_nil_of_length_eq_zero (by simpa using hz)
   subst hz0
   exact finish [] (.inl ⟨rfl, _, _, rfl⟩) fun W' sp _ _ => ⟨2, shut_ints (zs := []) 0 Tryd.underlying22 Tryd.underlying5 cellsU (Nat.zero_le _) hl hmx (by simp) (fun i hi => by simp at hi) (fun n hn => by simp at hn)⟩
  have hspot : spot = none := by simpa [Addr.add] using World.cell?_spot (hcell 0 (by omega))
  subst hspot
  have hblk : ∃ C t fr, W.heap[ab]? = some (.cells C t fr) := by
   have h0 := hcell 0 (by omega)
   rw [Addr.add_lit] at h0
   cases hh : W.heap[ab]? with
   | none => simp [World.cell?, hh] at h0
   | some o =>
    cases o with
    | cells C t fr => exact ⟨C, t, fr, rfl⟩
    | _ => simp [World.cell?, hh] at h0
  obtain ⟨C, t, fr, hC⟩ := hblk
  refine finish ((zs.take len).map fun n => UInt8.ofNat n.toNat) (.inr ⟨ab, ao, cap, C, t, fr, ?_, hC, ?_⟩) fun W' sp hbel hsp => ?_
  ·have hlen : ((zs.take len).map fun n => UInt8.ofNat n.toNat).length = len := by simp; omega
   rw [hlen]
  ·intro i hi
   have hil : i < len := by simp at hi; omega
   have hci := hcell i (by omega)
   rw [Addr.add_lit, Zc hC] at hci
   rw [hci]
   have hb := range_u8 hwz i
   simp only [List.getElem_map, List.getElem_take]
   have e : zs.getD i 0 = zs[i]'(by omega) := by simp [List.getD, List.getElem?_eq_getElem (show i < zs.length by omega)]
   rw [List.getD_eq_getElem?_getD] at e
   rw [e] at hb
   rw [List.getD_eq_getElem?_getD, e]
   congr 2
   simp only [UInt8.toNat_ofNat']
   omega
  ·refine ⟨2, ?_⟩
   have hlt : ab < W.heap.size := lt_of_block hC
   have hspb : sp ab = true := hsp (.cell ab ao) (by simp only [MemPlace.row, List.mem_map, List.mem_range]; exact ⟨0, by omega, by simp⟩)
   exact shut_ints (a := ⟨ab, ao, none⟩) 0 Tryd.underlying22 Tryd.underlying5 cellsU (Nat.zero_le _) hl hmx (by rw [hspb]; simpa using hz) (fun i hi => by
    rw [<- hcell i hi, Addr.add_lit]
    exact World.cell?_of_block (hbel.block ab hlt)) hwz
abbrev errText : ByteArray := { data := #[114, 101, 115, 112, 111, 110, 115, 101, 32, 100, 105, 100, 32, 110, 111, 116, 32, 99, 111, 110, 116, 97, 105, 110, 32, 101, 110, 111, 117, 103, 104, 32, 100, 97, 116, 97, 32, 116, 111, 32, 98, 101, 32, 118, 97, 108, 105, 100] }
noncomputable def lowB : Nat := (World.holding Tryd.prog default ⟨#[], #[], []⟩).heap.size
noncomputable def laidWorld (os : Os) : World :=
 let w0 := World.holding Tryd.prog os ⟨#[.cells #[.string errText] 204], #[], []⟩
 { w0 with heap := w0.heap.modify gErr fun
   | .cells _ t frozen => .cells #[.iface 185 (.pointer (some ⟨lowB, 0, none⟩))] t frozen
   | o => o }
abbrev wArgs : Array Value := #[.slice none 0 0]
theorem laid_met (os : Os) : laidMet Tryd.prog Rows.fnUnsafeConnectMemberMetadataRow.laid ((laidWorld os).forCall (fun _ _ => 0) ⟨#[], wArgs, []⟩).memory :=
 laidMet_of_run' 8 (by kernel_rfl) (by kernel_rfl)
theorem reads (os : Os) {H : Type} (enc : TypeId × Value -> H) : ∃ places, DataW.whole enc Tryd.prog ((laidWorld os).forCall (fun _ _ => 0) ⟨#[], wArgs, []⟩).memory Tryd.f3.params.toList Rows.fnUnsafeConnectMemberMetadataSpec.vars false wArgs.toList 8 = some ([.nil], [], places) :=
 ⟨[], by kernel_rfl⟩
set_option maxRecDepth 100000 in
theorem lifted (os : Os) (started : os.Started) (H : Type) (enc : TypeId × Value -> H) (F : Stop.Interp) :
  ReturnsInHanded {} Tryd.checked os 3 .any ((OpenSpec.ofChange Rows.fnUnsafeConnectMemberMetadataSpec).preRow enc Tryd.prog Tryd.f3 Rows.fnUnsafeConnectMemberMetadataRow.domain false Rows.fnUnsafeConnectMemberMetadataRow.laid) (((OpenSpec.ofChange Rows.fnUnsafeConnectMemberMetadataSpec).at F).post enc Tryd.prog Tryd.f3 false true false false) := by
 obtain ⟨places, hx⟩ := reads os enc
 refine returnsInHanded_of_row (C := Tryd.checked) (s := OpenSpec.ofChange Rows.fnUnsafeConnectMemberMetadataSpec) own started (by kernel_rfl) Tryd.func3
  (witness_row_at (enc := enc) (C := Tryd.checked) false (laidWorld os) wArgs rfl (by kernel_rfl) (by kernel_rfl) (by kernel_rfl)
   (OpenSpec.preRow_of_cond 8 hx (by kernel_rfl) (fun k hk => by cases hk) (by kernel_rfl) (laid_met os))) ?_
 intro W base args ds gs before hval hW _ _ _ hL _ _
 exact contract H enc W base args ds gs before hval hW hL
set_option maxRecDepth 100000 in
theorem clo : Program.closure Tryd.prog 3 = [3, 8, 7, 22, 23, 41, 61, 63, 62, 99, 100, 101, 66, 102, 68, 103, 64, 65, 67, 25, 6, 19, 38, 20, 39, 55, 96, 56, 73, 97, 57, 58, 98, 112, 59, 69, 104, 60, 21, 40, 9, 24, 11, 10] := by kernel_rfl
set_option maxRecDepth 100000 in
theorem eP : Program.inPlace Tryd.prog 3 = [] := by unfold Program.inPlace; rw [clo]; kernel_rfl
set_option maxRecDepth 100000 in
theorem eU : Program.unfollowed Tryd.prog 3 = false := by unfold Program.unfollowed; rw [clo]; kernel_rfl
theorem eR : Program.recurses Tryd.prog 3 = true := by unfold Program.recurses; rw [eU]; kernel_rfl
set_option maxRecDepth 100000 in
theorem eV : Program.varsNamed Tryd.prog 3 = ["encoding/binary.BigEndian", "pub-mailsack/pub/kmsg/inner/kbin.ErrNotEnoughData"] := by unfold Program.varsNamed; rw [clo]; kernel_rfl
set_option maxRecDepth 100000 in
theorem eG : Program.goes Tryd.prog 3 = false := by unfold Program.goes; rw [clo, eU]; kernel_rfl
set_option maxRecDepth 100000 in
theorem facts : joinedFacts Tryd.prog 3 Tryd.f3 (OpenSpec.ofChange Rows.fnUnsafeConnectMemberMetadataSpec).bare Rows.fnUnsafeConnectMemberMetadataRow = true := by
 unfold joinedFacts
 rw [eP, eU, eR, eV]
 kernel_rfl
theorem said : Rows.FnUnsafeConnectMemberMetadataSaid :=
 OpenClaim.holds_of_cond 3 Tryd.f3 rfl rfl rfl rfl rfl rfl rfl ⟨rfl, rfl, rfl, rfl, rfl⟩ rfl rfl rfl rfl rfl (by kernel_rfl) Tryd.func3 facts
  (of_decide_eq_true (by kernel_rfl)) (by unfold Func.isWrapper; first | (rw [if_pos (by decide +kernel)]; kernel_rfl) | (rw [if_neg (by decide +kernel)]; exact ⟨rfl, rfl⟩))
  (fun os started H enc _ F => by rw [OpenClaim.pre_eq_preRow]; exact lifted os started H enc F)
theorem plain (f : FuncId) (fn : Func) (hf : Tryd.pinned.checked.prog.funcNamed "pub-mailsack/laws.FnUnsafeConnectMemberMetadata" = some f) (hfn : Tryd.pinned.checked.prog.funcs[f]? = some fn) :
  false = Tryd.pinned.checked.prog.looks [] /\ ∀ (j : Nat) t, fn.params[j]? = some t -> Tryd.pinned.checked.prog.wantsStandIn t = false := by
 obtain rfl : f = 3 := Option.some.inj ((show Tryd.prog.funcNamed "pub-mailsack/laws.FnUnsafeConnectMemberMetadata" = some 3 by kernel_rfl).symm.trans hf) |>.symm
 obtain rfl : fn = Tryd.f3 := (Option.some.inj (Tryd.func3.symm.trans hfn)).symm
 refine ⟨by kernel_rfl, fun j t ht => ?_⟩
 rw [Tryd.params3] at ht
 have : t = 22 := by simpa using Array.mem_of_getElem? ht
 subst this
 exact (show Tryd.prog.wantsStandIn 22 = false by kernel_rfl)
theorem card : Rows.FnUnsafeConnectMemberMetadataCardSaid :=
 Claim7.holds_tied_plain_at .later [] _ _ _ _ said (fun _ h => by cases h) (by kernel_rfl) (fun _ h => by cases h) fnUnsafeConnectMemberMetadata_row_tie rfl ⟨rfl, rfl⟩ (by kernel_rfl) rfl plain (goesBy_of (P := Tryd.prog) (f := 3) rfl (by kernel_rfl) eG)
end Go.Proofs.YtcldbjehliladaaDoor.CConnectMemberMetadata
