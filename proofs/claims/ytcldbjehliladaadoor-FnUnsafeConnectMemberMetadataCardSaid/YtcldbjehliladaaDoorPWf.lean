/-
  The writer of package spec: a value and a field of any kind.
-/
import Derived.Lib.Hide
import Derived.Test.YtcldbjehliladaaDoorPWy
import Derived.Test.YtcldbjehliladaaDoorPRg
import Derived.Test.YtcldbjehliladaaDoorPWc
set_option linter.unusedSimpArgs false
set_option linter.unusedVariables false
namespace Go.Proofs.YtcldbjehliladaaDoor
open Go Go.RowKit
set_option maxHeartbeats 1000000 in
theorem things_c {w0 w : World} {v : Value} {n : Nat} {f : Nat -> Nat -> Value} (h : ElemsI w0 v n 5 f) : Calls Tryd.prog 100 #[v] w fun e w' => w = w' /\ ∃ v', e = .returned v' /\ ElemsI w0 v' (min n 32767) 5 f := by
 obtain ⟨ao, cap, hv⟩ := h.slice
 have hcap : n ≠ 0 -> n <= cap := fun hn => by
  rcases h with ⟨h0, _⟩ | ⟨k, off, cap', C, t, fr, h1, h2, _⟩
  ·exact (hn h0).elim
  ·rw [hv] at h1
   obtain ⟨_, rfl⟩ : ao = some ⟨k, off, none⟩ /\ cap = cap' := by simpa using h1
   exact h2
 have hmin : (if (32767 : Int) < (n : Int) then (32767 : Int) else (n : Int)) = ((min n 32767 : Nat) : Int) := by split <;> omega
 refine calls_of_wp Tryd.func100 rfl ?_
 rw [Tryd.ntmps100]
 refine wp_act (fun a : Act => Act.get a 0 = v /\ a.tmps.size = 8 /\ a.defers = []) ⟨by rw [Zj _ _ _ (by simp)]; rfl, by simp, rfl⟩ ?_
 rintro a ⟨a0, aN, ad⟩
 refine wp_seq (wp_region_lit (Zv rfl Zi (wpList_nil ?_)))
 refine wp_seq (wp_region_lit (Zv rfl Zm (Zv rfl Zm (Zv rfl (x_len (by kernel_rfl) rfl (ao := ao) (cap := cap) (n := n) ?_) (Zv rfl (x_min (k := .i64) (k' := .i64) (m := (n : Nat)) (n := 32767) ?_ rfl)
  (Zv rfl (x_sliceH (e := 37) (sz := 5) (ao := ao) (n := n) (cap := cap) (k := .i64) (m := min n 32767) (by kernel_rfl) ?_ ?_ ?_) (Zv rfl Zi (wpList_nil ?_))))))))
 ·simp (disch := first | omega | simp only [Zs]; omega) only [Zo, Ze, Zn, Zq, a0, hv]
 ·simp (disch := first | omega | simp only [Zs]; omega) only [Zo, Ze, Zn, Zq]
 ·simp (disch := first | omega | simp only [Zs]; omega) only [Zo, Ze, Zn, Zq, a0, hv]
 ·simp (disch := first | omega | simp only [Zs]; omega) only [Zo, Ze, Zn, Zq]
  rw [hmin]
 ·by_cases hn : n = 0
  ·omega
  ·have := hcap hn; omega
 refine wp_act (c := .ret) (fun a : Act => Act.get a 2 = .slice ao (min n 32767) cap /\ a.defers = []) ⟨?_, ?_⟩ ?_
 ·simp (disch := first | omega | simp only [Zs]; omega) only [Zo, Ze, Zn, Zq]
 ·simp only [Zd]; exact ad
 rintro a9 ⟨z0, zd⟩
 refine wp_ret (bodyPost_ret (results_tmp rfl _ _ _) zd ⟨rfl, .slice ao (min n 32767) cap, congrArg Ending.returned z0, ?_⟩)
 rcases h with ⟨rfl, _, _, _⟩ | ⟨sb, off, cap', c, t, fr, h1, h2, h3, h4, h5⟩
 ·exact .inl ⟨by omega, ao, cap, by simp⟩
 ·rw [hv] at h1
  obtain ⟨rfl, rfl⟩ : ao = some ⟨sb, off, none⟩ /\ cap = cap' := by simpa using h1
  exact .inr ⟨sb, off, cap, c, t, fr, rfl, by omega, h3, h4, fun i hi => h5 i (by omega)⟩
set_option maxHeartbeats 1000000 in
/-- a value that is a part -/
theorem value_part {w : World} {ver : Int} {subv : Value} {nl flex : Bool} {cs : Array Value} {bs : List UInt8} (hcs : cs.size = 5) (hone : ∀ j, j < 5 -> (from' cs 0 j).oneCell' = true)
  (hP : ∀ W, Mod none' w W -> BytesC Tryd.prog 41 #[subv, .int .i64 ver, .bool flex, .agg cs] W bs) :
  BytesC Tryd.prog 102 #[.int .i64 10, subv, .bool nl, .int .i64 ver, .bool flex, .agg cs] w bs := by
 have e5 := arr5 hcs
 rw [e5] at hP ⊢
 generalize from' cs 0 = c at *
 clear hcs e5
 go_enter Tryd.func102, Tryd.ntmps102
 go_wp2_with (go_at_call 41; refine (hP _ ((Mod.refl w).alloc _)).mono ?_; rintro e w2 ⟨v2, rfl, hm2, ho2⟩)
 go_ret
 exact ⟨v2, rfl, ((Mod.refl w).alloc _).trans hm2, ho2.low (by simp)⟩
set_option maxRecDepth 100000 in
/-- 'out = append(out, value(f.Of, f.Sub, false, version, flex, l[i])...)' -/
theorem field_add {w0 w : World} {a : Act} {b4 k off n cap base i : Nat} {ver o : Int} {flex : Bool} {F C cs : Array Value} {sv : Value} {out bs : List UInt8} {T4 Tk : TypeId} {fr : Nat × Nat} {id : Nat} {y0 y1 y2 y3 y4 y5 y6 y7 y8 y9 y10 y11 y12 y13 : TypeId} {p0 p1 p2 p3 p4 p5 p6 p7 p8 p9 p10 p11 p12 p13 : String} {ts11 : Array TypeId}
  (hN : a.tmps.size = 76) (g1 : Act.get a 1 = .int .i64 ver) (g2 : Act.get a 2 = .bool flex) (g4 : Act.get a 4 = .pointer (some ⟨b4, 0, none⟩)) (g10 : Act.get a 10 = .slice (some ⟨k, off, none⟩) n cap) (g12 : Act.get a 12 = .int .i64 ((i : Nat) : Int))
  (h4 : w.heap[b4]? = some (.cells F T4 (0, 0))) (hF6 : F[0 + 6]? = some (.int .i64 o)) (hF7 : F[0 + 7]? = some sv) (hi : i < n) (hk : w.heap[k]? = some (.cells C Tk fr)) (hC : ∀ j v, cs.toList[j]? = some v -> C[off + i * 5 + j]? = some v) (hcs : cs.size = 5)
  (hown : OwnB w base (Act.get a 11) out) (hbw : base <= w.heap.size) (hnb : ∀ q, (Act.get a 11).ownBlock = some q -> q ≠ b4 /\ q ≠ k) (hm0 : Mod none' w0 w) (hbase : w0.heap.size <= base)
  (hF : ∀ W, Mod none' w0 W -> BytesC Tryd.prog 102 #[.int .i64 o, sv, .bool false, .int .i64 ver, .bool flex, .agg cs] W bs) (hsm : out.length + bs.length <= 4294967296) :
  (Code.region id #[⟨some 34, .move (.tmp 11), y0, p0, #[], none⟩,
   ⟨some 35, .fieldAddr 56 (.tmp 4) 6, y1, p1, #[], none⟩,
   ⟨some 36, .load 3 (.tmp 35), y2, p2, #[⟨1, .data⟩], none⟩,
   ⟨some 37, .fieldAddr 56 (.tmp 4) 7, y3, p3, #[], none⟩,
   ⟨some 38, .load 30 (.tmp 37), y4, p4, #[⟨3, .data⟩], none⟩,
   ⟨some 39, .move (.tmp 1), y5, p5, #[], none⟩,
   ⟨some 40, .move (.tmp 2), y6, p6, #[], none⟩,
   ⟨some 41, .move (.tmp 10), y7, p7, #[], none⟩,
   ⟨some 42, .move (.tmp 12), y8, p8, #[], none⟩,
   ⟨some 43, .indexAddr 34 (.tmp 41) (.tmp 42), y9, p9, #[⟨7, .data⟩, ⟨8, .data⟩], none⟩,
   ⟨some 44, .load 37 (.tmp 43), y10, p10, #[⟨9, .data⟩], none⟩,
   ⟨some 45, .call ⟨.value (.func 102), #[.tmp 36, .tmp 38, .const (.bool false), .tmp 39, .tmp 40, .tmp 44], ts11⟩, y11, p11, #[⟨2, .data⟩, ⟨4, .data⟩, ⟨5, .data⟩, ⟨6, .data⟩, ⟨10, .data⟩], none⟩,
   ⟨some 46, .call ⟨.builtin .append, #[.tmp 34, .tmp 45], #[22, 22]⟩, y12, p12, #[⟨0, .data⟩, ⟨11, .data⟩, ⟨11, .chain⟩], none⟩,
   ⟨some 11, .assign (.tmp 46), y13, p13, #[⟨12, .data⟩, ⟨12, .chain⟩, ⟨0, .phase⟩, ⟨1, .phase⟩, ⟨2, .phase⟩, ⟨3, .phase⟩, ⟨4, .phase⟩, ⟨5, .phase⟩, ⟨6, .phase⟩, ⟨7, .phase⟩, ⟨8, .phase⟩, ⟨9, .phase⟩, ⟨10, .phase⟩, ⟨11, .phase⟩, ⟨12, .phase⟩], none⟩] true).wp Tryd.prog
  (fun e a' w' => e = .normal /\ SameBut (fun t => t ∈ [34, 35, 36, 37, 38, 39, 40, 41, 42, 43, 44, 45, 46, 11]) a a' /\ Mod (fun k => (Act.get a 11).ownBlock = some k) w w' /\ OwnB w' base (Act.get a' 11) (out ++ bs) /\ ∀ k, (Act.get a' 11).ownBlock = some k -> (Act.get a 11).ownBlock = some k \/ w.heap.size <= k) a w := by
 obtain ⟨ov, hov⟩ : ∃ ov, ov = Act.get a 11 := ⟨_, rfl⟩
 rw [<- hov] at hown hnb ⊢
 have hub : ∀ k, ov.ownBlock = some k -> base <= k /\ k < w.heap.size := fun k hk => World.ownsRow.lt hown k hk
 have hM : ∀ W, Mod (fun k => ov.ownBlock = some k) w W -> Mod none' w0 W := fun W hm => hm0.trans' hm (fun _ _ f => f) (fun j hj e => by have := (hub j e).1; omega)
 refine region_rlq (l := [_, _, _, _, _, _, _, _, _, _, _, _, _]) (tl := [_]) rfl (Mod (fun k => ov.ownBlock = some k)) (fun a b h => h.none) (fun _ _ _ h h' => h.trans h') [34, 35, 36, 37, 38, 39, 40, 41, 42, 43, 44, 45, 46]
  [fun v _ => v = ov, fun v _ => v = .pointer (some ⟨b4, 0 + 6, none⟩), fun v _ => v = .int .i64 o, fun v _ => v = .pointer (some ⟨b4, 0 + 7, none⟩), fun v _ => v = sv, fun v _ => v = .int .i64 ver, fun v _ => v = .bool flex, fun v _ => v = .slice (some ⟨k, off, none⟩) n cap, fun v _ => v = .int .i64 ((i : Nat) : Int), fun v _ => v = .pointer (some ⟨k, off + i * 5, none⟩), fun v _ => v = .agg cs, fun v w' => OwnB w' w.heap.size v bs]
  (fun v w' => OwnB w' base v (out ++ bs) /\ ∀ k, v.ownBlock = some k -> ov.ownBlock = some k \/ w.heap.size <= k)
  ?_ ?_ (by simp [regFormT]) (by decide) (fun d hd => by rw [hN]; simp at hd; omega) (by simp) (by kernel_rfl) ⟨?_, ?_, ?_, ?_, ?_, ?_, ?_, ?_, ?_, ?_, ?_, ?_, ?_, trivial⟩ ?_
 ·intro g hg u1 w1 w2 hv hr
  simp only [List.mem_cons, List.not_mem_nil, or_false] at hg
  rcases hg with rfl | rfl | rfl | rfl | rfl | rfl | rfl | rfl | rfl | rfl | rfl | rfl
  ·exact hv
  ·exact hv
  ·exact hv
  ·exact hv
  ·exact hv
  ·exact hv
  ·exact hv
  ·exact hv
  ·exact hv
  ·exact hv
  ·exact hv
  ·exact hv.mod hr (fun k hk e => by have := (hub k e).2; omega)
 ·rintro u1 w1 w2 ⟨q1, q2⟩ hr
  exact ⟨q1.mod hr (fun _ _ f => f), q2⟩
 ·intro a1 w1 hr hp hs hd
  have t1 := (hs.get 11 (by decide)).trans hov.symm
  exact Zw (x_moveV t1) ⟨_, rfl, relp_ne (by rfl) (.refl _), rfl⟩
 ·intro a1 w1 hr hp hs hd
  have t1 := (hs.get 4 (by decide)).trans g4
  exact Zw (Za (o := 6) (by kernel_rfl) (b := b4) (o0 := 0) (by rw [Ze]; exact t1)) ⟨_, rfl, relp_ne (by rfl) (.refl _), rfl⟩
 ·intro a1 w1 hr hp hs hd
  have t1 : Act.get a1 35 = .pointer (some ⟨b4, 0 + 6, none⟩) := hd ⟨1, .data⟩ (by simp) rfl
  have k1 := hr.some h4 (fun e => (hnb _ e).1 rfl)
  exact Zw (Zl (by kernel_rfl) (b := b4) (o := 0 + 6) (v := .int .i64 o) (by rw [Ze]; exact t1) (by rw [Zc k1]; exact hF6)) ⟨_, rfl, relp_ne (by rfl) (.refl _), rfl⟩
 ·intro a1 w1 hr hp hs hd
  have t1 := (hs.get 4 (by decide)).trans g4
  exact Zw (Za (o := 7) (by kernel_rfl) (b := b4) (o0 := 0) (by rw [Ze]; exact t1)) ⟨_, rfl, relp_ne (by rfl) (.refl _), rfl⟩
 ·intro a1 w1 hr hp hs hd
  have t1 : Act.get a1 37 = .pointer (some ⟨b4, 0 + 7, none⟩) := hd ⟨3, .data⟩ (by simp) rfl
  have k1 := hr.some h4 (fun e => (hnb _ e).1 rfl)
  exact Zw (Zl (by kernel_rfl) (b := b4) (o := 0 + 7) (v := sv) (by rw [Ze]; exact t1) (by rw [Zc k1]; exact hF7)) ⟨_, rfl, relp_ne (by rfl) (.refl _), rfl⟩
 ·intro a1 w1 hr hp hs hd
  have t1 := (hs.get 1 (by decide)).trans g1
  exact Zw (x_moveV t1) ⟨_, rfl, relp_ne (by rfl) (.refl _), rfl⟩
 ·intro a1 w1 hr hp hs hd
  have t1 := (hs.get 2 (by decide)).trans g2
  exact Zw (x_moveV t1) ⟨_, rfl, relp_ne (by rfl) (.refl _), rfl⟩
 ·intro a1 w1 hr hp hs hd
  have t1 := (hs.get 10 (by decide)).trans g10
  exact Zw (x_moveV t1) ⟨_, rfl, relp_ne (by rfl) (.refl _), rfl⟩
 ·intro a1 w1 hr hp hs hd
  have t1 := (hs.get 12 (by decide)).trans g12
  exact Zw (x_moveV t1) ⟨_, rfl, relp_ne (by rfl) (.refl _), rfl⟩
 ·intro a1 w1 hr hp hs hd
  have t1 : Act.get a1 41 = .slice (some ⟨k, off, none⟩) (n) (cap) := hd ⟨7, .data⟩ (by simp) rfl
  have t2 : Act.get a1 42 = .int .i64 ((i : Nat) : Int) := hd ⟨8, .data⟩ (by simp) rfl
  exact Zw (Zx (sz := 5) (i := i) (b := k) (o := off) (n := n) (cap := cap) (k := .i64) (by kernel_rfl) (by rw [Ze]; exact t1) (by rw [Ze]; exact t2) hi) ⟨_, rfl, relp_ne (by rfl) (.refl _), rfl⟩
 ·intro a1 w1 hr hp hs hd
  have t1 : Act.get a1 43 = .pointer (some ⟨k, off + i * 5, none⟩) := hd ⟨9, .data⟩ (by simp) rfl
  have k1 := hr.some hk (fun e => (hnb _ e).2 rfl)
  refine Zw (x_loadN (cs := cs.toList) (b := k) (o := off + i * 5) (by rw [Array.length_toList, hcs]; kernel_rfl) (by rw [Ze]; exact t1) (fun j v hv => by rw [Zc k1]; exact hC j v hv)) ⟨_, rfl, relp_ne (by rfl) (.refl _), by simp⟩
 ·intro a1 w1 hr hp hs hd
  have t2 : Act.get a1 36 = .int .i64 o := hd ⟨2, .data⟩ (by simp) rfl
  have t4 : Act.get a1 38 = sv := hd ⟨4, .data⟩ (by simp) rfl
  have t5 : Act.get a1 39 = .int .i64 ver := hd ⟨5, .data⟩ (by simp) rfl
  have t6 : Act.get a1 40 = .bool flex := hd ⟨6, .data⟩ (by simp) rfl
  have t10 : Act.get a1 44 = .agg cs := hd ⟨10, .data⟩ (by simp) rfl
  have e1 : (#[.tmp 36, .tmp 38, .const (.bool false), .tmp 39, .tmp 40, .tmp 44] : Array Operand).map a1.eval = #[.int .i64 o, sv, .bool false, .int .i64 ver, .bool flex, .agg cs] := by simp [Ze, t2, t4, t5, t6, t10]; rfl
  refine owp_call (Zy (by kernel_rfl) rfl) (R := fun e w' => ∃ v, e = .returned v /\ Mod none' w1 w' /\ OwnB w' w1.heap.size v bs) ?_ ?_
  ·rw [e1]
   exact hF _ (hM _ hr)
  ·rintro e w2 ⟨v, rfl, hm, ho⟩
   exact ⟨_, rfl, _, rfl, relp_ne (by rfl) hm, ho.low hr.size⟩
 ·intro a1 w1 hr hp hs hd
  have t0 : Act.get a1 34 = ov := hd ⟨0, .data⟩ (by simp) rfl
  have t7 : OwnB w1 w.heap.size (Act.get a1 45) bs := hd ⟨11, .data⟩ (by simp) rfl
  have hpm := hp rfl
  obtain ⟨nl', _, ho7⟩ := t7.oct
  have hsz := hpm.size
  obtain ⟨v', w2, hrun, k1, k2, k3⟩ := x_octs (P := Tryd.prog) (ρ := a1.eval) (w := w1) (d := some 46) (ty := y12) (p := p12) (af := #[⟨0, .data⟩, ⟨11, .data⟩, ⟨11, .chain⟩]) (g := none) (s := .tmp 34) (x := .tmp 45) (base := base) (bs := out) (cs := bs) octs_info (by rw [Ze]; exact t0) rfl (hown.mod hpm (fun _ _ f => f)) (OctI.of_oct ho7) (by omega) (by have := hm0.size; omega)
  refine Zw hrun ⟨_, rfl, relp_eq k2, k1, fun k hk' => ?_⟩
  rcases k3 k hk' with h | h
  ·exact .inl h
  ·exact .inr (by omega)
 ·intro a1 w1 hr hs hh
  obtain ⟨q1, q2⟩ : OwnB w1 base (Act.get a1 46) (out ++ bs) /\ ∀ k, (Act.get a1 46).ownBlock = some k -> ov.ownBlock = some k \/ w.heap.size <= k := hh 12 (by simp)
  refine Zv rfl Zi (wpList_nil ⟨rfl, ?_, hr, ?_, ?_⟩)
  ·exact (hs.sub (by decide)).puts (by decide) _
  ·rw [Zq (by rw [hs.size, hN]; decide), Ze]; exact q1
  ·rw [Zq (by rw [hs.size, hN]; decide), Ze]; exact q2
set_option maxRecDepth 100000 in
set_option maxHeartbeats 4000000 in
/-- a field that is a list -/
theorem field_list {w : World} {fr to nl g d o ver : Int} {sub : List FD} {sv : Value} {flex : Bool} {cs : Array Value} {t : Tr} (hcs : cs.size = 5) (ht : TreeI w (from' cs 0) t) (hlen : (fieldW (.mk 11 fr to nl g d o sub) ver flex t).length <= 4294967295)
  (hV : ∀ W x ca, Mod none' w W -> ca.size = 5 -> TreeI W (from' ca 0) x -> x ∈ t.L -> (elE o sub ver flex x).length <= 4294967295 -> BytesC Tryd.prog 102 #[.int .i64 o, sv, .bool false, .int .i64 ver, .bool flex, .agg ca] W (elE o sub ver flex x)) :
  BytesC Tryd.prog 62 #[.agg #[.int .i64 11, .int .i64 fr, .int .i64 to, .int .i64 nl, .int .i64 g, .int .i64 d, .int .i64 o, sv], .int .i64 ver, .bool flex, .agg cs] w (fieldW (.mk 11 fr to nl g d o sub) ver flex t) := by
 have e5 := arr5 hcs
 have hone := ht.one
 obtain ⟨n, z, h0, h2, hz⟩ : ∃ n z, (from' cs 0) 0 = .int .i64 n /\ (from' cs 0) 2 = .bool z /\ t.Z = z := by
  cases ht with
  | mk h0 hn h1 h2 h3 h3' h4 h4' => exact ⟨_, _, h0, h2, rfl⟩
 obtain ⟨lf, hE, hL⟩ := ht.L
 obtain ⟨la, lc, e3⟩ := hE.slice
 generalize from' cs 0 = c at *
 rw [h0, h2, e3] at e5
 subst e5
 have hfw : fieldW (.mk 11 fr to nl g d o sub) ver flex t = counted flex (nullW nl ver t) (if nullW nl ver t then [] else t.L.take 32767).length 4 ++ (if nullW nl ver t then [] else t.L.take 32767).flatMap (elE o sub ver flex) := by
  simp only [fieldW, if_true]; rfl
 rw [hfw] at hlen ⊢
 cases hb0 : nullW nl ver t with
 | true =>
  simp only [if_true, List.length_nil, List.flatMap_nil, List.append_nil]
  go_enter Tryd.func62, Tryd.ntmps62
  go_wp2_with (first | (go_at_call 99; refine null_c.mono ?_; rintro e w1 ⟨b, rfl, hb, hm1⟩; obtain ⟨hA, hB⟩ := two_boxes hm1; have hbb : b = true := (nullW_iff (t := t) (by rw [hz]; exact hb)).trans hb0; subst hbb; clear hb; have qa0 : w1.cell? ⟨w.heap.size, 0, none⟩ = some (.int .i64 11) := (Zc hA).trans rfl; have qa3 : w1.cell? ⟨w.heap.size, 3, none⟩ = some (.int .i64 nl) := (Zc hA).trans rfl; have qa7 : w1.cell? ⟨w.heap.size, 7, none⟩ = some sv := (Zc hA).trans rfl; have qb0 : w1.cell? ⟨w.heap.size + 1, 0, none⟩ = some (.int .i64 n) := (Zc hB).trans rfl; have qb1 : w1.cell? ⟨w.heap.size + 1, 1, none⟩ = some (c 1) := (Zc hB).trans rfl; have qb2 : w1.cell? ⟨w.heap.size + 1, 2, none⟩ = some (.bool z) := (Zc hB).trans rfl; have qb3 : w1.cell? ⟨w.heap.size + 1, 3, none⟩ = some (.slice la t.L.length lc) := (Zc hB).trans rfl; have qb4 : w1.cell? ⟨w.heap.size + 1, 4, none⟩ = some (c 4) := (Zc hB).trans rfl) | (go_at_call 100; refine (things_c (e3 ▸ hE)).mono ?_; rintro e w2 ⟨rfl, v2, rfl, hE2⟩; obtain ⟨a2, c2, rfl⟩ := hE2.slice) | (go_at_call 101; refine (counted_c (n := 0) (size := 4) (by omega) (by omega)).mono ?_; rintro e w3 ⟨v3, rfl, hm3, ho3⟩))
  rename_i K hK
  refine wp_range (n := 0) (S := [11, 12, 31, 32, 33, 34, 35, 36, 37, 38, 39, 40, 41, 42, 43, 44, 45, 46, 47]) (I := fun i a w' => Act.get a 11 = v3 /\ w3 = w') rfl rfl (by omega) rfl ⟨rfl, rfl⟩ ?_ ?_ ?_
  ·rintro i a a' w' hs ⟨q1, q2⟩
   exact ⟨(hs.at rfl).trans q1, q2⟩
  ·intro i a w' hi
   omega
  ·rintro a w' hs ⟨q1, rfl⟩
   have q8 : Act.get a 8 = .slice none 0 0 := (hs.at rfl).trans rfl
   have hsz : a.tmps.size = 76 := hs.size.trans rfl
   have hdf : a.defers = [] := hs.defers.trans rfl
   refine hK a _ (wp_seq (wp_region_lit (Zv rfl Zm (Zv rfl Zi (wpList_nil ?_)))))
   refine wp_ret ?_
   simp only [Exit.then]
   refine bodyPost_ret (results_tmp rfl _ _ _) hdf ⟨v3, ?_, ((((Mod.refl w).alloc _).alloc _).trans hm1).trans hm3, ho3.low (by have := hm1.size; simp at this; omega)⟩
   refine congrArg Ending.returned (Eq.trans (Zq (by simp only [Zs]; omega)) ?_)
   rw [Ze, Zq (by omega), Ze]; exact q1
 | false =>
  simp only [hb0, Bool.false_eq_true, if_false] at hlen ⊢
  obtain ⟨l, hl⟩ : ∃ l, l = t.L.take 32767 := ⟨_, rfl⟩
  have hll : l.length = min t.L.length 32767 := by rw [hl]; simp; omega
  rw [<- hl] at hlen ⊢
  have hl7 : l.length <= 32767 := by omega
  have HL := Lib.hid hl
  have HLL := Lib.hid hll
  have HLEN := Lib.hid hlen
  clear hl hll hlen hfw
  go_enter Tryd.func62, Tryd.ntmps62
  go_wp2_with (first | (go_at_call 99; refine null_c.mono ?_; rintro e w1 ⟨b, rfl, hb, hm1⟩; obtain ⟨hA, hB⟩ := two_boxes hm1; have hbb : b = false := (nullW_iff (t := t) (by rw [hz]; exact hb)).trans hb0; subst hbb; clear hb; have qa0 : w1.cell? ⟨w.heap.size, 0, none⟩ = some (.int .i64 11) := (Zc hA).trans rfl; have qa3 : w1.cell? ⟨w.heap.size, 3, none⟩ = some (.int .i64 nl) := (Zc hA).trans rfl; have qa7 : w1.cell? ⟨w.heap.size, 7, none⟩ = some sv := (Zc hA).trans rfl; have qb0 : w1.cell? ⟨w.heap.size + 1, 0, none⟩ = some (.int .i64 n) := (Zc hB).trans rfl; have qb1 : w1.cell? ⟨w.heap.size + 1, 1, none⟩ = some (c 1) := (Zc hB).trans rfl; have qb2 : w1.cell? ⟨w.heap.size + 1, 2, none⟩ = some (.bool z) := (Zc hB).trans rfl; have qb3 : w1.cell? ⟨w.heap.size + 1, 3, none⟩ = some (.slice la t.L.length lc) := (Zc hB).trans rfl; have qb4 : w1.cell? ⟨w.heap.size + 1, 4, none⟩ = some (c 4) := (Zc hB).trans rfl) | (go_at_call 100; refine (things_c (e3 ▸ hE)).mono ?_; rintro e w2 ⟨rfl, v2, rfl, hE2⟩; rw [<- HLL.out] at hE2; obtain ⟨a2, c2, rfl⟩ := hE2.slice) | (go_at_call 101; refine (counted_c (n := l.length) (size := 4) (by omega) (by omega)).mono ?_; rintro e w3 ⟨v3, rfl, hm3, ho3⟩))
  have hl := HL.out
  have hll := HLL.out
  have hlen := HLEN.out
  clear HL HLL HLEN
  rename_i K hK
  have hm01 : Mod none' w w1 := (((Mod.refl w).alloc _).alloc _).trans hm1
  have hw1 := hm1.size
  have hw3 := hm3.size
  simp at hw1
  refine wp_range (n := l.length) (S := [11, 12, 31, 32, 33, 34, 35, 36, 37, 38, 39, 40, 41, 42, 43, 44, 45, 46, 47]) (I := fun i a w' => Mod none' w1 w' /\ OwnB w' w1.heap.size (Act.get a 11) (counted flex false l.length 4 ++ (l.take i).flatMap (elE o sub ver flex))) rfl rfl (by omega) rfl ⟨hm3, ?_⟩ ?_ ?_ ?_
  ·rw [List.take_zero, List.flatMap_nil, List.append_nil]; exact ho3
  ·rintro i a a' w' hs ⟨q1, q2⟩
   exact ⟨q1, by rw [hs.at rfl]; exact q2⟩
  ·rintro i a w' hi hs hti ⟨q1, q2⟩
   have hsz : a.tmps.size = 76 := hs.size.trans rfl
   have hE2' : ElemsI w' (.slice a2 l.length c2) l.length 5 lf := hE2.mod (hm01.trans q1)
   obtain ⟨k, off, rfl, C, Tk, fr', hC1, hC2⟩ : ∃ k off, a2 = some ⟨k, off, none⟩ /\ ∃ C T fr, w'.heap[k]? = some (.cells C T fr) /\ ∀ i, i < l.length -> ∀ j, j < 5 -> C[off + i * 5 + j]? = some (lf i j) := by
    rcases hE2' with ⟨h0', _⟩ | ⟨k, off, cap, C, T, fr', r1, r2, r3, r4, r5⟩
    ·omega
    ·obtain ⟨rfl, rfl⟩ : a2 = some ⟨k, off, none⟩ /\ c2 = cap := by simpa using r1
     exact ⟨k, off, rfl, C, T, fr', r4, r5⟩
   have hkw : k < w.heap.size := by
    rcases hE2 with ⟨h0', _⟩ | ⟨k', off', cap, C', T, fr'', r1, r2, r3, r4, r5⟩
    ·omega
    ·obtain ⟨⟨rfl, rfl⟩, rfl⟩ : (k = k' /\ off = off') /\ c2 = cap := by simpa using r1
     exact lt_of_block r4
   have hit : i < t.L.length := by omega
   have hil : l[i]? = some t.L[i] := by rw [hl, List.getElem?_take, if_pos (by omega), List.getElem?_eq_getElem hit]
   have hil' : l[i] = t.L[i] := by rw [List.getElem?_eq_getElem hi] at hil; exact Option.some.inj hil
   obtain ⟨cx, hcx⟩ : ∃ cx : Array Value, cx = #[lf i 0, lf i 1, lf i 2, lf i 3, lf i 4] := ⟨_, rfl⟩
   have hcx5 : cx.size = 5 := by rw [hcx]; rfl
   have hTx : TreeI w (from' cx 0) t.L[i] := (hL i hit).congr fun j hj => by
    rw [hcx]
    rcases (by omega : j = 0 \/ j = 1 \/ j = 2 \/ j = 3 \/ j = 4) with rfl | rfl | rfl | rfl | rfl <;> rfl
   have hfl : (l.take (i + 1)).flatMap (elE o sub ver flex) = (l.take i).flatMap (elE o sub ver flex) ++ elE o sub ver flex t.L[i] := by
    rw [List.take_succ_eq_append_getElem hi, hil']; simp
   have hsum : (l.take (i + 1)).flatMap (elE o sub ver flex) ++ (l.drop (i + 1)).flatMap (elE o sub ver flex) = l.flatMap (elE o sub ver flex) := by rw [<- List.flatMap_append, List.take_append_drop]
   have hsz1 := congrArg List.length hsum
   rw [hfl] at hsz1
   simp only [List.length_append] at hsz1 hlen
   refine wp_seq (wp_region_lit (Zv rfl Zm (Zv rfl Zi (wpList_nil ?_))))
   refine wp_mono (field_add (w0 := w1) (b4 := w.heap.size) (k := k) (off := off) (n := l.length) (cap := c2) (base := w1.heap.size) (i := i) (ver := ver) (o := o) (flex := flex) (cs := cx) (sv := sv) (out := counted flex false l.length 4 ++ (l.take i).flatMap (elE o sub ver flex)) (bs := elE o sub ver flex t.L[i])
    (by simp only [Zs]; exact hsz) ?_ ?_ ?_ ?_ ?_ (q1.some hA (fun f => f)) rfl rfl hi hC1 ?_ hcx5 ?_ (by have := q1.size; omega) ?_ q1 (by have := q1.size; omega) ?_ ?_) ?_
   ·simp (disch := first | omega | simp only [Zs]; omega) only [Zo, Ze, Zn, Zq, (show Act.get a 1 = .int .i64 ver from (hs.at rfl).trans rfl)]
   ·simp (disch := first | omega | simp only [Zs]; omega) only [Zo, Ze, Zn, Zq, (show Act.get a 2 = .bool flex from (hs.at rfl).trans rfl)]
   ·simp (disch := first | omega | simp only [Zs]; omega) only [Zo, Ze, Zn, Zq, (show Act.get a 4 = .pointer (some ⟨w.heap.size, 0, none⟩) from (hs.at rfl).trans rfl)]
   ·simp (disch := first | omega | simp only [Zs]; omega) only [Zo, Ze, Zn, Zq, (show Act.get a 10 = .slice (some ⟨k, off, none⟩) l.length c2 from (hs.at rfl).trans rfl)]
   ·simp (disch := first | omega | simp only [Zs]; omega) only [Zo, Ze, Zn, Zq, hti]
   ·intro j v hv
    have hj : j < 5 := by
     have := (List.getElem?_eq_some_iff.1 hv).1
     simp [hcx] at this; omega
    rw [hC2 i hi j hj, <- hv, hcx]
    rcases (by omega : j = 0 \/ j = 1 \/ j = 2 \/ j = 3 \/ j = 4) with rfl | rfl | rfl | rfl | rfl <;> rfl
   ·rw [show Act.get ((a.put (some 33) (a.eval (.tmp 31))).put (some 12) ((a.put (some 33) (a.eval (.tmp 31))).eval (.tmp 33))) 11 = Act.get a 11 by simp (disch := first | omega | simp only [Zs]; omega) only [Zo, Ze, Zn, Zq]]
    exact q2
   ·intro q hq
    rw [show Act.get ((a.put (some 33) (a.eval (.tmp 31))).put (some 12) ((a.put (some 33) (a.eval (.tmp 31))).eval (.tmp 33))) 11 = Act.get a 11 by simp (disch := first | omega | simp only [Zs]; omega) only [Zo, Ze, Zn, Zq]] at hq
    have := World.ownsRow.lt q2 q hq
    omega
   ·intro W hm
    exact hV W t.L[i] cx (hm01.trans hm) hcx5 (hTx.mod (hm01.trans hm)) (List.getElem_mem hit) (by omega)
   ·simp only [List.length_append]; omega
   ·rintro e a2 w5 ⟨rfl, hs2, hm5, ho5, hob⟩
    have hs3 : SameBut (fun t => t ∈ [11, 12, 31, 32, 33, 34, 35, 36, 37, 38, 39, 40, 41, 42, 43, 44, 45, 46, 47]) a a2 := (((SameBut.refl a).puts (by decide) _).puts (by decide) _).trans (hs2.sub (by decide))
    refine Round.next ⟨hs.trans hs3, ?_, q1.trans' hm5 (fun _ _ f => f) (fun q hq e => ?_), ?_⟩
    ·rw [hs2.at rfl]; simp (disch := first | omega | simp only [Zs]; omega) only [Zo, Ze, Zn, Zq, hti]
    ·rw [show Act.get ((a.put (some 33) (a.eval (.tmp 31))).put (some 12) ((a.put (some 33) (a.eval (.tmp 31))).eval (.tmp 33))) 11 = Act.get a 11 by simp (disch := first | omega | simp only [Zs]; omega) only [Zo, Ze, Zn, Zq]] at e
     have := World.ownsRow.lt q2 q e
     omega
    ·rw [hfl, <- List.append_assoc]; exact ho5
  ·rintro a w' hs ⟨q1, q2⟩
   rw [List.take_length] at q2
   have hsz : a.tmps.size = 76 := hs.size.trans rfl
   have hdf : a.defers = [] := hs.defers.trans rfl
   refine hK a _ (wp_seq (wp_region_lit (Zv rfl Zm (Zv rfl Zi (wpList_nil ?_)))))
   refine wp_ret ?_
   simp only [Exit.then]
   refine bodyPost_ret (results_tmp rfl _ _ _) hdf ⟨Act.get a 11, ?_, hm01.trans q1, q2.low (by omega)⟩
   refine congrArg Ending.returned (Eq.trans (Zq (by simp only [Zs]; omega)) ?_)
   rw [Ze, Zq (by omega), Ze]
set_option maxRecDepth 100000 in
/-- 'return append(Fixed(1, 1), part(f.Sub, version, flex, t)...)' -/
theorem field_join {w : World} {a : Act} {b4 b7 : Nat} {ver : Int} {flex : Bool} {F cs : Array Value} {sv : Value} {bs : List UInt8} {T4 T7 : TypeId} {id : Nat} {y0 y1 y2 y3 y4 y5 y6 y7 y8 : TypeId} {p0 p1 p2 p3 p4 p5 p6 p7 p8 : String} {ts0 ts6 : Array TypeId}
  (hN : a.tmps.size = 76) (g1 : Act.get a 1 = .int .i64 ver) (g2 : Act.get a 2 = .bool flex) (g4 : Act.get a 4 = .pointer (some ⟨b4, 0, none⟩)) (g7 : Act.get a 7 = .pointer (some ⟨b7, 0, none⟩))
  (h4 : w.heap[b4]? = some (.cells F T4 (0, 0))) (hF7 : F[0 + 7]? = some sv) (h7 : w.heap[b7]? = some (.cells cs T7 (0, 0))) (hcs : cs.size = 5)
  (hF : ∀ W, Mod none' w W -> BytesC Tryd.prog 41 #[sv, .int .i64 ver, .bool flex, .agg cs] W bs) (hsm : 1 + bs.length <= 4294967296) :
  (Code.region id #[⟨some 59, .call ⟨.value (.func 22), #[.const (.int .i64 1), .const (.int .i64 1)], ts0⟩, y0, p0, #[], none⟩,
   ⟨some 60, .fieldAddr 56 (.tmp 4) 7, y1, p1, #[], none⟩,
   ⟨some 61, .load 30 (.tmp 60), y2, p2, #[⟨1, .data⟩], none⟩,
   ⟨some 62, .move (.tmp 1), y3, p3, #[], none⟩,
   ⟨some 63, .move (.tmp 2), y4, p4, #[], none⟩,
   ⟨some 64, .load 37 (.tmp 7), y5, p5, #[], none⟩,
   ⟨some 65, .call ⟨.value (.func 41), #[.tmp 61, .tmp 62, .tmp 63, .tmp 64], ts6⟩, y6, p6, #[⟨2, .data⟩, ⟨3, .data⟩, ⟨4, .data⟩, ⟨5, .data⟩, ⟨0, .chain⟩], none⟩,
   ⟨some 66, .call ⟨.builtin .append, #[.tmp 59, .tmp 65], #[22, 22]⟩, y7, p7, #[⟨0, .data⟩, ⟨6, .data⟩, ⟨6, .chain⟩], none⟩,
   ⟨some 8, .assign (.tmp 66), y8, p8, #[⟨7, .data⟩, ⟨7, .chain⟩, ⟨0, .phase⟩, ⟨1, .phase⟩, ⟨2, .phase⟩, ⟨3, .phase⟩, ⟨4, .phase⟩, ⟨5, .phase⟩, ⟨6, .phase⟩, ⟨7, .phase⟩], none⟩] true).wp Tryd.prog
  (fun e a' w' => e = .normal /\ Mod none' w w' /\ a'.defers = a.defers /\ OwnB w' w.heap.size (Act.get a' 8) (fixedE 1 1 ++ bs)) a w := by
 refine region_rlq (l := [_, _, _, _, _, _, _]) (tl := [_, _]) rfl (Mod none') (fun a b h => h) (fun _ _ _ h h' => h.trans h') [59, 60, 61, 62, 63, 64, 65]
  [fun v w' => OwnB w' w.heap.size v (fixedE 1 1), fun v _ => v = .pointer (some ⟨b4, 0 + 7, none⟩), fun v _ => v = sv, fun v _ => v = .int .i64 ver, fun v _ => v = .bool flex, fun v _ => v = .agg (cs)]
  (fun v w' => OwnB w' w.heap.size v bs)
  ?_ ?_ (by simp [regFormT]) (by decide) (fun d hd => by rw [hN]; simp at hd; omega) (by simp) (by kernel_rfl) ⟨?_, ?_, ?_, ?_, ?_, ?_, ?_, trivial⟩ ?_
 ·intro g hg u1 w1 w2 hv hr
  simp only [List.mem_cons, List.not_mem_nil, or_false] at hg
  rcases hg with rfl | rfl | rfl | rfl | rfl | rfl
  ·exact hv.mod hr (fun _ _ f => f)
  ·exact hv
  ·exact hv
  ·exact hv
  ·exact hv
  ·exact hv
 ·intro u1 w1 w2 hv hr
  exact hv.mod hr (fun _ _ f => f)
 ·intro a1 w1 hr hp hs hd
  refine owp_call (Zy (by kernel_rfl) rfl) (R := fun e w' => ∃ v, e = .returned v /\ Mod none' w1 w' /\ OwnB w' w1.heap.size v (fixedE 1 1)) ?_ ?_
  ·have e1 : (#[.const (.int .i64 1), .const (.int .i64 1)] : Array Operand).map a1.eval = #[.int .i64 1, .int .i64 ((1 : Nat) : Int)] := by simp [BigFrame.eval_const]
   rw [e1]
   exact fixed_c (by omega)
  ·rintro e w2 ⟨v, rfl, hm, ho⟩
   exact ⟨_, rfl, _, rfl, relp_ne (by rfl) hm, ho.low hr.size⟩
 ·intro a1 w1 hr hp hs hd
  have t1 := (hs.get 4 (by decide)).trans g4
  exact Zw (Za (o := 7) (by kernel_rfl) (b := b4) (o0 := 0) (by rw [Ze]; exact t1)) ⟨_, rfl, relp_ne (by rfl) (.refl _), rfl⟩
 ·intro a1 w1 hr hp hs hd
  have t1 : Act.get a1 60 = .pointer (some ⟨b4, 0 + 7, none⟩) := hd ⟨1, .data⟩ (by simp) rfl
  have k1 := hr.some h4 (fun f => f)
  exact Zw (Zl (by kernel_rfl) (b := b4) (o := 0 + 7) (v := sv) (by rw [Ze]; exact t1) (by rw [Zc k1]; exact hF7)) ⟨_, rfl, relp_ne (by rfl) (.refl _), rfl⟩
 ·intro a1 w1 hr hp hs hd
  have t1 := (hs.get 1 (by decide)).trans g1
  exact Zw (x_moveV t1) ⟨_, rfl, relp_ne (by rfl) (.refl _), rfl⟩
 ·intro a1 w1 hr hp hs hd
  have t1 := (hs.get 2 (by decide)).trans g2
  exact Zw (x_moveV t1) ⟨_, rfl, relp_ne (by rfl) (.refl _), rfl⟩
 ·intro a1 w1 hr hp hs hd
  have t1 := (hs.get 7 (by decide)).trans g7
  have k1 := hr.some h7 (fun f => f)
  refine Zw (x_loadN (cs := (cs).toList) (b := b7) (o := 0) (by rw [Array.length_toList, hcs]; kernel_rfl) (by rw [Ze]; exact t1) (fun j v hv => by rw [Zc k1, Nat.zero_add]; simpa using hv)) ⟨_, rfl, relp_ne (by rfl) (.refl _), by simp⟩
 ·intro a1 w1 hr hp hs hd
  have t2 : Act.get a1 61 = sv := hd ⟨2, .data⟩ (by simp) rfl
  have t3 : Act.get a1 62 = .int .i64 ver := hd ⟨3, .data⟩ (by simp) rfl
  have t4 : Act.get a1 63 = .bool flex := hd ⟨4, .data⟩ (by simp) rfl
  have t5 : Act.get a1 64 = .agg cs := hd ⟨5, .data⟩ (by simp) rfl
  have e1 : (#[.tmp 61, .tmp 62, .tmp 63, .tmp 64] : Array Operand).map a1.eval = #[sv, .int .i64 ver, .bool flex, .agg cs] := by simp [Ze, t2, t3, t4, t5]
  refine owp_call (Zy (by kernel_rfl) rfl) (R := fun e w' => ∃ v, e = .returned v /\ Mod none' w1 w' /\ OwnB w' w1.heap.size v bs) ?_ ?_
  ·rw [e1]
   exact hF _ hr
  ·rintro e w2 ⟨v, rfl, hm, ho⟩
   exact ⟨_, rfl, _, rfl, relp_eq hm, ho.low hr.size⟩
 ·intro a1 w1 hr hs hh
  have q0 : OwnB w1 w.heap.size (Act.get a1 59) (fixedE 1 1) := hh 0 (by simp)
  have q6 : OwnB w1 w.heap.size (Act.get a1 65) bs := hh 6 (by simp)
  obtain ⟨nl', _, ho7⟩ := q6.oct
  refine wpl_octs (base := w.heap.size) (v := Act.get a1 59) (xv := Act.get a1 65) (bs := fixedE 1 1) (cs := bs) octs_info rfl rfl q0 (OctI.of_oct ho7) (by rw [fixedE_length]; exact hsm) (by have := hr.size; omega) ?_
  intro v' w' ho hm'
  refine Zv rfl Zi (wpList_nil ⟨rfl, Mod.fresh hr hm', ?_, ?_⟩)
  ·simp only [Zd]; exact hs.defers
  ·rw [Zq (by simp only [Zs]; rw [hs.size, hN]; decide), Ze, Zq (by rw [hs.size, hN]; decide)]; exact ho
set_option maxRecDepth 100000 in
set_option maxHeartbeats 4000000 in
/-- a field that is a part -/
theorem field_part {w : World} {fr to nl g d o ver : Int} {sub : List FD} {sv : Value} {flex : Bool} {cs : Array Value} {t : Tr} (hcs : cs.size = 5) (ht : TreeI w (from' cs 0) t) (hlen : (fieldW (.mk 10 fr to nl g d o sub) ver flex t).length <= 4294967295)
  (hP : ∀ W, Mod none' w W -> (partW sub ver flex t).length <= 4294967295 -> BytesC Tryd.prog 41 #[sv, .int .i64 ver, .bool flex, .agg cs] W (partW sub ver flex t)) :
  BytesC Tryd.prog 62 #[.agg #[.int .i64 10, .int .i64 fr, .int .i64 to, .int .i64 nl, .int .i64 g, .int .i64 d, .int .i64 o, sv], .int .i64 ver, .bool flex, .agg cs] w (fieldW (.mk 10 fr to nl g d o sub) ver flex t) := by
 have e5 := arr5 hcs
 have hone := ht.one
 obtain ⟨n, z, h0, h2, hz⟩ : ∃ n z, (from' cs 0) 0 = .int .i64 n /\ (from' cs 0) 2 = .bool z /\ t.Z = z := by
  cases ht with
  | mk h0 hn h1 h2 h3 h3' h4 h4' => exact ⟨_, _, h0, h2, rfl⟩
 have hfw : fieldW (.mk 10 fr to nl g d o sub) ver flex t = if 0 <= nl then (if nullW nl ver t = true then fixedE (-1) 1 else fixedE 1 1 ++ partW sub ver flex t) else partW sub ver flex t := by
  simp only [fieldW, show ¬ (10 : Int) = 11 by decide, if_false, if_true]; rfl
 generalize from' cs 0 = c at *
 rw [h0, h2] at e5
 rw [hfw] at hlen ⊢
 obtain ⟨bs, hbs⟩ : ∃ bs, bs = partW sub ver flex t := ⟨_, rfl⟩
 rw [<- hbs] at hlen hP ⊢
 by_cases hnl : 0 <= nl
 ·simp only [hnl, if_true] at hlen ⊢
  cases hb0 : nullW nl ver t with
  | true =>
   simp only [if_true]
   subst e5
   clear hfw hbs hlen
   go_enter Tryd.func62, Tryd.ntmps62
   go_wp2_with (first | (go_at_call 99; refine null_c.mono ?_; rintro e w1 ⟨b, rfl, hb, hm1⟩; obtain ⟨hA, hB⟩ := two_boxes hm1; have hbb : b = true := (nullW_iff (t := t) (by rw [hz]; exact hb)).trans hb0; subst hbb; clear hb; have qa0 : w1.cell? ⟨w.heap.size, 0, none⟩ = some (.int .i64 10) := (Zc hA).trans rfl; have qa3 : w1.cell? ⟨w.heap.size, 3, none⟩ = some (.int .i64 nl) := (Zc hA).trans rfl; have qa7 : w1.cell? ⟨w.heap.size, 7, none⟩ = some sv := (Zc hA).trans rfl; have qb0 : w1.cell? ⟨w.heap.size + 1, 0, none⟩ = some (.int .i64 n) := (Zc hB).trans rfl; have qb1 : w1.cell? ⟨w.heap.size + 1, 1, none⟩ = some (c 1) := (Zc hB).trans rfl; have qb2 : w1.cell? ⟨w.heap.size + 1, 2, none⟩ = some (.bool z) := (Zc hB).trans rfl; have qb3 : w1.cell? ⟨w.heap.size + 1, 3, none⟩ = some (c 3) := (Zc hB).trans rfl; have qb4 : w1.cell? ⟨w.heap.size + 1, 4, none⟩ = some (c 4) := (Zc hB).trans rfl) | (go_at_call 22; refine (fixed_c (n := -1) (size := 1) (by omega)).mono ?_; rintro e w3 ⟨v3, rfl, hm3, ho3⟩))
   go_ret
   exact ⟨v3, rfl, ((((Mod.refl w).alloc _).alloc _).trans hm1).trans hm3, ho3.low (by have := hm1.size; simp at this; omega)⟩
  | false =>
   simp only [hb0, Bool.false_eq_true, if_false] at hlen ⊢
   rw [List.length_append, fixedE_length] at hlen
   have hlb : 1 + bs.length <= 4294967296 := by omega
   have hP' : ∀ W, Mod none' w W -> BytesC Tryd.prog 41 #[sv, .int .i64 ver, .bool flex, .agg cs] W bs := fun W hm => hP W hm (by omega)
   subst e5
   clear hfw hbs hlen hP
   go_enter Tryd.func62, Tryd.ntmps62
   go_wp2_with (first | (go_at_call 99; refine null_c.mono ?_; rintro e w1 ⟨b, rfl, hb, hm1⟩; obtain ⟨hA, hB⟩ := two_boxes hm1; have hbb : b = false := (nullW_iff (t := t) (by rw [hz]; exact hb)).trans hb0; subst hbb; clear hb; have qa0 : w1.cell? ⟨w.heap.size, 0, none⟩ = some (.int .i64 10) := (Zc hA).trans rfl; have qa3 : w1.cell? ⟨w.heap.size, 3, none⟩ = some (.int .i64 nl) := (Zc hA).trans rfl; have qa7 : w1.cell? ⟨w.heap.size, 7, none⟩ = some sv := (Zc hA).trans rfl; have qb0 : w1.cell? ⟨w.heap.size + 1, 0, none⟩ = some (.int .i64 n) := (Zc hB).trans rfl; have qb1 : w1.cell? ⟨w.heap.size + 1, 1, none⟩ = some (c 1) := (Zc hB).trans rfl; have qb2 : w1.cell? ⟨w.heap.size + 1, 2, none⟩ = some (.bool z) := (Zc hB).trans rfl; have qb3 : w1.cell? ⟨w.heap.size + 1, 3, none⟩ = some (c 3) := (Zc hB).trans rfl; have qb4 : w1.cell? ⟨w.heap.size + 1, 4, none⟩ = some (c 4) := (Zc hB).trans rfl))
   rename_i K hK
   have hm01 : Mod none' w w1 := (((Mod.refl w).alloc _).alloc _).trans hm1
   refine wp_mono (field_join (b4 := w.heap.size) (b7 := w.heap.size + 1) (ver := ver) (flex := flex) (sv := sv) (bs := bs) rfl rfl rfl rfl rfl hA rfl hB rfl (fun W hm => hP' W (hm01.trans hm)) hlb) ?_
   rintro e a' w' ⟨rfl, hm, hd, ho⟩
   refine hK a' w' (wp_ret ?_)
   simp only [Exit.then]
   exact bodyPost_ret (results_tmp rfl _ _ _) hd ⟨_, rfl, hm01.trans hm, ho.low hm01.size⟩
 ·have hb0 : nullW nl ver t = false := by simp only [nullW, Bool.and_eq_false_iff, decide_eq_false_iff_not]; left; right; exact hnl
  rw [if_neg hnl] at hlen ⊢
  have hnl' : nl < 0 := by omega
  have hV : ∀ W, Mod none' w W -> BytesC Tryd.prog 102 #[.int .i64 10, sv, .bool false, .int .i64 ver, .bool flex, .agg cs] W bs := fun W hm => value_part hcs (fun j hj => by
   rw [e5]
   rcases (by omega : j = 0 \/ j = 1 \/ j = 2 \/ j = 3 \/ j = 4) with rfl | rfl | rfl | rfl | rfl
   ·rfl
   ·exact hone 1 (by omega)
   ·rfl
   ·exact hone 3 (by omega)
   ·exact hone 4 (by omega)) (fun W' hm' => hP W' (hm.trans hm') hlen)
  subst e5
  clear hfw hbs hlen hP
  go_enter Tryd.func62, Tryd.ntmps62
  go_wp2_with (first | (go_at_call 99; refine null_c.mono ?_; rintro e w1 ⟨b, rfl, hb, hm1⟩; obtain ⟨hA, hB⟩ := two_boxes hm1; have hbb : b = false := (nullW_iff (t := t) (by rw [hz]; exact hb)).trans hb0; subst hbb; clear hb; have qa0 : w1.cell? ⟨w.heap.size, 0, none⟩ = some (.int .i64 10) := (Zc hA).trans rfl; have qa3 : w1.cell? ⟨w.heap.size, 3, none⟩ = some (.int .i64 nl) := (Zc hA).trans rfl; have qa7 : w1.cell? ⟨w.heap.size, 7, none⟩ = some sv := (Zc hA).trans rfl; have qb0 : w1.cell? ⟨w.heap.size + 1, 0, none⟩ = some (.int .i64 n) := (Zc hB).trans rfl; have qb1 : w1.cell? ⟨w.heap.size + 1, 1, none⟩ = some (c 1) := (Zc hB).trans rfl; have qb2 : w1.cell? ⟨w.heap.size + 1, 2, none⟩ = some (.bool z) := (Zc hB).trans rfl; have qb3 : w1.cell? ⟨w.heap.size + 1, 3, none⟩ = some (c 3) := (Zc hB).trans rfl; have qb4 : w1.cell? ⟨w.heap.size + 1, 4, none⟩ = some (c 4) := (Zc hB).trans rfl) | (go_at_call 102; refine (hV w1 ((((Mod.refl w).alloc _).alloc _).trans hm1)).mono ?_; rintro e w2 ⟨v2, rfl, hm2, ho2⟩))
  go_ret
  exact ⟨v2, rfl, ((((Mod.refl w).alloc _).alloc _).trans hm1).trans hm2, ho2.low (by have := hm1.size; simp at this; omega)⟩
end Go.Proofs.YtcldbjehliladaaDoor
