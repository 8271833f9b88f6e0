/-
  The writer of package spec: a part, of any fields without tags.
-/
import Derived.Test.YtcldbjehliladaaDoorPWf
import Derived.Test.YtcldbjehliladaaDoorPWu
set_option linter.unusedSimpArgs false
set_option linter.unusedVariables false
namespace Go.Proofs.YtcldbjehliladaaDoor
open Go Go.RowKit
/-- a field is written as it should -/
def FieldOkC (f : FD) : Prop := ∀ w sv cs t ver flex, FdsI w sv f.sub -> cs.size = 5 -> TreeI w (from' cs 0) t -> (fieldW f ver flex t).length <= 4294967295 -> BytesC Tryd.prog 62 #[.agg (f.cells sv), .int .i64 ver, .bool flex, .agg cs] w (fieldW f ver flex t)
theorem fieldsW_take' {fs : List FD} {i : Nat} {ver : Int} {flex : Bool} {t : Tr} (hi : i < fs.length) (hg : (fs[i]).tag < 0) :
  fieldsW (fs.take (i + 1)) 0 ver flex t = fieldsW (fs.take i) 0 ver flex t ++ (if (fs[i]).has ver = true then fieldW fs[i] ver flex (t.L.getD i .zero) else []) := by
 rw [List.take_succ_eq_append_getElem hi, fieldsW_append]
 congr 1
 have hl : (fs.take i).length = i := by simp; omega
 simp only [fieldsW, hl, Nat.zero_add, List.append_nil]
 simp [hg]
theorem fieldsW_pre {fs : List FD} {ver : Int} {flex : Bool} {t : Tr} (k : Nat) : (fieldsW (fs.take k) 0 ver flex t).length <= (fieldsW fs 0 ver flex t).length := by
 have h := fieldsW_append (fs.take k) (fs.drop k) 0 ver flex t
 rw [List.take_append_drop] at h
 rw [h, List.length_append]; omega
set_option maxRecDepth 100000 in
/-- 'out = append(out, field(f, version, flex, at(t, i))...)' -/
theorem part_add {w0 w : World} {a : Act} {id b7 b13 base i : Nat} {ver : Int} {flex : Bool} {f : FD} {sa : Option Addr} {sn sc : Nat} {ct : Array Value} {t : Tr} {out bs : List UInt8} {T1 T2 : TypeId} {y0 y1 y2 y3 y4 y5 y6 y7 y8 y9 : TypeId} {p0 p1 p2 p3 p4 p5 p6 p7 p8 p9 : String} {ts6 ts7 : Array TypeId}
    (hN : a.tmps.size = 132) (g1 : Act.get a 1 = .int .i64 ver) (g2 : Act.get a 2 = .bool flex) (g7 : Act.get a 7 = .pointer (some ⟨b7, 0, none⟩)) (g12 : Act.get a 12 = .int .i64 i) (g13 : Act.get a 13 = .pointer (some ⟨b13, 0, none⟩))
    (h7 : w.heap[b7]? = some (.cells ct T1 (0, 0))) (h13 : w.heap[b13]? = some (.cells (f.cells (.slice sa sn sc)) T2 (0, 0))) (hct : ct.size = 5) (ht : TreeI w0 (from' ct 0) t) (hm0 : Mod none' w0 w) (hbase : w0.heap.size <= base) (hbw : base <= w.heap.size)
    (hown : OwnB w base (Act.get a 9) out) (hnb : ∀ k, (Act.get a 9).ownBlock = some k -> k ≠ b7 /\ k ≠ b13) (hsm : out.length + bs.length <= 4294967296)
    (hF : ∀ W cs', Mod none' w0 W -> cs'.size = 5 -> TreeI W (from' cs' 0) (t.L.getD i .zero) -> BytesC Tryd.prog 62 #[.agg (f.cells (.slice sa sn sc)), .int .i64 ver, .bool flex, .agg cs'] W bs) :
    (Code.region id #[⟨some 36, .move (.tmp 9), y0, p0, #[], none⟩, ⟨some 37, .load 56 (.tmp 13), y1, p1, #[], none⟩, ⟨some 38, .move (.tmp 1), y2, p2, #[], none⟩, ⟨some 39, .move (.tmp 2), y3, p3, #[], none⟩, ⟨some 40, .load 37 (.tmp 7), y4, p4, #[], none⟩, ⟨some 41, .move (.tmp 12), y5, p5, #[], none⟩,
      ⟨some 42, .call ⟨.value (.func 63), #[.tmp 40, .tmp 41], ts6⟩, y6, p6, #[⟨4, .data⟩, ⟨5, .data⟩], none⟩, ⟨some 43, .call ⟨.value (.func 62), #[.tmp 37, .tmp 38, .tmp 39, .tmp 42], ts7⟩, y7, p7, #[⟨1, .data⟩, ⟨2, .data⟩, ⟨3, .data⟩, ⟨6, .data⟩, ⟨6, .chain⟩], none⟩,
      ⟨some 44, .call ⟨.builtin .append, #[.tmp 36, .tmp 43], #[22, 22]⟩, y8, p8, #[⟨0, .data⟩, ⟨7, .data⟩, ⟨7, .chain⟩], none⟩,
      ⟨some 9, .assign (.tmp 44), y9, p9, #[⟨8, .data⟩, ⟨8, .chain⟩, ⟨0, .phase⟩, ⟨1, .phase⟩, ⟨2, .phase⟩, ⟨3, .phase⟩, ⟨4, .phase⟩, ⟨5, .phase⟩, ⟨6, .phase⟩, ⟨7, .phase⟩, ⟨8, .phase⟩], none⟩] true).wp Tryd.prog
    (fun e a' w' => e = .normal /\ SameBut (fun t => t ∈ [36, 37, 38, 39, 40, 41, 42, 43, 44] \/ t = 9) a a' /\ Mod (fun k => (Act.get a 9).ownBlock = some k) w w' /\ OwnB w' base (Act.get a' 9) (out ++ bs) /\ ∀ k, (Act.get a' 9).ownBlock = some k -> (Act.get a 9).ownBlock = some k \/ w.heap.size <= k) a w := by
  obtain ⟨ov, hov⟩ : ∃ ov, ov = Act.get a 9 := ⟨_, rfl⟩
  rw [<- hov] at hown hnb ⊢
  obtain ⟨ti, hti⟩ : ∃ ti, ti = t.L.getD i Tr.zero := ⟨_, rfl⟩
  have hub : ∀ k, ov.ownBlock = some k -> base <= k /\ k < w.heap.size := fun k hk => World.ownsRow.lt hown k hk
  have hM : ∀ W, Mod (fun k => ov.ownBlock = some k) w W -> Mod none' w0 W := fun W hm => hm0.trans' hm (fun _ _ f => f) (fun j hj e => by have := (hub j e).1; omega)
  refine region_rlq (l := [_, _, _, _, _, _, _, _, _]) (tl := [_]) rfl (Mod (fun k => ov.ownBlock = some k)) (fun a b h => h.none) (fun _ _ _ h h' => h.trans h') [36, 37, 38, 39, 40, 41, 42, 43, 44]
    [fun v _ => v = ov, fun v _ => v = .agg (f.cells (.slice sa sn sc)), fun v _ => v = .int .i64 ver, fun v _ => v = .bool flex, fun v _ => v = .agg ct, fun v _ => v = .int .i64 (i : Nat),
     fun v _ => ∃ cs', v = .agg cs' /\ cs'.size = 5 /\ TreeI w0 (from' cs' 0) ti, fun v w' => OwnB w' w.heap.size v bs]
    (fun v w' => OwnB w' base v (out ++ bs) /\ ∀ k, v.ownBlock = some k -> ov.ownBlock = some k \/ w.heap.size <= k)
    ?_ ?_ (by simp [regFormT]) (by decide) (fun d hd => by rw [hN]; simp at hd; omega) (by simp) (by kernel_rfl) ⟨?_, ?_, ?_, ?_, ?_, ?_, ?_, ?_, ?_, trivial⟩ ?_
  · intro g hg u1 w1 w2 hv hr
    simp only [List.mem_cons, List.not_mem_nil, or_false] at hg
    rcases hg with rfl | rfl | rfl | rfl | rfl | rfl | rfl | rfl
    · exact hv
    · exact hv
    · exact hv
    · exact hv
    · exact hv
    · exact hv
    · exact hv
    · exact hv.mod hr (fun k hk e => by have := (hub k e).2; omega)
  · rintro u1 w1 w2 ⟨q1, q2⟩ hr
    exact ⟨q1.mod hr (fun _ _ f => f), q2⟩
  · intro a1 w1 hr hp hs hd
    have t1 := (hs.get 9 (by decide)).trans hov.symm
    exact Zw (x_moveV t1) ⟨_, rfl, relp_ne (by rfl) (.refl _), rfl⟩
  · intro a1 w1 hr hp hs hd
    have t1 := (hs.get 13 (by decide)).trans g13
    have k1 := hr.some h13 (fun e => (hnb _ e).2 rfl)
    refine Zw (x_loadN (cs := (f.cells (.slice sa sn sc)).toList) (b := b13) (o := 0) (by kernel_rfl) (by rw [Ze]; exact t1) (fun j v hv => by rw [Zc k1, Nat.zero_add]; simpa using hv)) ⟨_, rfl, relp_ne (by rfl) (.refl _), by simp⟩
  · intro a1 w1 hr hp hs hd
    have t1 := (hs.get 1 (by decide)).trans g1
    exact Zw (x_moveV t1) ⟨_, rfl, relp_ne (by rfl) (.refl _), rfl⟩
  · intro a1 w1 hr hp hs hd
    have t1 := (hs.get 2 (by decide)).trans g2
    exact Zw (x_moveV t1) ⟨_, rfl, relp_ne (by rfl) (.refl _), rfl⟩
  · intro a1 w1 hr hp hs hd
    have t1 := (hs.get 7 (by decide)).trans g7
    have k1 := hr.some h7 (fun e => (hnb _ e).1 rfl)
    refine Zw (x_loadN (cs := ct.toList) (b := b7) (o := 0) (by rw [Array.length_toList, hct]; kernel_rfl) (by rw [Ze]; exact t1) (fun j v hv => by rw [Zc k1, Nat.zero_add]; simpa using hv)) ⟨_, rfl, relp_ne (by rfl) (.refl _), by simp⟩
  · intro a1 w1 hr hp hs hd
    have t1 := (hs.get 12 (by decide)).trans g12
    exact Zw (x_moveV t1) ⟨_, rfl, relp_ne (by rfl) (.refl _), rfl⟩
  · intro a1 w1 hr hp hs hd
    have t4 : Act.get a1 40 = .agg ct := hd ⟨4, .data⟩ (by simp) rfl
    have t5 : Act.get a1 41 = .int .i64 (i : Nat) := hd ⟨5, .data⟩ (by simp) rfl
    have e1 : (#[Operand.tmp 40, .tmp 41] : Array Operand).map a1.eval = #[.agg ct, .int .i64 (i : Nat)] := by simp [Ze, t4, t5]
    refine owp_call (Zy (by kernel_rfl) rfl) (by rw [e1]; exact at_c (hM _ hr) hct ht) ?_
    rintro e w2 ⟨hm, cs', rfl, hcs', htr⟩
    exact ⟨_, rfl, _, rfl, relp_ne (by rfl) hm, cs', rfl, hcs', by rw [hti]; exact htr⟩
  · intro a1 w1 hr hp hs hd
    have t1 : Act.get a1 37 = .agg (f.cells (.slice sa sn sc)) := hd ⟨1, .data⟩ (by simp) rfl
    have t2 : Act.get a1 38 = .int .i64 ver := hd ⟨2, .data⟩ (by simp) rfl
    have t3 : Act.get a1 39 = .bool flex := hd ⟨3, .data⟩ (by simp) rfl
    obtain ⟨cs', t6, hcs', htr⟩ : ∃ cs', Act.get a1 42 = .agg cs' /\ cs'.size = 5 /\ TreeI w0 (from' cs' 0) ti := hd ⟨6, .data⟩ (by simp) rfl
    have e1 : (#[Operand.tmp 37, .tmp 38, .tmp 39, .tmp 42] : Array Operand).map a1.eval = #[.agg (f.cells (.slice sa sn sc)), .int .i64 ver, .bool flex, .agg cs'] := by simp [Ze, t1, t2, t3, t6]
    refine owp_call (Zy (by kernel_rfl) rfl) (R := fun e w' => ∃ v, e = .returned v /\ Mod none' w1 w' /\ OwnB w' w1.heap.size v bs) ?_ ?_
    · rw [e1]
      exact hF _ cs' (hM _ hr) hcs' (hti ▸ htr.mod (hM _ hr))
    · rintro e w2 ⟨v, rfl, hm, ho⟩
      exact ⟨_, rfl, _, rfl, relp_ne (by rfl) hm, ho.low hr.size⟩
  · intro a1 w1 hr hp hs hd
    have t0 : Act.get a1 36 = ov := hd ⟨0, .data⟩ (by simp) rfl
    have t7 : OwnB w1 w.heap.size (Act.get a1 43) bs := hd ⟨7, .data⟩ (by simp) rfl
    have hpm := hp rfl
    obtain ⟨nl', _, ho7⟩ := t7.oct
    have hsz := hpm.size
    obtain ⟨v', w2, hrun, k1, k2, k3⟩ := x_octs (P := Tryd.prog) (ρ := a1.eval) (w := w1) (d := some 44) (ty := y8) (p := p8) (af := #[⟨0, .data⟩, ⟨7, .data⟩, ⟨7, .chain⟩]) (g := none) (s := .tmp 36) (x := .tmp 43) (base := base) (bs := out) (cs := bs) octs_info (by rw [Ze]; exact t0) rfl (hown.mod hpm (fun _ _ f => f)) (OctI.of_oct ho7) (by omega) (by have := hm0.size; omega)
    refine Zw hrun ⟨_, rfl, relp_eq k2, k1, fun k hk' => ?_⟩
    rcases k3 k hk' with h | h
    · exact .inl h
    · exact .inr (by omega)
  · intro a1 w1 hr hs hh
    obtain ⟨q1, q2⟩ : OwnB w1 base (Act.get a1 44) (out ++ bs) /\ ∀ k, (Act.get a1 44).ownBlock = some k -> ov.ownBlock = some k \/ w.heap.size <= k := hh 8 (by simp)
    refine Zv rfl Zi (wpList_nil ⟨rfl, ?_, hr, ?_, ?_⟩)
    · exact (hs.mono fun t ht => .inl ht).put (.inr rfl) _
    · rw [Zq (by rw [hs.size, hN]; decide), Ze]; exact q1
    · rw [Zq (by rw [hs.size, hN]; decide), Ze]; exact q2
set_option maxRecDepth 100000 in
set_option maxHeartbeats 2000000 in
theorem part_c {w : World} {v : Value} {fs : List FD} {ver : Int} {flex : Bool} {ct : Array Value} {t : Tr} (hf : FdsI w v fs) (hfield : ∀ f ∈ fs, f.tag < 0 /\ FieldOkC f) (hlen : (partW fs ver flex t).length <= 4294967295) (hct : ct.size = 5) (ht : TreeI w (from' ct 0) t)
  (hunk : ∀ W, Mod none' w W -> UnkC Tryd.prog 67 v (from' ct 0 4) W (unkW t.U)) (hul : (unkW t.U).length <= 32767) (hkeys : ∀ p ∈ unkW t.U, p.1 < 4294967296) :
  BytesC Tryd.prog 41 #[v, .int .i64 ver, .bool flex, .agg ct] w (partW fs ver flex t) := by
 obtain ⟨ao, cap, rfl⟩ := hf.slice
 have hfl := hf.len
 refine calls_of_wp Tryd.func41 rfl ?_
 rw [Tryd.ntmps41]
 refine wp_act (fun a : Act => Act.get a 0 = .slice ao fs.length cap /\ Act.get a 1 = .int .i64 ver /\ Act.get a 2 = .bool flex /\ Act.get a 3 = .agg ct /\ a.tmps.size = 132 /\ a.defers = []) ⟨by rw [Zj _ _ _ (by simp)]; rfl, by rw [Zj _ _ _ (by simp)]; rfl, by rw [Zj _ _ _ (by simp)]; rfl, by rw [Zj _ _ _ (by simp)]; rfl, by simp, rfl⟩ ?_
 rintro a ⟨a0, a1, a2, a3, aN, ad⟩
 refine wp_seq (wp_region_lit (Zv rfl x_box (Zv rfl Zi (wpList_nil ?_))))
 rw [show a.eval (.tmp 3) = .agg ct from a3]
 obtain ⟨b7, hb7⟩ : ∃ b, b = w.heap.size := ⟨_, rfl⟩
 have r1 := Zh w (.cells (Value.agg ct).cells 37)
 have m1 : Mod none' w (w.alloc (.cells (Value.agg ct).cells 37)) := (Mod.refl w).alloc _
 have s1 : (w.alloc (.cells (Value.agg ct).cells 37)).heap.size = w.heap.size + 1 := by simp
 generalize w.alloc (.cells (Value.agg ct).cells 37) = w1 at *
 rw [<- hb7] at r1 s1 ⊢
 replace r1 : w1.heap[b7]? = some (.cells ct 37 (0, 0)) := r1
 refine wp_seq (wp_region_lit (Zv rfl Zi (Zv rfl Zi (wpList_nil (wp_seq (wp_region_lit (Zv rfl Zi (wpList_nil ?_))))))))
 refine wp_act (fun a : Act => Act.get a 0 = .slice ao fs.length cap /\ Act.get a 1 = .int .i64 ver /\ Act.get a 2 = .bool flex /\ Act.get a 7 = .pointer (some ⟨b7, 0, none⟩) /\ Act.get a 9 = .slice none 0 0 /\ Act.get a 10 = .slice none 0 0 /\ Act.get a 11 = .int .i64 0 /\ a.tmps.size = 132 /\ a.defers = []) ⟨?_, ?_, ?_, ?_, ?_, ?_, ?_, ?_, ?_⟩ ?_
 ·simp (disch := first | omega | simp only [Zs]; omega) only [Zo, Ze, Zn, Zq, a0]
 ·simp (disch := first | omega | simp only [Zs]; omega) only [Zo, Ze, Zn, Zq, a1]
 ·simp (disch := first | omega | simp only [Zs]; omega) only [Zo, Ze, Zn, Zq, a2]
 ·simp (disch := first | omega | simp only [Zs]; omega) only [Zo, Ze, Zn, Zq]
 ·simp (disch := first | omega | simp only [Zs]; omega) only [Zo, Ze, Zn, Zq]
  rfl
 ·simp (disch := first | omega | simp only [Zs]; omega) only [Zo, Ze, Zn, Zq]
  rfl
 ·simp (disch := first | omega | simp only [Zs]; omega) only [Zo, Ze, Zn, Zq]
  rfl
 ·simp only [Zs]; exact aN
 ·simp only [Zd]; exact ad
 clear a0 a1 a2 a3 aN ad a
 rintro a ⟨a0, a1, a2, a7, a9, a10, a11, aN, ad⟩
 -- the fields
 refine wp_seq (wp_mono (Q := fun e a' w' => e = .normal /\ a'.tmps.size = 132 /\ a'.defers = [] /\ Act.get a' 0 = .slice ao fs.length cap /\ Act.get a' 1 = .int .i64 ver /\ Act.get a' 2 = .bool flex /\ Act.get a' 7 = .pointer (some ⟨b7, 0, none⟩) /\ Act.get a' 10 = .slice none 0 0 /\ Act.get a' 11 = .int .i64 0 /\ Mod none' w1 w' /\ OwnB w' (b7 + 1) (Act.get a' 9) (fieldsW fs 0 ver flex t)) ?_ ?_)
 ·refine wp_seq (wp_region_lit (Zv rfl Zm (Zv rfl (x_len (by kernel_rfl) rfl (ao := ao) (cap := cap) (n := fs.length) ?_) (Zv rfl Zm (wpList_nil ?_)))))
  ·simp (disch := first | omega | simp only [Zs]; omega) only [Zo, Ze, Zn, Zq, a0]
  refine wp_block ?_
  refine wp_loop_ghost (fun (m : Nat) (a : Act) (w' : World) => a.tmps.size = 132 /\ a.defers = [] /\ Act.get a 0 = .slice ao fs.length cap /\ Act.get a 1 = .int .i64 ver /\ Act.get a 2 = .bool flex /\ Act.get a 7 = .pointer (some ⟨b7, 0, none⟩) /\ Act.get a 10 = .slice none 0 0 /\ Act.get a 11 = .int .i64 0 /\ Act.get a 21 = .slice ao fs.length cap /\ Act.get a 22 = .int .i64 (fs.length : Nat) /\ m <= fs.length /\ Act.get a 23 = .int .i64 ((fs.length - m : Nat) : Int) /\ Mod none' w1 w' /\ OwnB w' (b7 + 1) (Act.get a 9) (fieldsW (fs.take (fs.length - m)) 0 ver flex t)) fs.length ⟨?_, ?_, ?_, ?_, ?_, ?_, ?_, ?_, ?_, ?_, Nat.le_refl _, ?_, .refl w1, ?_⟩ ?_
  ·simp only [Zs]; exact aN
  ·simp only [Zd]; exact ad
  ·simp (disch := first | omega | simp only [Zs]; omega) only [Zo, Ze, Zn, Zq, a0]
  ·simp (disch := first | omega | simp only [Zs]; omega) only [Zo, Ze, Zn, Zq, a1]
  ·simp (disch := first | omega | simp only [Zs]; omega) only [Zo, Ze, Zn, Zq, a2]
  ·simp (disch := first | omega | simp only [Zs]; omega) only [Zo, Ze, Zn, Zq, a7]
  ·simp (disch := first | omega | simp only [Zs]; omega) only [Zo, Ze, Zn, Zq, a10]
  ·simp (disch := first | omega | simp only [Zs]; omega) only [Zo, Ze, Zn, Zq, a11]
  ·simp (disch := first | omega | simp only [Zs]; omega) only [Zo, Ze, Zn, Zq, a0]
  ·simp (disch := first | omega | simp only [Zs]; omega) only [Zo, Ze, Zn, Zq]
  ·simp (disch := first | omega | simp only [Zs]; omega) only [Zo, Ze, Zn, Zq]
   rw [Nat.sub_self]; rfl
  ·simp (disch := first | omega | simp only [Zs]; omega) only [Zo, Ze, Zn, Zq, a9]
   rw [Nat.sub_self]; exact OwnB.nil _ _
  clear a0 a1 a2 a7 a9 a10 a11 aN ad a
  rintro m a w2 ⟨aN, ad, a0, a1, a2, a7, a10, a11, a21, a22, hm, a23, hmod, hown⟩
  refine wp_seq (wp_region_lit (Zv rfl (x_lss (k := .i64) (m := ((fs.length - m : Nat) : Int)) (n := (fs.length : Nat)) (by rw [Ze, a23]) (by rw [Ze, a22])) (wpList_nil ?_)))
  by_cases hpos : 0 < m
  ·refine wp_seq (wp_cond_true ?_ (wp_skip ?_))
   ·rw [Ze, Zq (by omega)]; simp; omega
   have hi : fs.length - m < fs.length := by omega
   have hw2 : Mod none' w w2 := m1.trans hmod
   obtain ⟨_, k, off, sa, sn, sc, rfl, C, T, fr, hC, hcells, hsub⟩ := (hf.mod hw2).at' hi
   obtain ⟨htag, hfo⟩ := hfield _ (List.getElem_mem hi)
   have htake := fieldsW_take' (ver := ver) (flex := flex) (t := t) hi htag
   have hpre := fieldsW_pre (ver := ver) (flex := flex) (t := t) (fs := fs) (fs.length - m + 1)
   have hlenF : (fieldsW (fs.take (fs.length - m + 1)) 0 ver flex t).length <= 4294967295 := by
    have h1 := hlen
    unfold partW at h1
    rw [List.length_append] at h1
    omega
   obtain ⟨_, k', off', sa', sn', sc', hk', C', T', fr', hC', hcells', hsub0⟩ := hf.at' hi
   obtain ⟨rfl, rfl⟩ : k = k' /\ off = off' := by simpa using hk'
   obtain ⟨rfl, rfl, rfl⟩ : sa = sa' /\ sn = sn' /\ sc = sc' := by
    have e1 := hcells 7 (.slice sa sn sc) rfl
    have e2 := hcells' 7 (.slice sa' sn' sc') rfl
    rw [hw2.some hC' (fun f => f)] at hC
    obtain ⟨rfl, _, _⟩ : C' = C /\ T' = T /\ fr' = fr := by simpa using hC
    rw [e1] at e2
    simpa using e2
   generalize fs[fs.length - m] = fd at *
   have hlen8 : (fd.cells (.slice sa sn sc)).toList.length = 8 := rfl
   refine wp_seq (wp_block (wp_seq (wp_region_lit (Zv rfl Zm (Zv rfl (Zx (sz := 8) (i := fs.length - m) (b := k) (o := off) (n := fs.length) (cap := cap) (k := .i64) (by kernel_rfl) ?_ ?_ hi) (Zv rfl (x_loadN (cs := (fd.cells (.slice sa sn sc)).toList) (b := k) (o := off + (fs.length - m) * 8) (by rw [hlen8]; kernel_rfl) ?_ (fun j v hv => by rw [Zc hC]; exact hcells j v hv)) (Zv rfl (x_alloc zeroField) (Zv rfl Zi ?_))))))))
   ·simp (disch := first | omega | simp only [Zs]; omega) only [Zo, Ze, Zn, Zq, a21]
   ·simp (disch := first | omega | simp only [Zs]; omega) only [Zo, Ze, Zn, Zq, a23]
   ·simp (disch := first | omega | simp only [Zs]; omega) only [Zo, Ze, Zn, Zq]
   have k1 := Zh w2 (.cells (Value.agg #[.int .i64 0, .int .i64 0, .int .i64 0, .int .i64 0, .int .i64 0, .int .i64 0, .int .i64 0, .slice none 0 0]).cells 56)
   have m3 : Mod none' w2 (w2.alloc (.cells (Value.agg #[.int .i64 0, .int .i64 0, .int .i64 0, .int .i64 0, .int .i64 0, .int .i64 0, .int .i64 0, .slice none 0 0]).cells 56)) := (Mod.refl w2).alloc _
   have s3 : (w2.alloc (.cells (Value.agg #[.int .i64 0, .int .i64 0, .int .i64 0, .int .i64 0, .int .i64 0, .int .i64 0, .int .i64 0, .slice none 0 0]).cells 56)).heap.size = w2.heap.size + 1 := by simp
   generalize w2.alloc (.cells (Value.agg #[.int .i64 0, .int .i64 0, .int .i64 0, .int .i64 0, .int .i64 0, .int .i64 0, .int .i64 0, .slice none 0 0]).cells 56) = w3 at *
   obtain ⟨b13, hb13⟩ : ∃ b, b = w2.heap.size := ⟨_, rfl⟩
   rw [<- hb13] at k1 s3 ⊢
   have hsz2 := hw2.size
   have hszm := hmod.size
   refine wpl_skip rfl (x_storeN (cs := fd.cells (.slice sa sn sc)) (b := b13) (o := 0) (by kernel_rfl) ?_ ?_ (by simp [FD.cells, Value.oneCell']) ?_) (wpList_nil ?_)
   ·simp (disch := first | omega | simp only [Zs]; omega) only [Zo, Ze, Zn, Zq]
   ·simp (disch := first | omega | simp only [Zs]; omega) only [Zo, Ze, Zn, Zq]
   ·intro j hj
    have hj8 : j < 8 := hj
    rw [Zc k1, Zz k1, Nat.zero_add]
    rcases (by omega : j = 0 \/ j = 1 \/ j = 2 \/ j = 3 \/ j = 4 \/ j = 5 \/ j = 6 \/ j = 7) with rfl | rfl | rfl | rfl | rfl | rfl | rfl | rfl <;> exact ⟨rfl, rfl⟩
   have k2 := put_tree (cs := fd.cells (.slice sa sn sc)) k1 rfl
   have m4 := mod_setCells b13 w3 0 (fd.cells (.slice sa sn sc)).toList
   have hm24 : Mod none' w2 (w3.setCells b13 0 (fd.cells (.slice sa sn sc)).toList) := m3.trans' m4 (fun _ _ f => f) (fun i hi e => by have e' : i = b13 := e; omega)
   generalize w3.setCells b13 0 (fd.cells (.slice sa sn sc)).toList = w4 at *
   refine wp_act (fun b : Act => b.tmps.size = 132 /\ b.defers = [] /\ (∀ t ∈ [0, 1, 2, 7, 9, 10, 11, 21, 22, 23], Act.get b t = Act.get a t) /\ Act.get b 12 = .int .i64 ((fs.length - m : Nat) : Int) /\ Act.get b 13 = .pointer (some ⟨b13, 0, none⟩)) ⟨?_, ?_, ?_, ?_, ?_⟩ ?_
   ·simp only [Zs]; exact aN
   ·simp only [Zd]; exact ad
   ·intro t ht
    simp only [List.mem_cons, List.not_mem_nil, or_false] at ht
    rcases ht with rfl | rfl | rfl | rfl | rfl | rfl | rfl | rfl | rfl | rfl <;> (simp (disch := first | omega | simp only [Zs]; omega) only [Zo, Ze, Zn, Zq])
   ·simp (disch := first | omega | simp only [Zs]; omega) only [Zo, Ze, Zn, Zq, a23]
   ·simp (disch := first | omega | simp only [Zs]; omega) only [Zo, Ze, Zn, Zq]
   rintro b ⟨bN, bd, bk, b12, b13'⟩
   refine wp_seq (wp_mono (part_test (b13 := b13) (ver := ver) (f := fd) bN ((bk 1 (by decide)).trans a1) b13' k2 htag) ?_)
   rintro e c w5 ⟨rfl, hs3, hm5, h35⟩
   have hm25 : Mod none' w2 w5 := hm24.trans hm5
   have ck : ∀ t ∈ [0, 1, 2, 7, 9, 10, 11, 21, 22, 23], Act.get c t = Act.get a t := fun t ht => (hs3.get t (by
    simp only [List.mem_cons, List.not_mem_nil, or_false] at ht ⊢
    omega)).trans (bk t ht)
   have hcs : c.tmps.size = 132 := hs3.size.trans bN
   have hown5 : OwnB w5 (b7 + 1) (Act.get c 9) (fieldsW (fs.take (fs.length - m)) 0 ver flex t) := by rw [ck 9 (by decide)]; exact hown.mod hm25 (fun _ _ f => f)
   refine wp_mono (Q := fun e a' w' => e = .normal /\ a'.tmps.size = 132 /\ a'.defers = [] /\ (∀ t ∈ [0, 1, 2, 7, 10, 11, 21, 22, 23], Act.get a' t = Act.get a t) /\ Mod none' w1 w' /\ OwnB w' (b7 + 1) (Act.get a' 9) (fieldsW (fs.take (fs.length - m + 1)) 0 ver flex t)) ?_ ?_
   ·cases hv : fd.has ver with
    | true =>
     rw [hv] at h35 htake
     have hlf := hlenF
     rw [htake] at hlf
     simp only [if_true, List.length_append] at hlf
     refine wp_cond_true (by rw [Ze]; exact h35) (wp_mono (part_add (w0 := w) (b7 := b7) (b13 := b13) (base := b7 + 1) (i := fs.length - m) (f := fd) (ct := ct) (t := t) (ver := ver) (flex := flex) (bs := fieldW fd ver flex (t.L.getD (fs.length - m) .zero)) hcs ((ck 1 (by decide)).trans a1) ((ck 2 (by decide)).trans a2) ((ck 7 (by decide)).trans a7) ((hs3.get 12 (by decide)).trans b12) ((hs3.get 13 (by decide)).trans b13')
      ((hmod.trans hm25).some r1 (fun f => f)) (hm5.some k2 (fun f => f)) hct ht (hw2.trans hm25) (by omega) (by have := hm25.size; omega) hown5 ?_ (by omega) ?_) ?_)
     ·intro q hq
      rw [ck 9 (by decide)] at hq
      have := World.ownsRow.lt hown q hq
      omega
     ·intro W cs' hmW hcs5 hTW
      exact hfo W _ cs' _ ver flex (hsub0.mod hmW) hcs5 hTW (by omega)
     ·rintro e c2 w6 ⟨rfl, hs4, hm6, ho6, hob⟩
      refine ⟨rfl, hs4.size.trans hcs, hs4.defers.trans (hs3.defers.trans bd), fun t ht => (hs4.get t (by
       simp only [List.mem_cons, List.not_mem_nil, or_false] at ht ⊢
       omega)).trans (ck t (by
       simp only [List.mem_cons, List.not_mem_nil, or_false] at ht ⊢
       omega)), (hmod.trans hm25).trans' hm6 (fun _ _ f => f) (fun q hq e => ?_), ?_⟩
      ·rw [ck 9 (by decide)] at e
       have := World.ownsRow.lt hown q e
       omega
      ·rw [htake]; simpa using ho6
    | false =>
     rw [hv] at h35 htake
     refine wp_cond_false (by rw [Ze]; exact h35) (wp_skip ⟨rfl, hcs, hs3.defers.trans bd, fun t ht => ck t (by
      simp only [List.mem_cons, List.not_mem_nil, or_false] at ht ⊢
      omega), hmod.trans hm25, ?_⟩)
     rw [htake]; simpa using hown5
   ·rintro e c3 w7 ⟨rfl, cN3, cd3, ck3, hm7, ho7⟩
    simp only [Exit.then, Exit.inBlock]
    refine wp_region_lit (Zv rfl (x_add (k := .i64) (m := ((fs.length - m : Nat) : Int)) (n := 1) (by rw [Ze, ck3 23 (by decide), a23]) rfl) (Zv rfl Zm (wpList_nil ?_)))
    refine ⟨m - 1, by omega, ?_, ?_, ?_, ?_, ?_, ?_, ?_, ?_, ?_, ?_, by omega, ?_, hm7, ?_⟩
    ·simp only [Zs]; exact cN3
    ·simp only [Zd]; exact cd3
    ·simp (disch := first | omega | simp only [Zs]; omega) only [Zo, Ze, Zn, Zq, ck3 0 (by decide), a0]
    ·simp (disch := first | omega | simp only [Zs]; omega) only [Zo, Ze, Zn, Zq, ck3 1 (by decide), a1]
    ·simp (disch := first | omega | simp only [Zs]; omega) only [Zo, Ze, Zn, Zq, ck3 2 (by decide), a2]
    ·simp (disch := first | omega | simp only [Zs]; omega) only [Zo, Ze, Zn, Zq, ck3 7 (by decide), a7]
    ·simp (disch := first | omega | simp only [Zs]; omega) only [Zo, Ze, Zn, Zq, ck3 10 (by decide), a10]
    ·simp (disch := first | omega | simp only [Zs]; omega) only [Zo, Ze, Zn, Zq, ck3 11 (by decide), a11]
    ·simp (disch := first | omega | simp only [Zs]; omega) only [Zo, Ze, Zn, Zq, ck3 21 (by decide), a21]
    ·simp (disch := first | omega | simp only [Zs]; omega) only [Zo, Ze, Zn, Zq, ck3 22 (by decide), a22]
    ·simp (disch := first | omega | simp only [Zs]; omega) only [Zo, Ze, Zn, Zq]
     congr 1
     rw [IntKind.wrap_i64]; omega
    ·simp (disch := first | omega | simp only [Zs]; omega) only [Zo, Ze, Zn, Zq]
     rw [show fs.length - (m - 1) = fs.length - m + 1 by omega]
     exact ho7
  ·refine wp_seq (wp_cond_false ?_ (wp_exit ?_))
   ·rw [Ze, Zq (by omega)]; simp; omega
   simp only [Exit.then, Exit.inBlock, if_true]
   have hm0 : m = 0 := by omega
   subst hm0
   rw [Nat.sub_zero, List.take_length] at hown
   refine ⟨trivial, ?_, ?_, ?_, ?_, ?_, ?_, ?_, ?_, hmod, ?_⟩
   ·simp only [Zs]; exact aN
   ·simp only [Zd]; exact ad
   ·simp (disch := first | omega | simp only [Zs]; omega) only [Zo, Ze, Zn, Zq, a0]
   ·simp (disch := first | omega | simp only [Zs]; omega) only [Zo, Ze, Zn, Zq, a1]
   ·simp (disch := first | omega | simp only [Zs]; omega) only [Zo, Ze, Zn, Zq, a2]
   ·simp (disch := first | omega | simp only [Zs]; omega) only [Zo, Ze, Zn, Zq, a7]
   ·simp (disch := first | omega | simp only [Zs]; omega) only [Zo, Ze, Zn, Zq, a10]
   ·simp (disch := first | omega | simp only [Zs]; omega) only [Zo, Ze, Zn, Zq, a11]
   ·simp (disch := first | omega | simp only [Zs]; omega) only [Zo, Ze, Zn, Zq]
    exact hown
 rintro e a w2 ⟨rfl, aN, ad, a0, a1, a2, a7, a10, a11, hmod, hown⟩
 obtain ⟨ob, hob⟩ : ∃ ob, ob = fieldsW fs 0 ver flex t := ⟨_, rfl⟩
 have hP : partW fs ver flex t = ob ++ (if flex then tagsW (unkW t.U) else []) := by rw [hob]; rfl
 rw [hP]
 rw [<- hob] at hown
 have hlenO : ob.length + (if flex then tagsW (unkW t.U) else []).length <= 4294967295 := by rw [hP, List.length_append] at hlen; exact hlen
 have hw2 : Mod none' w w2 := m1.trans hmod
 have hszm := hmod.size
 cases flex with
 | false =>
  refine wp_seq (wp_seq (wp_region_lit (Zv rfl Zm (Zv rfl (x_notV (b := false) (c := true) (by simp (disch := first | omega | simp only [Zs]; omega) only [Zo, Ze, Zn, Zq, a2]) rfl) (wpList_nil ?_)))))
  refine wp_cond_true (by simp (disch := first | omega | simp only [Zs]; omega) only [Zo, Ze, Zn, Zq]) (wp_seq (wp_region_lit (Zv rfl Zm (Zv rfl Zi (wpList_nil ?_)))))
  refine wp_act (c := .ret) (fun b : Act => Act.get b 8 = Act.get a 9 /\ b.defers = []) ⟨?_, ?_⟩ ?_
  ·simp (disch := first | omega | simp only [Zs]; omega) only [Zo, Ze, Zn, Zq]
  ·simp only [Zd]; exact ad
  rintro b ⟨z0, zd⟩
  refine wp_ret ?_
  simp only [Exit.then]
  refine bodyPost_ret (results_tmp rfl _ _ _) zd ⟨Act.get a 9, congrArg Ending.returned z0, hw2, ?_⟩
  have := hown.low (base' := b7) (by omega)
  simpa using this
 | true =>
  refine wp_seq (wp_seq (wp_region_lit (Zv rfl Zm (Zv rfl (x_notV (b := true) (c := false) (by simp (disch := first | omega | simp only [Zs]; omega) only [Zo, Ze, Zn, Zq, a2]) rfl) (wpList_nil ?_)))))
  refine wp_cond_false (by simp (disch := first | omega | simp only [Zs]; omega) only [Zo, Ze, Zn, Zq]) (wp_skip ?_)
  -- no known tags
  refine wp_seq (wp_seq (wp_region_lit (Zv rfl Zm (wpl_call rfl (Zy (by kernel_rfl) rfl) (R := fun e w' => e = .returned (.int .u32 0) /\ Mod none' w2 w') ?_ ?_))))
  ·have e1 : ∀ b : Act, Act.get b 49 = .slice ao fs.length cap -> (#[Operand.tmp 49] : Array Operand).map b.eval = #[.slice ao fs.length cap] := fun b h => by simp [Ze, h]
   rw [e1 _ (by simp (disch := first | omega | simp only [Zs]; omega) only [Zo, Ze, Zn, Zq, a0])]
   exact known_c (hf.mod hw2) (fun g hg => (hfield g hg).1)
  rintro e w3 ⟨rfl, hm3⟩
  refine ⟨_, rfl, Zv rfl (x_convInt (n := 0) (k := .u32) (k' := .i64) (by kernel_rfl) (by kernel_rfl) ?_) (Zv rfl Zm (wpList_nil (wp_block ?_)))⟩
  ·simp (disch := first | omega | simp only [Zs]; omega) only [Zo, Ze, Zn, Zq]
  refine wp_loop_ghost (fun (_ : Nat) (b : Act) (w' : World) => w' = w3 /\ b.tmps.size = 132 /\ b.defers = [] /\ (∀ t ∈ [0, 7, 9, 10, 11], Act.get b t = Act.get a t) /\ Act.get b 51 = .int .i64 0 /\ Act.get b 52 = .int .i64 0) 0 ⟨rfl, ?_, ?_, ?_, ?_, ?_⟩ ?_
  ·simp only [Zs]; exact aN
  ·simp only [Zd]; exact ad
  ·intro t ht
   simp only [List.mem_cons, List.not_mem_nil, or_false] at ht
   rcases ht with rfl | rfl | rfl | rfl | rfl <;> (simp (disch := first | omega | simp only [Zs]; omega) only [Zo, Ze, Zn, Zq])
  ·simp (disch := first | omega | simp only [Zs]; omega) only [Zo, Ze, Zn, Zq]
   rfl
  ·simp (disch := first | omega | simp only [Zs]; omega) only [Zo, Ze, Zn, Zq]
   rfl
  rintro _ b w4 ⟨hw4, bN, bd, bk, b51, b52⟩
  have e4 := hw4.symm
  subst e4
  refine wp_seq (wp_region_lit (Zv rfl (x_lss (k := .i64) (m := 0) (n := 0) (by rw [Ze, b52]) (by rw [Ze, b51])) (wpList_nil ?_)))
  refine wp_seq (wp_cond_false ?_ (wp_exit ?_))
  ·rw [Ze, Zq (by omega)]; simp
  simp only [Exit.then, Exit.inBlock, if_true]
  -- the unknown ones
  have hw3 : Mod none' w w3 := hw2.trans hm3
  refine wp_act (fun c : Act => c.tmps.size = 132 /\ c.defers = [] /\ (∀ t ∈ [0, 7, 9, 10, 11], Act.get c t = Act.get a t)) ⟨?_, ?_, ?_⟩ ?_
  ·simp only [Zs]; exact bN
  ·simp only [Zd]; exact bd
  ·intro t ht
   rw [Zn (by simp only [List.mem_cons, List.not_mem_nil, or_false] at ht; omega)]
   exact bk t ht
  clear b52 b51 bk bN bd b
  rintro b ⟨bN, bd, bk⟩
  have hown3 : OwnB w3 (b7 + 1) (Act.get a 9) ob := hown.mod hm3 (fun _ _ f => f)
  have r3 := (hmod.trans hm3).some r1 (fun f => f)
  obtain ⟨u4, hu4⟩ : ∃ u4, u4 = from' ct 0 4 := ⟨_, rfl⟩
  have hct4 : ct[4]? = some u4 := by rw [hu4]; simp [from', hct]
  refine wp_seq (wp_seq (wp_region_lit (Zv rfl Zm (Zv rfl (Za (o := 4) (by kernel_rfl) (b := b7) (o0 := 0) ?_) (Zv rfl (Zl (by kernel_rfl) (b := b7) (o := 0 + 4) (v := u4) ?_ ?_) ?_)))))
  ·simp (disch := first | omega | simp only [Zs]; omega) only [Zo, Ze, Zn, Zq, bk 7 (by decide), a7]
  ·simp (disch := first | omega | simp only [Zs]; omega) only [Zo, Ze, Zn, Zq]
  ·rw [Zc r3]; exact hct4
  refine wpl_abs (fun c => c.tmps.size = 132 /\ c.defers = [] /\ (∀ t ∈ [0, 7, 9, 10, 11], Act.get c t = Act.get a t) /\ Act.get c 97 = .slice ao fs.length cap /\ Act.get c 99 = u4) ⟨?_, ?_, ?_, ?_, ?_⟩ ?_
  ·simp only [Zs]; exact bN
  ·simp only [Zd]; exact bd
  ·intro t ht
   rw [Zn (by simp only [List.mem_cons, List.not_mem_nil, or_false] at ht; omega), Zn (by simp only [List.mem_cons, List.not_mem_nil, or_false] at ht; omega), Zn (by simp only [List.mem_cons, List.not_mem_nil, or_false] at ht; omega)]
   exact bk t ht
  ·simp (disch := first | omega | simp only [Zs]; omega) only [Zo, Ze, Zn, Zq, bk 0 (by decide), a0]
  ·simp (disch := first | omega | simp only [Zs]; omega) only [Zo, Ze, Zn, Zq]
  clear bk bN bd b
  rintro b ⟨bN, bd, bk, b97, b99⟩
  obtain ⟨uu', huu⟩ : ∃ uu', uu' = unkW t.U := ⟨_, rfl⟩
  have e2 : (#[Operand.tmp 97, .tmp 99] : Array Operand).map b.eval = #[.slice ao fs.length cap, u4] := by simp [Ze, b97, b99]
  refine wpl_call rfl (Zy (by kernel_rfl) rfl) (by rw [e2, hu4]; exact hunk w3 hw3) ?_
  simp only [if_true] at hlenO
  rw [<- huu] at hul hkeys hlenO ⊢
  rintro e w5 ⟨rv, g, rfl, hm5, hel, hg⟩
  obtain ⟨ra, rc, rfl⟩ := hel.slice
  refine ⟨_, rfl, Zv rfl (x_len (by kernel_rfl) rfl (ao := ra) (cap := rc) (n := uu'.length) ?_) (Zv rfl Zm (wpList_nil (wp_block ?_)))⟩
  ·simp (disch := first | omega | simp only [Zs]; omega) only [Zo, Ze, Zn, Zq]
  have hown5 : OwnB w5 (b7 + 1) (Act.get a 9) ob := hown3.mod hm5 (fun _ _ f => f)
  have hsz5 := (hmod.trans (hm3.trans hm5)).size
  refine wp_loop_ghost (fun (m : Nat) (c : Act) (w' : World) => c.tmps.size = 132 /\ c.defers = [] /\ Act.get c 9 = Act.get a 9 /\ Act.get c 100 = .slice ra uu'.length rc /\ Act.get c 101 = .int .i64 (uu'.length : Nat) /\ m <= uu'.length /\ Act.get c 102 = .int .i64 ((uu'.length - m : Nat) : Int) /\ Act.get c 11 = .int .i64 ((uu'.length - m : Nat) : Int) /\ Mod none' w5 w' /\ OwnB w' w5.heap.size (Act.get c 10) ((uu'.take (uu'.length - m)).flatMap tagW)) uu'.length ⟨?_, ?_, ?_, ?_, ?_, Nat.le_refl _, ?_, ?_, .refl w5, ?_⟩ ?_
  ·simp only [Zs]; exact bN
  ·simp only [Zd]; exact bd
  ·simp (disch := first | omega | simp only [Zs]; omega) only [Zo, Ze, Zn, Zq, bk 9 (by decide)]
  ·simp (disch := first | omega | simp only [Zs]; omega) only [Zo, Ze, Zn, Zq]
  ·simp (disch := first | omega | simp only [Zs]; omega) only [Zo, Ze, Zn, Zq]
  ·simp (disch := first | omega | simp only [Zs]; omega) only [Zo, Ze, Zn, Zq]
   rw [Nat.sub_self]; rfl
  ·simp (disch := first | omega | simp only [Zs]; omega) only [Zo, Ze, Zn, Zq, bk 11 (by decide), a11]
   rw [Nat.sub_self]; rfl
  ·simp (disch := first | omega | simp only [Zs]; omega) only [Zo, Ze, Zn, Zq, bk 10 (by decide), a10]
   rw [Nat.sub_self]; exact OwnB.nil _ _
  rintro m c w6 ⟨cN, cd, c9, c100, c101, hmu, c102, c11, hm6, hownT⟩
  refine wp_seq (wp_region_lit (Zv rfl (x_lss (k := .i64) (m := ((uu'.length - m : Nat) : Int)) (n := (uu'.length : Nat)) (by rw [Ze, c102]) (by rw [Ze, c101])) (wpList_nil ?_)))
  by_cases hpos : 0 < m
  ·refine wp_seq (wp_cond_true ?_ (wp_skip ?_))
   ·rw [Ze, Zq (by omega)]; simp; omega
   have hi : uu'.length - m < uu'.length := by omega
   obtain ⟨hk0, hk1, hk2, hkv⟩ := hg (uu'.length - m) hi
   rcases hel with ⟨h0, _⟩ | ⟨k, off, cap', C, T, fr, q1, q2, q3, q4, q5⟩
   ·omega
   obtain ⟨rfl, rfl⟩ : ra = some ⟨k, off, none⟩ /\ rc = cap' := by simpa using q1
   have htk : (uu'.take (uu'.length - m + 1)).flatMap tagW = (uu'.take (uu'.length - m)).flatMap tagW ++ tagW uu'[uu'.length - m] := by
    rw [List.take_succ_eq_append_getElem hi, List.flatMap_append]; simp
   have hlt : ((uu'.take (uu'.length - m)).flatMap tagW).length <= 1074757600 := by
    have h5 := tags_len (uu'.take (uu'.length - m)) (fun p hp => hkeys p (List.mem_of_mem_take hp))
    have h6 : (uu'.take (uu'.length - m)).length <= 32767 := by simp; omega
    exact Nat.le_trans h5 (by have := Nat.mul_le_mul_right 32800 h6; omega)
   generalize uu'[uu'.length - m] = kv at *
   generalize (uu'.take (uu'.length - m)).flatMap tagW = tg at *
   have e0 := q5 _ hi 0 (by omega)
   have e1 := q5 _ hi 1 (by omega)
   rw [hk0] at e0
   generalize g (uu'.length - m) 1 = vv at *
   have hq6 := hm6.some q4 (fun f => f)
   refine wp_seq (wp_block (wp_seq (wp_region_lit (Zv rfl (Zx (sz := 2) (i := uu'.length - m) (b := k) (o := off) (n := uu'.length) (cap := rc) (k := .i64) (by kernel_rfl) ?_ ?_ hi) (Zv rfl (x_loadN (cs := [.int .u32 kv.1, vv]) (b := k) (o := off + (uu'.length - m) * 2) (by kernel_rfl) ?_ (fun j v hv => ?_)) (Zv rfl (x_alloc zeroTag) ?_))))))
   ·simp (disch := first | omega | simp only [Zs]; omega) only [Zo, Ze, Zn, Zq, c100]
   ·simp (disch := first | omega | simp only [Zs]; omega) only [Zo, Ze, Zn, Zq, c102]
   ·simp (disch := first | omega | simp only [Zs]; omega) only [Zo, Ze, Zn, Zq]
   ·rw [Zc hq6]
    rcases j with _ | _ | j
    ·rw [<- hv]; exact e0
    ·rw [<- hv]; exact e1
    ·simp at hv
   have k1 := Zh w6 (.cells (Value.agg #[.int .u32 0, .slice none 0 0]).cells 60)
   have m7 : Mod none' w6 (w6.alloc (.cells (Value.agg #[.int .u32 0, .slice none 0 0]).cells 60)) := (Mod.refl w6).alloc _
   have s7 : (w6.alloc (.cells (Value.agg #[.int .u32 0, .slice none 0 0]).cells 60)).heap.size = w6.heap.size + 1 := by simp
   generalize w6.alloc (.cells (Value.agg #[.int .u32 0, .slice none 0 0]).cells 60) = w7 at *
   obtain ⟨b19, hb19⟩ : ∃ b, b = w6.heap.size := ⟨_, rfl⟩
   rw [<- hb19] at k1 s7 ⊢
   obtain ⟨va, vc, hvv, _⟩ := hkv.slice
   refine wpl_skip rfl (x_storeN (cs := #[.int .u32 kv.1, vv]) (b := b19) (o := 0) (by kernel_rfl) ?_ ?_ (by rw [hvv]; simp [Value.oneCell']) ?_) (wpList_nil ?_)
   ·simp (disch := first | omega | simp only [Zs]; omega) only [Zo, Ze, Zn, Zq]
   ·simp (disch := first | omega | simp only [Zs]; omega) only [Zo, Ze, Zn, Zq]
   ·intro j hj
    have hj2 : j < 2 := hj
    rw [Zc k1, Zz k1, Nat.zero_add]
    rcases (by omega : j = 0 \/ j = 1) with rfl | rfl <;> exact ⟨rfl, rfl⟩
   have k2 := put_tree (cs := #[.int .u32 kv.1, vv]) k1 rfl
   have m8 := mod_setCells b19 w7 0 (#[.int .u32 kv.1, vv] : Array Value).toList
   have hm68 : Mod none' w6 (w7.setCells b19 0 (#[.int .u32 kv.1, vv] : Array Value).toList) := m7.trans' m8 (fun _ _ f => f) (fun i hi e => by have e' : i = b19 := e; omega)
   generalize w7.setCells b19 0 (#[.int .u32 kv.1, vv] : Array Value).toList = w8 at *
   have hm8 : Mod none' w5 w8 := hm6.trans hm68
   have hT8 : OwnB w8 w5.heap.size (Act.get c 10) tg := hownT.mod hm68 (fun _ _ f => f)
   refine wp_act (fun d : Act => d.tmps.size = 132 /\ d.defers = [] /\ (∀ t ∈ [9, 10, 11, 100, 101, 102], Act.get d t = Act.get c t) /\ Act.get d 19 = .pointer (some ⟨b19, 0, none⟩)) ⟨?_, ?_, ?_, ?_⟩ ?_
   ·simp only [Zs]; exact cN
   ·simp only [Zd]; exact cd
   ·intro t ht
    simp only [List.mem_cons, List.not_mem_nil, or_false] at ht
    rcases ht with rfl | rfl | rfl | rfl | rfl | rfl <;> (simp (disch := first | omega | simp only [Zs]; omega) only [Zo, Ze, Zn, Zq])
   ·simp (disch := first | omega | simp only [Zs]; omega) only [Zo, Ze, Zn, Zq]
   rintro d ⟨dN, dd, dk, d19⟩
   refine wp_seq (wp_region_lit (Zv rfl (Za (o := 1) (by kernel_rfl) (b := b19) (o0 := 0) ?_) (Zv rfl (Zl (by kernel_rfl) (b := b19) (o := 0 + 1) (v := vv) ?_ ?_) (wpl_call rfl (Zy (by kernel_rfl) rfl) (R := fun e w' => w8 = w' /\ ∃ v', e = .returned v' /\ OctI w5 v' (whole kv.2)) ?_ ?_))))
   ·simp (disch := first | omega | simp only [Zs]; omega) only [Zo, Ze, Zn, Zq, d19]
   ·simp (disch := first | omega | simp only [Zs]; omega) only [Zo, Ze, Zn, Zq]
   ·rw [Zc k2]; rfl
   ·have e3 : ∀ b : Act, Act.get b 107 = vv -> (#[Operand.tmp 107] : Array Operand).map b.eval = #[vv] := fun b h => by simp [Ze, h]
    rw [e3 _ (by simp (disch := first | omega | simp only [Zs]; omega) only [Zo, Ze, Zn, Zq])]
    exact whole_c' hkv
   rintro e _ ⟨rfl, wv, rfl, hwv⟩
   obtain ⟨wa, wc, hwvs, _⟩ := hwv.slice
   refine ⟨_, rfl, Zv rfl Zi (wpList_nil ?_)⟩
   have hk64 : IntKind.u64.wrap kv.1 = ((kv.1.toNat : Nat) : Int) := by
    simp only [IntKind.wrap, IntKind.bits, IntKind.signed]; simp; omega
   have hn64 : IntKind.u64.wrap (((whole kv.2).length : Nat) : Int) = (((whole kv.2).length : Nat) : Int) := by
    have := whole_length kv.2
    simp only [IntKind.wrap, IntKind.bits, IntKind.signed]; simp; omega
   have hl1 := uvE_ten (n := kv.1.toNat) (by omega)
   have hl2 := whole_length kv.2
   have hl3 := uvE_ten (n := (whole kv.2).length) (by omega)
   refine wp_act (fun q : Act => q.tmps.size = 132 /\ q.defers = [] /\ (∀ t ∈ [9, 10, 11, 100, 101, 102], Act.get q t = Act.get c t) /\ Act.get q 19 = .pointer (some ⟨b19, 0, none⟩) /\ Act.get q 20 = wv) ⟨?_, ?_, ?_, ?_, ?_⟩ ?_
   ·simp only [Zs]; exact dN
   ·simp only [Zd]; exact dd
   ·intro t ht
    simp only [List.mem_cons, List.not_mem_nil, or_false] at ht
    rcases ht with rfl | rfl | rfl | rfl | rfl | rfl <;> (simp (disch := first | omega | simp only [Zs]; omega) only [Zo, Ze, Zn, Zq, dk 9 (by decide), dk 10 (by decide), dk 11 (by decide), dk 100 (by decide), dk 101 (by decide), dk 102 (by decide)])
   ·simp (disch := first | omega | simp only [Zs]; omega) only [Zo, Ze, Zn, Zq, d19]
   ·simp (disch := first | omega | simp only [Zs]; omega) only [Zo, Ze, Zn, Zq]
   clear d19 dk dd dN d
   rintro d ⟨dN, dd, dk, d19, d20⟩
   refine wp_seq (wp_region_lit (Zv rfl Zm (Zv rfl (Za (o := 0) (by kernel_rfl) (b := b19) (o0 := 0) ?_) (Zv rfl (Zl (by kernel_rfl) (b := b19) (o := 0 + 0) (v := .int .u32 kv.1) ?_ ?_) (Zv rfl (x_convInt (n := kv.1) (k := .u32) (k' := .u64) (by kernel_rfl) (by kernel_rfl) ?_) ?_)))))
   ·simp (disch := first | omega | simp only [Zs]; omega) only [Zo, Ze, Zn, Zq, d19]
   ·simp (disch := first | omega | simp only [Zs]; omega) only [Zo, Ze, Zn, Zq]
   ·rw [Zc k2]; rfl
   ·simp (disch := first | omega | simp only [Zs]; omega) only [Zo, Ze, Zn, Zq]
   rw [hk64]
   refine wpl_abs (fun q => q.tmps.size = 132 /\ q.defers = [] /\ (∀ t ∈ [9, 11, 100, 101, 102], Act.get q t = Act.get c t) /\ Act.get q 20 = wv /\ Act.get q 109 = Act.get c 10 /\ Act.get q 112 = .int .u64 ((kv.1.toNat : Nat) : Int)) ⟨?_, ?_, ?_, ?_, ?_, ?_⟩ ?_
   ·simp only [Zs]; exact dN
   ·simp only [Zd]; exact dd
   ·intro t ht
    simp only [List.mem_cons, List.not_mem_nil, or_false] at ht
    rcases ht with rfl | rfl | rfl | rfl | rfl <;> (simp (disch := first | omega | simp only [Zs]; omega) only [Zo, Ze, Zn, Zq, dk 9 (by decide), dk 11 (by decide), dk 100 (by decide), dk 101 (by decide), dk 102 (by decide)])
   ·simp (disch := first | omega | simp only [Zs]; omega) only [Zo, Ze, Zn, Zq, d20]
   ·simp (disch := first | omega | simp only [Zs]; omega) only [Zo, Ze, Zn, Zq, dk 10 (by decide)]
   ·simp (disch := first | omega | simp only [Zs]; omega) only [Zo, Ze, Zn, Zq]
   have d10' := dk 10 (by decide)
   clear d19 d20 dk dd dN d d10'
   rintro d ⟨dN, dd, dk, d20, d109, d112⟩
   have e1' : (#[Operand.tmp 112] : Array Operand).map d.eval = #[.int .u64 ((kv.1.toNat : Nat) : Int)] := by simp [Ze, d112]
   refine wpl_call rfl (Zy (by kernel_rfl) rfl) (by rw [e1']; exact uv_c (by omega)) ?_
   rintro e w9 ⟨v9, rfl, hm9, ho9⟩
   refine ⟨_, rfl, ?_⟩
   obtain ⟨_, _, ho9'⟩ := ho9.oct
   have hs8 := hm8.size
   have hs9 := hm9.size
   refine wpl_octs (base := w5.heap.size) (v := Act.get c 10) (xv := v9) (bs := tg) (cs := uvE kv.1.toNat) octs_info ?_ ?_ (hT8.mod hm9 (fun _ _ f => f)) (OctI.of_oct ho9') (by omega) (by omega) ?_
   ·simp (disch := first | omega | simp only [Zs]; omega) only [Zo, Ze, Zn, Zq, d109]
   ·simp (disch := first | omega | simp only [Zs]; omega) only [Zo, Ze, Zn, Zq]
   intro v10 w10 hT10 hm10
   have hm510 : Mod none' w5 w10 := (hm8.trans hm9).fresh hm10
   have hs10 := hm10.size
   refine Zv rfl Zm (Zv rfl (x_len (by kernel_rfl) rfl (ao := wa) (cap := wc) (n := (whole kv.2).length) ?_) (Zv rfl (x_convInt (n := ((whole kv.2).length : Nat)) (k := .i64) (k' := .u64) (by kernel_rfl) (by kernel_rfl) ?_) ?_))
   ·simp (disch := first | omega | simp only [Zs]; omega) only [Zo, Ze, Zn, Zq, d20, hwvs]
   ·simp (disch := first | omega | simp only [Zs]; omega) only [Zo, Ze, Zn, Zq]
   rw [hn64]
   refine wpl_abs (fun q => q.tmps.size = 132 /\ q.defers = [] /\ (∀ t ∈ [9, 11, 100, 101, 102], Act.get q t = Act.get c t) /\ Act.get q 20 = wv /\ Act.get q 114 = v10 /\ Act.get q 117 = .int .u64 (((whole kv.2).length : Nat) : Int)) ⟨?_, ?_, ?_, ?_, ?_, ?_⟩ ?_
   ·simp only [Zs]; exact dN
   ·simp only [Zd]; exact dd
   ·intro t ht
    simp only [List.mem_cons, List.not_mem_nil, or_false] at ht
    rcases ht with rfl | rfl | rfl | rfl | rfl <;> (simp (disch := first | omega | simp only [Zs]; omega) only [Zo, Ze, Zn, Zq, dk 9 (by decide), dk 11 (by decide), dk 100 (by decide), dk 101 (by decide), dk 102 (by decide)])
   ·simp (disch := first | omega | simp only [Zs]; omega) only [Zo, Ze, Zn, Zq, d20]
   ·simp (disch := first | omega | simp only [Zs]; omega) only [Zo, Ze, Zn, Zq]
   ·simp (disch := first | omega | simp only [Zs]; omega) only [Zo, Ze, Zn, Zq]
   clear d109 d112 e1' d20 dk dd dN d
   rintro d ⟨dN, dd, dk, d20, d114, d117⟩
   have e1' : (#[Operand.tmp 117] : Array Operand).map d.eval = #[.int .u64 (((whole kv.2).length : Nat) : Int)] := by simp [Ze, d117]
   refine wpl_call rfl (Zy (by kernel_rfl) rfl) (by rw [e1']; exact uv_c (by omega)) ?_
   rintro e w11 ⟨v11, rfl, hm11, ho11⟩
   refine ⟨_, rfl, ?_⟩
   obtain ⟨_, _, ho11'⟩ := ho11.oct
   have hs11 := hm11.size
   refine wpl_octs (base := w5.heap.size) (v := v10) (xv := v11) (bs := tg ++ uvE kv.1.toNat) (cs := uvE (whole kv.2).length) octs_info ?_ ?_ (hT10.mod hm11 (fun _ _ f => f)) (OctI.of_oct ho11') (by rw [List.length_append]; omega) (by omega) ?_
   ·simp (disch := first | omega | simp only [Zs]; omega) only [Zo, Ze, Zn, Zq, d114]
   ·simp (disch := first | omega | simp only [Zs]; omega) only [Zo, Ze, Zn, Zq]
   intro v12 w12 hT12 hm12
   have hm512 : Mod none' w5 w12 := (hm510.trans hm11).fresh hm12
   have hs12 := hm12.size
   refine Zv rfl Zm (wpl_octs (base := w5.heap.size) (v := v12) (xv := wv) (bs := tg ++ uvE kv.1.toNat ++ uvE (whole kv.2).length) (cs := whole kv.2) octs_info ?_ ?_ hT12 (hwv.mod hm512) (by rw [List.length_append, List.length_append]; omega) (by omega) ?_)
   ·simp (disch := first | omega | simp only [Zs]; omega) only [Zo, Ze, Zn, Zq]
   ·simp (disch := first | omega | simp only [Zs]; omega) only [Zo, Ze, Zn, Zq, d20]
   intro v13 w13 hT13 hm13
   have hm513 : Mod none' w5 w13 := hm512.fresh hm13
   refine Zv rfl Zi (wpList_nil ?_)
   have htg : tg ++ uvE kv.1.toNat ++ uvE (whole kv.2).length ++ whole kv.2 = tg ++ tagW kv := by simp [tagW]
   rw [htg] at hT13
   refine wp_act (fun q : Act => q.tmps.size = 132 /\ q.defers = [] /\ (∀ t ∈ [9, 11, 100, 101, 102], Act.get q t = Act.get c t) /\ Act.get q 10 = v13) ⟨?_, ?_, ?_, ?_⟩ ?_
   ·simp only [Zs]; exact dN
   ·simp only [Zd]; exact dd
   ·intro t ht
    simp only [List.mem_cons, List.not_mem_nil, or_false] at ht
    rcases ht with rfl | rfl | rfl | rfl | rfl <;> (simp (disch := first | omega | simp only [Zs]; omega) only [Zo, Ze, Zn, Zq, dk 9 (by decide), dk 11 (by decide), dk 100 (by decide), dk 101 (by decide), dk 102 (by decide)])
   ·simp (disch := first | omega | simp only [Zs]; omega) only [Zo, Ze, Zn, Zq]
   clear d114 d117 e1' d20 dk dd dN d
   rintro d ⟨dN, dd, dk, d10⟩
   have d11 := (dk 11 (by decide)).trans c11
   have d102 := (dk 102 (by decide)).trans c102
   refine wp_region_lit (Zv rfl Zm (Zv rfl (x_add (k := .i64) (m := ((uu'.length - m : Nat) : Int)) (n := 1) ?_ rfl) (Zv rfl Zi (wpList_nil ?_))))
   ·simp (disch := first | omega | simp only [Zs]; omega) only [Zo, Ze, Zn, Zq, d11]
   simp only [Exit.then, Exit.inBlock]
   refine wp_region_lit (Zv rfl (x_add (k := .i64) (m := ((uu'.length - m : Nat) : Int)) (n := 1) ?_ rfl) (Zv rfl Zm (wpList_nil ?_)))
   ·simp (disch := first | omega | simp only [Zs]; omega) only [Zo, Ze, Zn, Zq, d102]
   refine ⟨m - 1, by omega, ?_, ?_, ?_, ?_, ?_, by omega, ?_, ?_, hm513, ?_⟩
   ·simp only [Zs]; exact dN
   ·simp only [Zd]; exact dd
   ·simp (disch := first | omega | simp only [Zs]; omega) only [Zo, Ze, Zn, Zq, dk 9 (by decide), c9]
   ·simp (disch := first | omega | simp only [Zs]; omega) only [Zo, Ze, Zn, Zq, dk 100 (by decide), c100]
   ·simp (disch := first | omega | simp only [Zs]; omega) only [Zo, Ze, Zn, Zq, dk 101 (by decide), c101]
   ·simp (disch := first | omega | simp only [Zs]; omega) only [Zo, Ze, Zn, Zq]
    congr 1
    rw [IntKind.wrap_i64]; omega
   ·simp (disch := first | omega | simp only [Zs]; omega) only [Zo, Ze, Zn, Zq]
    congr 1
    rw [IntKind.wrap_i64]; omega
   ·simp (disch := first | omega | simp only [Zs]; omega) only [Zo, Ze, Zn, Zq, d10]
    rw [show uu'.length - (m - 1) = uu'.length - m + 1 by omega, htk]
    exact hT13
  ·refine wp_seq (wp_cond_false ?_ (wp_exit ?_))
   ·rw [Ze, Zq (by omega)]; simp; omega
   simp only [Exit.then, Exit.inBlock, if_true]
   have hm0 : m = 0 := by omega
   subst hm0
   rw [Nat.sub_zero, List.take_length] at hownT
   rw [Nat.sub_zero] at c11
   have hlt : (uu'.flatMap tagW).length <= 1074757600 := by
    have h5 := tags_len uu' hkeys
    exact Nat.le_trans h5 (by have := Nat.mul_le_mul_right 32800 hul; omega)
   obtain ⟨tg, htg⟩ : ∃ x, x = uu'.flatMap tagW := ⟨_, rfl⟩
   rw [<- htg] at hownT hlt
   have hlenQ : ob.length + ((uvE uu'.length).length + tg.length) <= 4294967295 := by
    have h := hlenO
    simp only [tagsW, List.length_append] at h
    rw [htg]; exact h
   have hTT : ob ++ tagsW uu' = ob ++ uvE uu'.length ++ tg := by rw [htg]; simp [tagsW]
   have hl1 := uvE_ten (n := uu'.length) (by omega)
   have hn64 : IntKind.u64.wrap ((uu'.length : Nat) : Int) = ((uu'.length : Nat) : Int) := by
    simp only [IntKind.wrap, IntKind.bits, IntKind.signed]; simp; omega
   have hOut : OwnB w6 (b7 + 1) (Act.get a 9) ob := hown5.mod hm6 (fun _ _ f => f)
   refine wp_seq (wp_region_lit (Zv rfl Zm (Zv rfl Zm (Zv rfl (x_convInt (n := ((uu'.length : Nat) : Int)) (k := .i64) (k' := .u64) (by kernel_rfl) (by kernel_rfl) ?_) ?_))))
   ·simp (disch := first | omega | simp only [Zs]; omega) only [Zo, Ze, Zn, Zq, c11]
   rw [hn64]
   refine wpl_abs (fun q => q.tmps.size = 132 /\ q.defers = [] /\ Act.get q 10 = Act.get c 10 /\ Act.get q 125 = Act.get a 9 /\ Act.get q 127 = .int .u64 ((uu'.length : Nat) : Int)) ⟨?_, ?_, ?_, ?_, ?_⟩ ?_
   ·simp only [Zs]; exact cN
   ·simp only [Zd]; exact cd
   ·simp (disch := first | omega | simp only [Zs]; omega) only [Zo, Ze, Zn, Zq]
   ·simp (disch := first | omega | simp only [Zs]; omega) only [Zo, Ze, Zn, Zq, c9]
   ·simp (disch := first | omega | simp only [Zs]; omega) only [Zo, Ze, Zn, Zq]
   rintro d ⟨dN, dd, d10, d125, d127⟩
   have e1' : (#[Operand.tmp 127] : Array Operand).map d.eval = #[.int .u64 ((uu'.length : Nat) : Int)] := by simp [Ze, d127]
   refine wpl_call rfl (Zy (by kernel_rfl) rfl) (by rw [e1']; exact uv_c (by omega)) ?_
   rintro e w9 ⟨v9, rfl, hm9, ho9⟩
   refine ⟨_, rfl, ?_⟩
   obtain ⟨_, _, ho9'⟩ := ho9.oct
   have hs6 := hm6.size
   have hs9 := hm9.size
   have hOut9 := hOut.mod hm9 (fun _ _ f => f)
   have hT9 := hownT.mod hm9 (fun _ _ f => f)
   have hob9 : ∀ k, (Act.get a 9).ownBlock = some k -> b7 + 1 <= k /\ k < w5.heap.size := fun k hk => ⟨(World.ownsRow.lt hown5 k hk).1, (World.ownsRow.lt hown5 k hk).2⟩
   obtain ⟨v10, w10, hrun, k1, k2, k3⟩ := x_octs (P := Tryd.prog) (ρ := (d.put (some 128) v9).eval) (w := w9) (d := some 129) (ty := 22) (p := "") (af := #[]) (g := none) (s := .tmp 125) (x := .tmp 128) (base := b7 + 1) (v := Act.get a 9) (xv := v9) (bs := ob) (cs := uvE uu'.length) octs_info (by simp (disch := first | omega | simp only [Zs]; omega) only [Zo, Ze, Zn, Zq, d125]) (by simp (disch := first | omega | simp only [Zs]; omega) only [Zo, Ze, Zn, Zq]) hOut9 (OctI.of_oct ho9') (by omega) (by omega)
   refine Zv rfl hrun ?_
   have hT10 := hT9.mod k2 (fun k hk e => by have := hob9 k e; omega)
   obtain ⟨_, _, hT10'⟩ := hT10.oct
   refine Zv rfl Zm (wpl_octs (base := b7 + 1) (v := v10) (xv := Act.get c 10) (bs := ob ++ uvE uu'.length) (cs := tg) octs_info ?_ ?_ k1 (OctI.of_oct hT10') (by rw [List.length_append]; omega) (by have := k2.size; omega) ?_)
   ·simp (disch := first | omega | simp only [Zs]; omega) only [Zo, Ze, Zn, Zq]
   ·simp (disch := first | omega | simp only [Zs]; omega) only [Zo, Ze, Zn, Zq, d10]
   intro v11 w11 hT11 hm11
   refine Zv rfl Zi (wpList_nil ?_)
   refine wp_act (c := .ret) (fun q : Act => Act.get q 8 = v11 /\ q.defers = []) ⟨?_, ?_⟩ ?_
   ·simp (disch := first | omega | simp only [Zs]; omega) only [Zo, Ze, Zn, Zq]
   ·simp only [Zd]; exact dd
   rintro q ⟨z0, zd⟩
   refine wp_ret ?_
   have hm96 : Mod none' w w9 := hw3.trans (hm5.trans (hm6.trans hm9))
   refine bodyPost_ret (results_tmp rfl _ _ _) zd ⟨v11, congrArg Ending.returned z0, ?_, ?_⟩
   ·have h10 : Mod none' w w10 := hm96.fresh (k2.mono fun k hk e => by have := hob9 k e; omega)
    exact h10.fresh (hm11.mono fun k hk e => by have e' : b7 + 1 <= k := e; omega)
   ·rw [hTT]
    exact hT11.low (by omega)
theorem TreeI.keys {w : World} {c : Nat -> Value} {t : Tr} (h : TreeI w c t) : ∀ p ∈ t.U, 0 <= p.1 /\ p.1 < 4294967296 := by
 cases h with
 | @mk _ n s z l u f g h0 hn h1 h2 h3 h3' h4 h4' =>
  intro p hp
  have hp' : p ∈ u := hp
  obtain ⟨i, hi, rfl⟩ := List.getElem_of_mem hp'
  have h5 := (h4' i hi).2.1
  simp [fits, IntKind.min, IntKind.max, IntKind.signed, IntKind.bits] at h5
  exact ⟨h5.1, by omega⟩
/-- the unknown tags of a tree, of fields without tags -/
theorem unk_c {w : World} {v : Value} {fs : List FD} {ct : Array Value} {t : Tr} (hf : FdsI w v fs) (hno : ∀ f ∈ fs, f.tag < 0) (ht : TreeI w (from' ct 0) t) : ∀ W, Mod none' w W -> UnkC Tryd.prog 67 v (from' ct 0 4) W (unkW t.U) := by
 intro W hm
 have ht' := ht.mod hm
 cases ht' with
 | @mk _ n s z l u f g h0 hn h1 h2 h3 h3' h4 h4' =>
  have hg : ∀ i (h : i < u.length), g i 0 = .int .u32 (u[i]).1 /\ 0 <= (u[i]).1 /\ (u[i]).1 < 4294967296 /\ OctI W (g i 1) (u[i]).2 := fun i h => by
   obtain ⟨q1, q2, q3⟩ := h4' i h
   simp [fits, IntKind.min, IntKind.max, IntKind.signed, IntKind.bits] at q2
   exact ⟨q1, by omega, by omega, q3⟩
  exact unknown_c (hf.mod hm) hno h4 hg
mutual
/-- without tags, of kinds that are told -/
def FD.plain : FD -> Bool
 | .mk kind _ _ _ tag _ of sub => decide (tag < 0) && (leafK kind || (decide (kind = 10) && plainL sub) || (decide (kind = 11) && (leafK of || (decide (of = 10) && plainL sub))))
def plainL : List FD -> Bool
 | [] => true
 | f :: r => f.plain && plainL r
end
theorem plainL_tag : ∀ {fs : List FD}, plainL fs = true -> ∀ f ∈ fs, f.tag < 0
 | [], _, f, hf => by simp at hf
 | .mk k fr to nl g d o sub :: r, h, f, hf => by
  simp only [plainL, FD.plain, Bool.and_eq_true, decide_eq_true_eq] at h
  rcases List.mem_cons.1 hf with rfl | hf
  ·exact h.1.1
  ·exact plainL_tag h.2 f hf
/-- a part is written as it should -/
theorem part_ok {w : World} {v : Value} {fs : List FD} {ver : Int} {flex : Bool} {ct : Array Value} {t : Tr} (hfs : ∀ f ∈ fs, f.tag < 0 /\ FieldOkC f) (hf : FdsI w v fs) (hct : ct.size = 5) (ht : TreeI w (from' ct 0) t) (hlen : (partW fs ver flex t).length <= 4294967295) :
  BytesC Tryd.prog 41 #[v, .int .i64 ver, .bool flex, .agg ct] w (partW fs ver flex t) := by
 have ho := unk_ok t.U (TreeI.keys ht)
 exact part_c hf hfs hlen hct ht (unk_c hf (fun f h => (hfs f h).1) ht) ho.2.1 (fun p hp => (ho.2.2 p hp).2)
mutual
theorem field_ok : ∀ (f : FD), f.plain = true -> FieldOkC f
 | .mk kind fr to nl g d o sub, h => by
  intro w sv cs t ver flex hsv hcs ht hlen
  simp only [FD.plain, Bool.and_eq_true, Bool.or_eq_true, decide_eq_true_eq] at h
  obtain ⟨htag, h⟩ := h
  rcases h with (hk | ⟨rfl, hp⟩) | ⟨rfl, ho⟩
  ·rw [fieldW_lf hk]
   exact field_c hcs ht hk
  ·exact field_part hcs ht hlen (fun W hm hl => part_ok (fields_ok sub hp) (hsv.mod hm) hcs (ht.mod hm) hl)
  ·refine field_list hcs ht hlen fun W x ca hm hca hx hxl hel => ?_
   simp only [FD.of] at hel ⊢
   rcases ho with ho | ⟨rfl, hp⟩
   ·have e : elE o sub ver flex x = leafW o false flex x := by simp only [elE, if_neg (leaf_ne ho).2]
    rw [e]
    exact value_c hca hx ho
   ·have e : elE 10 sub ver flex x = partW sub ver flex x := by simp only [elE, if_true]; rfl
    rw [e] at hel ⊢
    exact value_part hca hx.one (fun W' hm' => part_ok (fields_ok sub hp) ((hsv.mod hm).mod hm') hca (hx.mod hm') hel)
theorem fields_ok : ∀ (fs : List FD), plainL fs = true -> ∀ f ∈ fs, f.tag < 0 /\ FieldOkC f
 | [], _, f, hf => by simp at hf
 | f0 :: r, h, f, hf => by
  have ht := plainL_tag h f hf
  simp only [plainL, Bool.and_eq_true] at h
  rcases List.mem_cons.1 hf with e | hf
  ·exact ⟨ht, e ▸ field_ok f0 h.1⟩
  ·exact fields_ok r h.2 f hf
end
end Go.Proofs.YtcldbjehliladaaDoor
