/-
  Sixteen octets of a struct that code puts into a box ahead of writing them.
  ReadShareGroupStateResponse: AppendTo.
-/
import Derived.Test.YtmehfgiadapekaaGreatPYv
set_option linter.unusedSimpArgs false
set_option linter.unusedVariables false
namespace Go.Proofs.YtmehfgiadapekaaGreat
open Go Go.RowKit
section
variable {P : Program} {Γ : Wl} {ok : OkV} {id id2 t1 t2 t3 t4 tb u1 u2 u3 : Nat} {y1 y2 y3 y4 y5 y6 y7 y8 y9 ya : TypeId} {s1 s2 s3 s4 s5 s6 s7 s8 s9 sa : String} {e1 e2 e3 e4 e5 e6 e7 e8 e9 ea : Array Edge} {ts : Array TypeId}
theorem emit_uuidb {σ : St} {T kf o i ys f : Nat} {zc : Value} {E : Int -> Bool -> Tr -> List UInt8} {E' : Tr -> List UInt8} (hc : AppV P f .uuid E') (hb : bodied P f = true) (hE : ∀ v l t, ok v l -> E v l t = E' t) (hs : (Γ.ok && Γ.free t1 && Γ.free t2 && Γ.free t3 && Γ.free t4 && Γ.free tb && Γ.free u1 && Γ.free u2 && Γ.free u3 && tb != t4 && u1 != tb && u1 != u2) = true) (hf : fieldOff P T kf = some o) (ho1 : many P ys 16 = true) (hz : zeroOf P ys = some zc) (hzc : zc.cells.size = 16) (hs16 : sized P ys 16 = true) (hat : σ.lay.at i = some (o, .uuid)) :
  Emit P Γ ok (.seq (.region id #[⟨some t1, .move (.tmp σ.s), y1, s1, e1, none⟩, ⟨some t2, .nilCheck (.tmp t1), y2, s2, e2, none⟩, ⟨some t3, .fieldAddr T (.tmp t2) kf, y3, s3, e3, none⟩, ⟨some t4, .load ys (.tmp t3), y4, s4, e4, none⟩, ⟨some tb, .alloc ys, y5, s5, e5, none⟩, ⟨none, .store ys (.tmp tb) (.tmp t4), y6, s6, e6, none⟩] false)
   (.region id2 #[⟨some u1, .move (.tmp 1), y7, s7, e7, none⟩, ⟨some u2, .load ys (.tmp tb), y8, s8, e8, none⟩, ⟨some u3, .call ⟨.value (.func f), #[.tmp u1, .tmp u2], ts⟩, y9, s9, e9, none⟩, ⟨some 1, .assign (.tmp u3), ya, sa, ea, none⟩] false)) (preD σ i E) := by
 rintro x bs out a w ho hA ⟨F, blk, off, v, hp, hC, hF, hbk, rfl⟩ hl
 simp only [Bool.and_eq_true, bne_iff_ne] at hs
 obtain ⟨⟨⟨⟨⟨⟨⟨⟨⟨⟨⟨hok, f1⟩, f2⟩, f3⟩, f4⟩, fb⟩, g1⟩, g2⟩, g3⟩, nb4⟩, n1b⟩, n12⟩ := hs
 obtain ⟨C, tC, hC1, hC2, hC3, _⟩ := hC.mem
 obtain ⟨z, hz', hrep⟩ := RepL.get _ _ _ _ _ _ hat hC3
 have hzd : v.1.getD i .nul = z := by rw [List.getD_eq_getElem?_getD, hz']; rfl
 rw [hzd] at hl ⊢
 have hrep' := hrep
 simp only [Rep] at hrep'
 obtain ⟨us, hul, hus, hzu⟩ := hrep'
 have hcells : w.rangeAt blk (off + o) (octV us) := by
  intro j u hu
  rw [Zc hC1]
  simp only [octV, List.getElem?_map, Option.map_eq_some_iff] at hu
  obtain ⟨q, hq, rfl⟩ := hu
  obtain ⟨hj, rfl⟩ := List.getElem?_eq_some_iff.1 hq
  have := hus j hj
  simp only [from', Array.getD_eq_getD_getElem?] at this
  rw [show off + o + j = off + (o + j) by omega]
  cases hc : C[off + (o + j)]? with
  | none => rw [hc] at this; simp [undef] at this
  | some q => rw [hc] at this; simpa using this
 have hall : (octV us).toArray.all (·.oneCell') = true := by rw [Array.all_eq_true_iff_forall_mem]; intro u hu; simp [octV] at hu; obtain ⟨q, _, rfl⟩ := hu; rfl
 have h16 : (octV us).toArray.size = 16 := by simp [octV, hul]
 have htb : ∀ v5 : Value, Act.get ((((((a.put (some t1) (a.eval (.tmp σ.s))).put (some t2) (.pointer (some ⟨blk, off, none⟩))).put (some t3) (.pointer (some ⟨blk, off + o, none⟩))).put (some t4) (.agg (octV us).toArray)).put (some tb) v5)) tb = v5 := fun v5 => Zq (by simp only [Zs]; exact hA.lt fb)
 refine wp_seq (wp_region_lit (Zv rfl Zm (Zv rfl (x_nilCheck (q := ⟨blk, off, none⟩) ?_) (Zv rfl (Za hf (b := blk) (o0 := off) ?_) (Zv rfl (x_loadN (b := blk) (o := off + o) (cs := octV us) (by rw [octV_length, hul]; exact ho1) ?_ hcells) (Zv rfl (x_alloc hz) ?_))))))
 ·rw [Ze, Zq (hA.lt f1), Ze, hp]
 ·rw [Ze, Zq (by rw [Zs]; exact hA.lt f2)]
 ·rw [Ze, Zq (by simp only [Zs]; exact hA.lt f3)]
 have r1 := Zh w (.cells zc.cells ys)
 have m1 : Mod none' w (w.alloc (.cells zc.cells ys)) := (Mod.refl w).alloc _
 generalize w.alloc (.cells zc.cells ys) = w1 at *
 refine wpl_skip rfl (x_storeN (cs := (octV us).toArray) (b := w.heap.size) (o := 0) (by rw [h16]; exact hs16) ?_ ?_ hall ?_) (wpList_nil ?_)
 ·rw [Ze]; exact htb _
 ·rw [Ze, Zn (Ne.symm (Ne.symm nb4)), Zq (by simp only [Zs]; exact hA.lt f4)]
 ·intro j hj
  rw [Zc r1, Zz r1, Nat.zero_add, Array.getElem?_eq_getElem (by omega)]
  exact ⟨rfl, rfl⟩
 rw [Zo]
 have k2 := put_tree (cs := (octV us).toArray) r1 (by omega)
 have m2 := mod_setCells w.heap.size w1 0 (octV us).toArray.toList
 have m12 : Mod none' w (w1.setCells w.heap.size 0 (octV us).toArray.toList) := m1.trans' m2 (fun _ _ f => f) (fun j hj e => by have e' : j = w.heap.size := e; omega)
 generalize w1.setCells w.heap.size 0 (octV us).toArray.toList = w2 at *
 have hbase := hA.base
 have hs2 := m12.size
 have hA2 : WA Γ x out ((((((a.put (some t1) (a.eval (.tmp σ.s))).put (some t2) (.pointer (some ⟨blk, off, none⟩))).put (some t3) (.pointer (some ⟨blk, off + o, none⟩))).put (some t4) (.agg (octV us).toArray)).put (some tb) (.pointer (some ⟨w.heap.size, 0, none⟩)))) w2 := by
  have q := ((((hA.put f1 (a.eval (.tmp σ.s))).put f2 (.pointer (some ⟨blk, off, none⟩))).put f3 (.pointer (some ⟨blk, off + o, none⟩))).put f4 (.agg (octV us).toArray)).put fb (.pointer (some ⟨w.heap.size, 0, none⟩))
  exact ⟨q.size, q.defers, q.dst.mod m12 (fun _ _ f => f), q.ver, q.flex, by omega⟩
 have htb2 := htb (.pointer (some ⟨w.heap.size, 0, none⟩))
 have hsb2 : SameBut (fun t => t = t1 \/ t = t2 \/ t = t3 \/ t = t4 \/ t = tb) a ((((((a.put (some t1) (a.eval (.tmp σ.s))).put (some t2) (.pointer (some ⟨blk, off, none⟩))).put (some t3) (.pointer (some ⟨blk, off + o, none⟩))).put (some t4) (.agg (octV us).toArray)).put (some tb) (.pointer (some ⟨w.heap.size, 0, none⟩)))) :=
  (((((SameBut.refl a).put (by simp) _).put (by simp) _).put (by simp) _).put (by simp) _).put (by simp) _
 refine wp_act (fun b => WA Γ x out b w2 /\ Act.get b tb = .pointer (some ⟨w.heap.size, 0, none⟩) /\ SameBut (fun t => t = t1 \/ t = t2 \/ t = t3 \/ t = t4 \/ t = tb) a b) ⟨hA2, htb2, hsb2⟩ ?_
 rintro b ⟨hAb, hbt, hsb⟩
 have hrv : RepV w2 F .uuid (.agg (octV us).toArray) z := by
  refine .inr ⟨rfl, (octV us).toArray, rfl, by simp [octV, hul], hall, ?_⟩
  simp only [Rep]
  refine ⟨us, hul, fun j hj => ?_, hzu⟩
  simp [from', octV, Array.getD_eq_getD_getElem?, hj]
 rw [hE _ _ _ ho] at hl ⊢
 refine wp_region_lit (Zv rfl Zm (Zv rfl (x_loadN (b := w.heap.size) (o := 0) (cs := octV us) (by rw [octV_length, hul]; exact ho1) ?_ ?_) (wpl_call rfl (Zy hb rfl) (R := fun e w' => ∃ v, e = .returned v /\ OwnB w' x.base v (out ++ E' z) /\ Fine (Act.get b 1) v w2 w') ?_ ?_)))
 ·rw [Ze, Zn n1b]; exact hbt
 ·intro j u hu
  rw [Zc k2, Nat.zero_add]
  simpa using hu
 ·rw [show ∀ a : Act, (#[Operand.tmp u1, .tmp u2] : Array Operand).map a.eval = #[Act.get a u1, Act.get a u2] from fun a => by simp [Ze]]
  rw [Zn (Ne.symm n12), Zq (hAb.lt g1), Zq (by rw [Zs]; exact hAb.lt g2), Ze]
  exact (hc w2 F x.base _ out _ z hAb.dst hAb.base hrv hF hl).out
 rintro e w' ⟨v', rfl, k1, k3⟩
 refine ⟨_, rfl, Zv rfl Zi (wpList_nil ⟨rfl, ?_, ?_, ?_⟩)⟩
 ·refine (((hAb.put g1 _).put g2 _).put g3 _).setD hok (w' := w') ?_ (by have := k3.size; have := hAb.base; omega)
  rw [Ze, Zq (by simp only [Zs]; exact hAb.lt g3)]
  exact k1
 ·refine (((((hsb.mono fun t ht => ?_).put (by simp [W, writes]) _).put (by simp [W, writes]) _).put (by simp [W, writes]) _).put (by simp [W, writes]) _)
  rcases ht with rfl | rfl | rfl | rfl | rfl <;> simp [W, writes]
 ·exact (m12.mono (fun _ _ f => f.elim)).trans' (k3.low hAb.dst) (fun _ _ h => h) (fun j hj e => by omega)
end
end Go.Proofs.YtmehfgiadapekaaGreat
set_option linter.unusedSimpArgs false
set_option linter.unusedVariables false
namespace Go.Proofs.YtmehfgiadapekaaGreat
open Go Go.RowKit
abbrev Zg : List FD := [.mk 11 0 (-1) (-1) (-1) 0 10 [.mk 7 0 (-1) (-1) (-1) 0 0 [], .mk 11 0 (-1) (-1) (-1) 0 10 [.mk 3 0 (-1) (-1) (-1) 0 0 [], .mk 2 0 (-1) (-1) (-1) 0 0 [], .mk 8 0 (-1) 0 (-1) 0 0 [], .mk 3 0 (-1) (-1) (-1) 0 0 [], .mk 4 0 (-1) (-1) (-1) 0 0 [], .mk 11 0 (-1) (-1) (-1) 0 10 [.mk 4 0 (-1) (-1) (-1) 0 0 [], .mk 4 0 (-1) (-1) (-1) 0 0 [], .mk 1 0 (-1) (-1) (-1) 0 0 [], .mk 2 0 (-1) (-1) (-1) 0 0 []]]]]
abbrev Zf : Int -> Bool := fun ver => decide ((0 : Int) <= ver)
abbrev Zk : OkV := fun ver fl => 0 <= ver /\ ver <= 0 /\ fl = Zf ver
abbrev aReadShareGroupStateResponse : St := ⟨0, .cons 0 (.int .i16) (.cons 1 (.list (.struct (.cons 0 .uuid (.cons 16 (.list (.struct (.cons 0 (.int .i32) (.cons 1 (.int .i16) (.cons 2 .pstr (.cons 3 (.int .i32) (.cons 4 (.int .i64) (.cons 5 (.list (.struct (.cons 0 (.int .i64) (.cons 1 (.int .i64) (.cons 2 (.int .i8) (.cons 3 (.int .i16) .nil)))) (some 4) 5) 5) .nil)))))) (some 6) 7) 7) .nil)) (some 17) 18) 18) .nil), some 2, 3⟩
abbrev aReadShareGroupStateResponse_1 : St := ⟨9, .cons 0 .uuid (.cons 16 (.list (.struct (.cons 0 (.int .i32) (.cons 1 (.int .i16) (.cons 2 .pstr (.cons 3 (.int .i32) (.cons 4 (.int .i64) (.cons 5 (.list (.struct (.cons 0 (.int .i64) (.cons 1 (.int .i64) (.cons 2 (.int .i8) (.cons 3 (.int .i16) .nil)))) (some 4) 5) 5) .nil)))))) (some 6) 7) 7) .nil), some 17, 18⟩
abbrev aReadShareGroupStateResponse_2 : St := ⟨13, .cons 0 (.int .i32) (.cons 1 (.int .i16) (.cons 2 .pstr (.cons 3 (.int .i32) (.cons 4 (.int .i64) (.cons 5 (.list (.struct (.cons 0 (.int .i64) (.cons 1 (.int .i64) (.cons 2 (.int .i8) (.cons 3 (.int .i16) .nil)))) (some 4) 5) 5) .nil))))), some 6, 7⟩
abbrev aReadShareGroupStateResponse_3 : St := ⟨21, .cons 0 (.int .i64) (.cons 1 (.int .i64) (.cons 2 (.int .i8) (.cons 3 (.int .i16) .nil))), some 4, 5⟩
set_option maxRecDepth 100000 in
theorem app_ReadShareGroupStateResponse : AppToC Tryz.prog 23 aReadShareGroupStateResponse (fun ver => decide ((0 : Int) <= ver)) Zk Zg := by
 refine app_top (m := 26) (N := 231) Tryz.func23 rfl rfl (by kernel_rfl) (by kernel_rfl) rfl rfl (by decide) (by decide) rfl ?_
 refine emitw_fields (σ := aReadShareGroupStateResponse) (i := 1) rfl ?_ ?_ (by rfl)
 ·refine emit_had (σ := aReadShareGroupStateResponse) (i := 1) (E := listE false (structW ([.mk 7 0 (-1) (-1) (-1) 0 0 [], .mk 11 0 (-1) (-1) (-1) 0 10 [.mk 3 0 (-1) (-1) (-1) 0 0 [], .mk 2 0 (-1) (-1) (-1) 0 0 [], .mk 8 0 (-1) 0 (-1) 0 0 [], .mk 3 0 (-1) (-1) (-1) 0 0 [], .mk 4 0 (-1) (-1) (-1) 0 0 [], .mk 11 0 (-1) (-1) (-1) 0 10 [.mk 4 0 (-1) (-1) (-1) 0 0 [], .mk 4 0 (-1) (-1) (-1) 0 0 [], .mk 1 0 (-1) (-1) (-1) 0 0 [], .mk 2 0 (-1) (-1) (-1) 0 0 []]]]))) ?_ (by intro v l h; simp [Zk, Zf] at h; exact hadW_of (by decide) (by omega) (by omega)) (fun v l t _ => by simp [encW, listE] <;> rfl)
  refine emit_leaf (σ := aReadShareGroupStateResponse) (i := 1) (o := 1) (ty := .list (.struct (.cons 0 .uuid (.cons 16 (.list (.struct (.cons 0 (.int .i32) (.cons 1 (.int .i16) (.cons 2 .pstr (.cons 3 (.int .i32) (.cons 4 (.int .i64) (.cons 5 (.list (.struct (.cons 0 (.int .i64) (.cons 1 (.int .i64) (.cons 2 (.int .i8) (.cons 3 (.int .i16) .nil)))) (some 4) 5) 5) .nil)))))) (some 6) 7) 7) .nil)) (some 17) 18) 18) ?_ (by rfl) (by kernel_rfl) (by kernel_rfl) rfl rfl
  refine emit_list ?_ ?_ (by rfl)
  ·refine emit_cond (rs := [_]) (tstw_flex (by rfl)) ?_ ?_ preC_stable (by rfl)
   ·refine emit_cnt ct_calen (by kernel_rfl) (by kernel_rfl) rfl (by rfl) (fun v l h => h.2)
   ·refine emit_cnt ct_alen (by kernel_rfl) (by kernel_rfl) rfl (by rfl) (fun v l h => h.2)
  ·refine emit_loop ?_ (by kernel_rfl) rfl (by rfl)
   refine emit_els (σe := aReadShareGroupStateResponse_1) ?_ (by kernel_rfl) rfl (by rfl) (by rfl)
   refine emit_fields (σ := aReadShareGroupStateResponse_1) (i := 0) rfl ?_ ?_ (by rfl)
   ·refine emit_had (σ := aReadShareGroupStateResponse_1) (i := 0) (E := fun _ fl x => leafE 7 (-1) fl x) ?_ (by intro v l h; simp [Zk, Zf] at h; exact hadW_of (by decide) (by omega) (by omega)) (fun v l t _ => by simp [encW])
    exact emit_uuidb (σ := aReadShareGroupStateResponse_1) (i := 0) (o := 0) (av_uuid (null := (-1)) (fl := true)) (by kernel_rfl) (fun v l t h => by first | rfl | (obtain ⟨_, h⟩ := h; have h : l = true := h; subst h; rfl) | (obtain ⟨_, h⟩ := h; have h : l = false := h; subst h; rfl)) (by rfl) (by kernel_rfl) (by kernel_rfl) rfl rfl (by kernel_rfl) rfl
   ·refine emit_fields (σ := aReadShareGroupStateResponse_1) (i := 1) rfl ?_ ?_ (by rfl)
    ·refine emit_had (σ := aReadShareGroupStateResponse_1) (i := 1) (E := listE false (structW ([.mk 3 0 (-1) (-1) (-1) 0 0 [], .mk 2 0 (-1) (-1) (-1) 0 0 [], .mk 8 0 (-1) 0 (-1) 0 0 [], .mk 3 0 (-1) (-1) (-1) 0 0 [], .mk 4 0 (-1) (-1) (-1) 0 0 [], .mk 11 0 (-1) (-1) (-1) 0 10 [.mk 4 0 (-1) (-1) (-1) 0 0 [], .mk 4 0 (-1) (-1) (-1) 0 0 [], .mk 1 0 (-1) (-1) (-1) 0 0 [], .mk 2 0 (-1) (-1) (-1) 0 0 []]]))) ?_ (by intro v l h; simp [Zk, Zf] at h; exact hadW_of (by decide) (by omega) (by omega)) (fun v l t _ => by simp [encW, listE] <;> rfl)
     refine emit_leaf (σ := aReadShareGroupStateResponse_1) (i := 1) (o := 16) (ty := .list (.struct (.cons 0 (.int .i32) (.cons 1 (.int .i16) (.cons 2 .pstr (.cons 3 (.int .i32) (.cons 4 (.int .i64) (.cons 5 (.list (.struct (.cons 0 (.int .i64) (.cons 1 (.int .i64) (.cons 2 (.int .i8) (.cons 3 (.int .i16) .nil)))) (some 4) 5) 5) .nil)))))) (some 6) 7) 7) ?_ (by rfl) (by kernel_rfl) (by kernel_rfl) rfl rfl
     refine emit_list ?_ ?_ (by rfl)
     ·refine emit_cond (rs := [_]) (tstw_flex (by rfl)) ?_ ?_ preC_stable (by rfl)
      ·refine emit_cnt ct_calen (by kernel_rfl) (by kernel_rfl) rfl (by rfl) (fun v l h => h.2)
      ·refine emit_cnt ct_alen (by kernel_rfl) (by kernel_rfl) rfl (by rfl) (fun v l h => h.2)
     ·refine emit_loop ?_ (by kernel_rfl) rfl (by rfl)
      refine emit_els (σe := aReadShareGroupStateResponse_2) ?_ (by kernel_rfl) rfl (by rfl) (by rfl)
      refine emit_fields (σ := aReadShareGroupStateResponse_2) (i := 0) rfl ?_ ?_ (by rfl)
      ·refine emit_had (σ := aReadShareGroupStateResponse_2) (i := 0) (E := fun _ fl x => leafE 3 (-1) fl x) ?_ (by intro v l h; simp [Zk, Zf] at h; exact hadW_of (by decide) (by omega) (by omega)) (fun v l t _ => by simp [encW])
       refine emit_leaf (σ := aReadShareGroupStateResponse_2) (i := 0) (o := 0) (ty := .int .i32) ?_ (by rfl) (by kernel_rfl) (by kernel_rfl) rfl rfl
       refine emit_call (av_i32 (null := (-1)) (fl := true)) (by kernel_rfl) (by rfl) (fun v l t h => by first | rfl | (obtain ⟨_, h⟩ := h; have h : l = true := h; subst h; rfl) | (obtain ⟨_, h⟩ := h; have h : l = false := h; subst h; rfl))
      ·refine emit_fields (σ := aReadShareGroupStateResponse_2) (i := 1) rfl ?_ ?_ (by rfl)
       ·refine emit_had (σ := aReadShareGroupStateResponse_2) (i := 1) (E := fun _ fl x => leafE 2 (-1) fl x) ?_ (by intro v l h; simp [Zk, Zf] at h; exact hadW_of (by decide) (by omega) (by omega)) (fun v l t _ => by simp [encW])
        refine emit_leaf (σ := aReadShareGroupStateResponse_2) (i := 1) (o := 1) (ty := .int .i16) ?_ (by rfl) (by kernel_rfl) (by kernel_rfl) rfl rfl
        refine emit_call (av_i16 (null := (-1)) (fl := true)) (by kernel_rfl) (by rfl) (fun v l t h => by first | rfl | (obtain ⟨_, h⟩ := h; have h : l = true := h; subst h; rfl) | (obtain ⟨_, h⟩ := h; have h : l = false := h; subst h; rfl))
       ·refine emit_fields (σ := aReadShareGroupStateResponse_2) (i := 2) rfl ?_ ?_ (by rfl)
        ·refine emit_had (σ := aReadShareGroupStateResponse_2) (i := 2) (E := fun _ fl x => leafE 8 0 fl x) ?_ (by intro v l h; simp [Zk, Zf] at h; exact hadW_of (by decide) (by omega) (by omega)) (fun v l t _ => by simp [encW])
         refine emit_leaf (σ := aReadShareGroupStateResponse_2) (i := 2) (o := 2) (ty := .pstr) ?_ (by rfl) (by kernel_rfl) (by kernel_rfl) rfl rfl
         refine emit_cond (rs := [_]) (tstw_flex (by rfl)) ?_ ?_ preV_stable (by rfl)
         ·refine emit_call (av_cnstr (null := 0) (by decide)) (by kernel_rfl) (by rfl) (fun v l t h => by first | rfl | (obtain ⟨_, h⟩ := h; have h : l = true := h; subst h; rfl) | (obtain ⟨_, h⟩ := h; have h : l = false := h; subst h; rfl))
         ·refine emit_call (av_nstr (null := 0) (by decide)) (by kernel_rfl) (by rfl) (fun v l t h => by first | rfl | (obtain ⟨_, h⟩ := h; have h : l = true := h; subst h; rfl) | (obtain ⟨_, h⟩ := h; have h : l = false := h; subst h; rfl))
        ·refine emit_fields (σ := aReadShareGroupStateResponse_2) (i := 3) rfl ?_ ?_ (by rfl)
         ·refine emit_had (σ := aReadShareGroupStateResponse_2) (i := 3) (E := fun _ fl x => leafE 3 (-1) fl x) ?_ (by intro v l h; simp [Zk, Zf] at h; exact hadW_of (by decide) (by omega) (by omega)) (fun v l t _ => by simp [encW])
          refine emit_leaf (σ := aReadShareGroupStateResponse_2) (i := 3) (o := 3) (ty := .int .i32) ?_ (by rfl) (by kernel_rfl) (by kernel_rfl) rfl rfl
          refine emit_call (av_i32 (null := (-1)) (fl := true)) (by kernel_rfl) (by rfl) (fun v l t h => by first | rfl | (obtain ⟨_, h⟩ := h; have h : l = true := h; subst h; rfl) | (obtain ⟨_, h⟩ := h; have h : l = false := h; subst h; rfl))
         ·refine emit_fields (σ := aReadShareGroupStateResponse_2) (i := 4) rfl ?_ ?_ (by rfl)
          ·refine emit_had (σ := aReadShareGroupStateResponse_2) (i := 4) (E := fun _ fl x => leafE 4 (-1) fl x) ?_ (by intro v l h; simp [Zk, Zf] at h; exact hadW_of (by decide) (by omega) (by omega)) (fun v l t _ => by simp [encW])
           refine emit_leaf (σ := aReadShareGroupStateResponse_2) (i := 4) (o := 4) (ty := .int .i64) ?_ (by rfl) (by kernel_rfl) (by kernel_rfl) rfl rfl
           refine emit_call (av_i64 (null := (-1)) (fl := true)) (by kernel_rfl) (by rfl) (fun v l t h => by first | rfl | (obtain ⟨_, h⟩ := h; have h : l = true := h; subst h; rfl) | (obtain ⟨_, h⟩ := h; have h : l = false := h; subst h; rfl))
          ·refine emit_fields (σ := aReadShareGroupStateResponse_2) (i := 5) rfl ?_ ?_ (by rfl)
           ·refine emit_had (σ := aReadShareGroupStateResponse_2) (i := 5) (E := listE false (structW ([.mk 4 0 (-1) (-1) (-1) 0 0 [], .mk 4 0 (-1) (-1) (-1) 0 0 [], .mk 1 0 (-1) (-1) (-1) 0 0 [], .mk 2 0 (-1) (-1) (-1) 0 0 []]))) ?_ (by intro v l h; simp [Zk, Zf] at h; exact hadW_of (by decide) (by omega) (by omega)) (fun v l t _ => by simp [encW, listE] <;> rfl)
            refine emit_leaf (σ := aReadShareGroupStateResponse_2) (i := 5) (o := 5) (ty := .list (.struct (.cons 0 (.int .i64) (.cons 1 (.int .i64) (.cons 2 (.int .i8) (.cons 3 (.int .i16) .nil)))) (some 4) 5) 5) ?_ (by rfl) (by kernel_rfl) (by kernel_rfl) rfl rfl
            refine emit_list ?_ ?_ (by rfl)
            ·refine emit_cond (rs := [_]) (tstw_flex (by rfl)) ?_ ?_ preC_stable (by rfl)
             ·refine emit_cnt ct_calen (by kernel_rfl) (by kernel_rfl) rfl (by rfl) (fun v l h => h.2)
             ·refine emit_cnt ct_alen (by kernel_rfl) (by kernel_rfl) rfl (by rfl) (fun v l h => h.2)
            ·refine emit_loop ?_ (by kernel_rfl) rfl (by rfl)
             refine emit_els (σe := aReadShareGroupStateResponse_3) ?_ (by kernel_rfl) rfl (by rfl) (by rfl)
             refine emit_fields (σ := aReadShareGroupStateResponse_3) (i := 0) rfl ?_ ?_ (by rfl)
             ·refine emit_had (σ := aReadShareGroupStateResponse_3) (i := 0) (E := fun _ fl x => leafE 4 (-1) fl x) ?_ (by intro v l h; simp [Zk, Zf] at h; exact hadW_of (by decide) (by omega) (by omega)) (fun v l t _ => by simp [encW])
              refine emit_leaf (σ := aReadShareGroupStateResponse_3) (i := 0) (o := 0) (ty := .int .i64) ?_ (by rfl) (by kernel_rfl) (by kernel_rfl) rfl rfl
              refine emit_call (av_i64 (null := (-1)) (fl := true)) (by kernel_rfl) (by rfl) (fun v l t h => by first | rfl | (obtain ⟨_, h⟩ := h; have h : l = true := h; subst h; rfl) | (obtain ⟨_, h⟩ := h; have h : l = false := h; subst h; rfl))
             ·refine emit_fields (σ := aReadShareGroupStateResponse_3) (i := 1) rfl ?_ ?_ (by rfl)
              ·refine emit_had (σ := aReadShareGroupStateResponse_3) (i := 1) (E := fun _ fl x => leafE 4 (-1) fl x) ?_ (by intro v l h; simp [Zk, Zf] at h; exact hadW_of (by decide) (by omega) (by omega)) (fun v l t _ => by simp [encW])
               refine emit_leaf (σ := aReadShareGroupStateResponse_3) (i := 1) (o := 1) (ty := .int .i64) ?_ (by rfl) (by kernel_rfl) (by kernel_rfl) rfl rfl
               refine emit_call (av_i64 (null := (-1)) (fl := true)) (by kernel_rfl) (by rfl) (fun v l t h => by first | rfl | (obtain ⟨_, h⟩ := h; have h : l = true := h; subst h; rfl) | (obtain ⟨_, h⟩ := h; have h : l = false := h; subst h; rfl))
              ·refine emit_fields (σ := aReadShareGroupStateResponse_3) (i := 2) rfl ?_ ?_ (by rfl)
               ·refine emit_had (σ := aReadShareGroupStateResponse_3) (i := 2) (E := fun _ fl x => leafE 1 (-1) fl x) ?_ (by intro v l h; simp [Zk, Zf] at h; exact hadW_of (by decide) (by omega) (by omega)) (fun v l t _ => by simp [encW])
                refine emit_leaf (σ := aReadShareGroupStateResponse_3) (i := 2) (o := 2) (ty := .int .i8) ?_ (by rfl) (by kernel_rfl) (by kernel_rfl) rfl rfl
                refine emit_call (av_i8 (null := (-1)) (fl := true)) (by kernel_rfl) (by rfl) (fun v l t h => by first | rfl | (obtain ⟨_, h⟩ := h; have h : l = true := h; subst h; rfl) | (obtain ⟨_, h⟩ := h; have h : l = false := h; subst h; rfl))
               ·refine emit_fields (σ := aReadShareGroupStateResponse_3) (i := 3) rfl ?_ ?_ (by rfl)
                ·refine emit_had (σ := aReadShareGroupStateResponse_3) (i := 3) (E := fun _ fl x => leafE 2 (-1) fl x) ?_ (by intro v l h; simp [Zk, Zf] at h; exact hadW_of (by decide) (by omega) (by omega)) (fun v l t _ => by simp [encW])
                 refine emit_leaf (σ := aReadShareGroupStateResponse_3) (i := 3) (o := 3) (ty := .int .i16) ?_ (by rfl) (by kernel_rfl) (by kernel_rfl) rfl rfl
                 refine emit_call (av_i16 (null := (-1)) (fl := true)) (by kernel_rfl) (by rfl) (fun v l t h => by first | rfl | (obtain ⟨_, h⟩ := h; have h : l = true := h; subst h; rfl) | (obtain ⟨_, h⟩ := h; have h : l = false := h; subst h; rfl))
                ·refine emit_tags ?_ ?_ (by rfl) (by rfl) (by rfl)
                 ·refine emit_tagn (σ := aReadShareGroupStateResponse_3) (o := 4) ?_ ?_ ?_ ?_ ?_ ?_ ?_ <;> first | rfl | decide | kernel_rfl
                 ·refine emit_tage (σ := aReadShareGroupStateResponse_3) (o := 4) ?_ ?_ ?_ ?_ ?_ <;> first | rfl | decide | kernel_rfl
           ·refine emit_tags ?_ ?_ (by rfl) (by rfl) (by rfl)
            ·refine emit_tagn (σ := aReadShareGroupStateResponse_2) (o := 6) ?_ ?_ ?_ ?_ ?_ ?_ ?_ <;> first | rfl | decide | kernel_rfl
            ·refine emit_tage (σ := aReadShareGroupStateResponse_2) (o := 6) ?_ ?_ ?_ ?_ ?_ <;> first | rfl | decide | kernel_rfl
    ·refine emit_tags ?_ ?_ (by rfl) (by rfl) (by rfl)
     ·refine emit_tagn (σ := aReadShareGroupStateResponse_1) (o := 17) ?_ ?_ ?_ ?_ ?_ ?_ ?_ <;> first | rfl | decide | kernel_rfl
     ·refine emit_tage (σ := aReadShareGroupStateResponse_1) (o := 17) ?_ ?_ ?_ ?_ ?_ <;> first | rfl | decide | kernel_rfl
 ·refine emitw_tags ?_ (emitw_end (by rfl))
  refine emit_tags ?_ ?_ (by rfl) (by rfl) (by rfl)
  ·refine emit_tagn (σ := aReadShareGroupStateResponse) (o := 2) ?_ ?_ ?_ ?_ ?_ ?_ ?_ <;> first | rfl | decide | kernel_rfl
  ·refine emit_tage (σ := aReadShareGroupStateResponse) (o := 2) ?_ ?_ ?_ ?_ ?_ <;> first | rfl | decide | kernel_rfl
end Go.Proofs.YtmehfgiadapekaaGreat
