/-
  Kept messages, as package spec writes them; what a law of telling asks of one at its end.
-/
import Derived.Test.YtcldbjehliladaaDoorPWg
import Derived.Test.YtcldbjehliladaaDoorPRk
set_option linter.unusedSimpArgs false
set_option linter.unusedVariables false
namespace Go.Proofs.YtcldbjehliladaaDoor
open Go Go.RowKit
set_option maxRecDepth 100000 in
theorem kept_reg {w : World} {a : Act} {b3 b5 nfs cap : Nat} {ao : Option Addr} {fx ver : Int} {ct : Array Value} {out : List UInt8} {T3 T5 : TypeId} {id : Nat} {y0 y1 y2 y3 y4 y5 y6 y7 : TypeId} {p0 p1 p2 p3 p4 p5 p6 p7 : String} {ts1 ts5 : Array TypeId} (hN : a.tmps.size = 14)
  (g1 : Act.get a 1 = .int .i64 ver) (g3 : Act.get a 3 = .pointer (some ⟨b3, 0, none⟩)) (g5 : Act.get a 5 = .pointer (some ⟨b5, 0, none⟩)) (h3 : w.heap[b3]? = some (.cells #[.slice ao nfs cap, .int .i64 fx] T3 (0, 0))) (h5 : w.heap[b5]? = some (.cells ct T5 (0, 0))) (hct : ct.size = 5)
  (hlo : out.length <= 4294960000) (hW : ∀ W, Mod none' w W -> BytesC Tryd.prog 23 #[.agg #[.slice ao nfs cap, .int .i64 fx], .int .i64 ver, .agg ct] W out) :
  (Code.region id #[⟨some 7, .move (.tmp 1), y0, p0, #[], none⟩,
   ⟨some 8, .call ⟨.value (.func 22), #[.tmp 7, .const (.int .i64 2)], ts1⟩, y1, p1, #[⟨0, .data⟩], none⟩,
   ⟨some 9, .load 32 (.tmp 3), y2, p2, #[], none⟩,
   ⟨some 10, .move (.tmp 1), y3, p3, #[], none⟩,
   ⟨some 11, .load 37 (.tmp 5), y4, p4, #[], none⟩,
   ⟨some 12, .call ⟨.value (.func 23), #[.tmp 9, .tmp 10, .tmp 11], ts5⟩, y5, p5, #[⟨2, .data⟩, ⟨3, .data⟩, ⟨4, .data⟩, ⟨1, .chain⟩], none⟩,
   ⟨some 13, .call ⟨.builtin .append, #[.tmp 8, .tmp 12], #[22, 22]⟩, y6, p6, #[⟨1, .data⟩, ⟨5, .data⟩, ⟨5, .chain⟩], none⟩,
   ⟨some 6, .assign (.tmp 13), y7, p7, #[⟨6, .data⟩, ⟨6, .chain⟩, ⟨0, .phase⟩, ⟨1, .phase⟩, ⟨2, .phase⟩, ⟨3, .phase⟩, ⟨4, .phase⟩, ⟨5, .phase⟩, ⟨6, .phase⟩], none⟩] true).wp Tryd.prog
  (fun e a' w' => e = .normal /\ Mod none' w w' /\ OwnB w' w.heap.size (Act.get a' 6) (fixedE ver 2 ++ out) /\ a'.defers = a.defers) a w := by
 refine region_rlq (l := [_, _, _, _, _, _]) (tl := [_, _]) rfl (Mod none') (fun a b h => h) (fun _ _ _ h h' => h.trans h') [7, 8, 9, 10, 11, 12]
  [fun v _ => v = .int .i64 ver, fun v w' => OwnB w' w.heap.size v (fixedE ver 2), fun v _ => v = .agg (#[.slice ao nfs cap, .int .i64 fx]), fun v _ => v = .int .i64 ver, fun v _ => v = .agg (ct)]
  (fun v w' => OwnB w' w.heap.size v out)
  ?_ ?_ (by simp [regFormT]) (by decide) (fun d hd => by rw [hN]; simp at hd; omega) (by simp) (by kernel_rfl) ⟨?_, ?_, ?_, ?_, ?_, ?_, trivial⟩ ?_
 ·intro g hg u1 w1 w2 hv hr
  simp only [List.mem_cons, List.not_mem_nil, or_false] at hg
  rcases hg with rfl | rfl | rfl | rfl | rfl
  ·exact hv
  ·exact hv.mod hr (fun _ _ f => f)
  ·exact hv
  ·exact hv
  ·exact hv
 ·intro u1 w1 w2 hv hr
  exact hv.mod hr (fun _ _ f => f)
 ·intro a1 w1 hr hp hs hd
  have t1 := (hs.get 1 (by decide)).trans g1
  exact Zw (x_moveV t1) ⟨_, rfl, relp_ne (by rfl) (.refl _), rfl⟩
 ·intro a1 w1 hr hp hs hd
  have q0 : Act.get a1 7 = .int .i64 ver := hd ⟨0, .data⟩ (by simp) rfl
  have e1 : (#[.tmp 7, .const (.int .i64 2)] : Array Operand).map a1.eval = #[.int .i64 ver, .int .i64 2] := by simp [Ze, q0]; rfl
  refine owp_call (Zy (by kernel_rfl) rfl) (by rw [e1]; exact fixed_c (size := 2) (by decide)) ?_
  rintro e w2 ⟨v, rfl, hm, ho⟩
  exact ⟨_, rfl, _, rfl, relp_ne (by rfl) hm, ho.low hr.size⟩
 ·intro a1 w1 hr hp hs hd
  have t1 := (hs.get 3 (by decide)).trans g3
  have k1 := hr.some h3 (fun f => f)
  refine Zw (x_loadN (cs := (#[.slice ao nfs cap, .int .i64 fx]).toList) (b := b3) (o := 0) (by kernel_rfl) (by rw [Ze]; exact t1) (fun j v hv => by rw [Zc k1, Nat.zero_add]; simpa using hv)) ⟨_, rfl, relp_ne (by rfl) (.refl _), by simp⟩
 ·intro a1 w1 hr hp hs hd
  have t1 := (hs.get 1 (by decide)).trans g1
  exact Zw (x_moveV t1) ⟨_, rfl, relp_ne (by rfl) (.refl _), rfl⟩
 ·intro a1 w1 hr hp hs hd
  have t1 := (hs.get 5 (by decide)).trans g5
  have k1 := hr.some h5 (fun f => f)
  refine Zw (x_loadN (cs := (ct).toList) (b := b5) (o := 0) (by rw [Array.length_toList, hct]; kernel_rfl) (by rw [Ze]; exact t1) (fun j v hv => by rw [Zc k1, Nat.zero_add]; simpa using hv)) ⟨_, rfl, relp_ne (by rfl) (.refl _), by simp⟩
 ·intro a1 w1 hr hp hs hd
  have q2 : Act.get a1 9 = .agg #[.slice ao nfs cap, .int .i64 fx] := hd ⟨2, .data⟩ (by simp) rfl
  have q3 : Act.get a1 10 = .int .i64 ver := hd ⟨3, .data⟩ (by simp) rfl
  have q4 : Act.get a1 11 = .agg ct := hd ⟨4, .data⟩ (by simp) rfl
  have e1 : (#[.tmp 9, .tmp 10, .tmp 11] : Array Operand).map a1.eval = #[.agg #[.slice ao nfs cap, .int .i64 fx], .int .i64 ver, .agg ct] := by simp [Ze, q2, q3, q4]
  refine owp_call (Zy (by kernel_rfl) rfl) (by rw [e1]; exact hW w1 hr) ?_
  rintro e w2 ⟨v, rfl, hm, ho⟩
  exact ⟨_, rfl, _, rfl, relp_eq hm, ho.low hr.size⟩
 ·intro a1 w1 hr hs hh
  have q1 : OwnB w1 w.heap.size (Act.get a1 8) (fixedE ver 2) := hh 1 (by simp)
  have q5 : OwnB w1 w.heap.size (Act.get a1 12) out := hh 5 (by simp)
  obtain ⟨nl, _, ho5⟩ := q5.oct
  have hlo2 : 2 + out.length <= 4294967296 := by omega
  refine wpl_octs (base := w.heap.size) (v := Act.get a1 8) (xv := Act.get a1 12) (bs := fixedE ver 2) (cs := out) octs_info rfl rfl q1 (OctI.of_oct ho5) (by rw [fixedE_length]; exact hlo2) hr.size ?_
  intro v' w' ho hm
  refine Zv rfl Zi (wpList_nil ⟨rfl, hr.fresh hm, ?_, (Zd _ _ _).trans ((Zd _ _ _).trans hs.defers)⟩)
  rw [Zq (by simp only [Zs]; rw [hs.size, hN]; decide), Ze, Zq (by rw [hs.size, hN]; decide)]
  exact ho
theorem leafs_low {fs : List FD} (h : ∀ f ∈ fs, leafK f.kind = true) (hn : fs.length <= 1000) {ver : Int} {fl : Bool} {t : Tr} (ht : TOk t) : (partW fs ver fl t).length <= 4294960000 := by
 have h1 := fieldsW_len (ver := ver) (flex := fl) (t := t) fs 0 h
 have ho := unk_ok t.U ht.tags
 have h2 := tags_len (unkW t.U) (fun p hp => (ho.2.2 p hp).2)
 have h4 := ho.2.1
 have h3 := uvE_ten (n := (unkW t.U).length) (by omega)
 have h5 : (tagsW (unkW t.U)).length <= 10 + (unkW t.U).length * 32800 := by simp only [tagsW, List.length_append]; omega
 rw [partW, List.length_append]
 split
 ·omega
 ·simp only [List.length_nil]; omega
theorem kept_c {w : World} {v : Value} {fs : List FD} {fx ver : Int} {ct : Array Value} {t : Tr} (hg : goodL fs = true) (hf : FdsI w v fs) (hct : ct.size = 5) (ht : TreeI w (from' ct 0) t) (hlen : (partW fs ver (flexW fx ver) t).length <= 4294960000) :
  BytesC Tryd.prog 7 #[.agg #[v, .int .i64 fx], .int .i64 ver, .agg ct] w (fixedE ver 2 ++ partW fs ver (flexW fx ver) t) := by
 obtain ⟨ao, cap, hfv⟩ := hf.slice
 subst hfv
 refine calls_of_wp Tryd.func7 rfl ?_
 refine wp_act (fun a : Act => Act.get a 0 = .agg #[.slice ao fs.length cap, .int .i64 fx] /\ Act.get a 1 = .int .i64 ver /\ Act.get a 2 = .agg ct /\ a.tmps.size = 14 /\ a.defers = []) ⟨?_, ?_, ?_, ?_, rfl⟩ ?_
 ·rw [Zj _ _ _ (by simp)]; rfl
 ·rw [Zj _ _ _ (by simp)]; rfl
 ·rw [Zj _ _ _ (by simp)]; rfl
 ·rw [Tryd.ntmps7]; simp
 rintro a ⟨a0, a1, a2, aN, ad⟩
 refine wp_seq (wp_region_lit (Zv rfl x_box (Zv rfl x_box (Zv rfl Zi (wpList_nil ?_)))))
 rw [show (a.eval (.tmp 0)).cells = #[.slice ao fs.length cap, .int .i64 fx] from by rw [Ze, a0]; rfl]
 rw [show ((a.put (some 3) (.pointer (some ⟨w.heap.size, 0, none⟩))).eval (.tmp 2)).cells = ct from by rw [Ze, Zn (by decide), a2]; rfl]
 obtain ⟨b3, b5⟩ := two_boxes (Mod.refl (S := none') ((w.alloc (.cells #[.slice ao fs.length cap, .int .i64 fx] 32)).alloc (.cells ct 37)))
 have m0 : Mod none' w ((w.alloc (.cells #[.slice ao fs.length cap, .int .i64 fx] 32)).alloc (.cells ct 37)) := ((Mod.refl w).alloc _).alloc _
 have s1 : (w.alloc (.cells #[.slice ao fs.length cap, .int .i64 fx] 32)).heap.size = w.heap.size + 1 := by simp
 rw [s1]
 generalize (w.alloc (.cells #[.slice ao fs.length cap, .int .i64 fx] 32)).alloc (.cells ct 37) = w1 at *
 refine wp_act (fun a : Act => Act.get a 1 = .int .i64 ver /\ Act.get a 3 = .pointer (some ⟨w.heap.size, 0, none⟩) /\ Act.get a 5 = .pointer (some ⟨w.heap.size + 1, 0, none⟩) /\ a.tmps.size = 14 /\ a.defers = []) ⟨?_, ?_, ?_, ?_, ?_⟩ ?_
 ·simp (disch := first | omega | simp only [Zs]; omega) only [Zo, Ze, Zn, Zq, a1]
 ·simp (disch := first | omega | simp only [Zs]; omega) only [Zo, Ze, Zn, Zq]
 ·simp (disch := first | omega | simp only [Zs]; omega) only [Zo, Ze, Zn, Zq]
 ·simp only [Zs]; exact aN
 ·simp only [Zd]; exact ad
 clear a0 a1 a2 aN ad
 rintro a ⟨a1, a3, a5, aN, ad⟩
 refine wp_seq (wp_mono (kept_reg aN a1 a3 a5 b3 b5 hct hlen (fun W hm => write_c hg ((hf.mod m0).mod hm) hct ((ht.mod m0).mod hm) (by omega))) ?_)
 rintro e a' w2 ⟨rfl, hm, ho, hd⟩
 exact wp_ret (bodyPost_ret (results_tmp rfl _ _ _) (hd.trans ad) ⟨_, rfl, m0.trans hm, ho.low m0.size⟩)
end Go.Proofs.YtcldbjehliladaaDoor
