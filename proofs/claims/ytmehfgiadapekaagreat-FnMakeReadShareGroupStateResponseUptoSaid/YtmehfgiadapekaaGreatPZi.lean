/-
  A tree that is being made: a thing is put behind its list (spec.Fit, spec.fitted).
-/
import Derived.Test.YtmehfgiadapekaaGreatPZg
import Derived.Test.YtmehfgiadapekaaGreatPWp
import Derived.Test.YtmehfgiadapekaaGreatPZb
set_option linter.unusedSimpArgs false
set_option linter.unusedVariables false
namespace Go.Proofs.YtmehfgiadapekaaGreat
open Go Go.RowKit
/-- a tree that is being made, in a block of its own; one of its lists -/
structure TbS {α : Type} (Rl : World -> (Nat -> Prop) -> (Nat -> Value) -> α -> Prop) (e sz o B : Nat) (F : Nat -> Prop) (blk : Nat) (C : Array Value) (w : World) (ld : List α) : Prop where
 heap : ∃ T, w.heap[blk]? = some (.cells C T (0, 0))
 size : C.size = 5
 row : ∃ lv lrow, C[0 + o]? = some lv /\ RowG Rl e sz B F w lv lrow ld
 lo : blk < B /\ B <= w.heap.size /\ (∀ k, F k -> k < blk) /\ o < 5
/-- what may change while such a tree is made -/
def TbM (blk B : Nat) : Nat -> Prop := fun k => k = blk \/ B <= k
section
variable {α : Type} {Rl : World -> (Nat -> Prop) -> (Nat -> Value) -> α -> Prop} {e sz o B : Nat} {F : Nat -> Prop} {blk : Nat} {C : Array Value} {w w' : World} {ld : List α}
theorem TbS.new (hok : RlOk Rl sz) (h : TbS Rl e sz o B F blk C w ld) (hm : Mod none' w w') : TbS Rl e sz o B F blk C w' ld := by
 obtain ⟨T, h1⟩ := h.heap
 obtain ⟨lv, lrow, h2, h3⟩ := h.row
 exact ⟨⟨T, hm.some h1 (fun f => f)⟩, h.size, ⟨lv, lrow, h2, h3.grow hok hm⟩, h.lo.1, Nat.le_trans h.lo.2.1 hm.size, h.lo.2.2⟩
theorem row_append {P : Program} {W w1 : World} {lv : Value} {lrow : List Value} {y : α} {nb d : Nat} {ms : Array Value} {ρ : Operand -> Value} {LT : TypeId} {ty : TypeId} {p : String} {af : Array Edge} {s x : Operand} (hok : RlOk Rl sz) (hI : elemInfo P LT e sz = true)
  (hG : RowG Rl e sz B F W lv lrow ld) (hm : Mod none' W w1) (hF : ∀ k, F k -> k < B) (hB : B <= W.heap.size) (hs : ρ s = lv) (hx : ρ x = .slice (some ⟨nb, 0, none⟩) 1 1) (hnb : w1.heap[nb]? = some (.cells ms e (0, 0))) (hms : ms.size = sz) (hone : ms.all (·.oneCell') = true)
  (hel : Rl w1 (fun k => F k \/ W.heap.size <= k) (from' ms 0) y) (hlen : ld.length < 4294967295) :
  ∃ v' w2, (execOp ρ ⟨some d, .call ⟨.builtin .append, #[s, x], #[LT, LT]⟩, ty, p, af, none⟩).run P w1 = .ok (.value v') w2 /\ RowG Rl e sz B F w2 v' (lrow ++ ms.toList) (ld ++ [y]) /\ Mod (fun k => lv.ownBlock = some k) w1 w2 /\ v'.oneCell' = true := by
 have hps := hm.size
 have hG1 := hG.grow hok hm
 obtain ⟨v', w2, hrun, k1, k2, k3, k4⟩ := x_append (P := P) (ρ := ρ) (w := w1) (d := some d) (ty := ty) (p := p) (af := af) (g := none) (s := s) (x := x) (base := B) (n := ld.length) (xs := lrow) (ad := ⟨nb, 0, none⟩) (m := 1) (c := 1) (news := ms.toList) hI hs hx hG1.own (by simp [hms]) (fun j u hu => by rw [Addr.add_mid, Zc hnb, Nat.zero_add]; simpa using hu) (fun u hu => Array.all_eq_true_iff_forall_mem.1 hone u (by simpa using hu)) (by omega) (by omega)
 refine ⟨v', w2, hrun, hG1.push hok k2 (by simpa using k1) (by simp [hms]) k4 ?_, k2, ?_⟩
 ·refine hok.mod (hok.congr (hok.lt hel) (fun j hj => by simp [from', List.getD_eq_getElem?_getD])) (Mod.refl (S := none') w1) (fun _ _ f => f) (fun k hk => ?_)
  obtain ⟨hk1, hk2⟩ := hk
  refine ⟨?_, fun e => ?_, hk2⟩
  ·rcases hk1 with hk1 | hk1
   ·exact .inl hk1
   ·exact .inr (by omega)
  ·have := hG.own.lt k e
   rcases hk1 with hk1 | hk1
   ·have := hF k hk1; omega
   ·omega
 ·rcases k1.2 with ⟨rfl, _⟩ | ⟨g2, cap2, _, hv2, _⟩
  ·rfl
  ·rw [hv2]; rfl
/-- the slice is stored -/
theorem TbS.store {w1 : World} {lv v' : Value} {lrow' : List Value} {y : α} (hok : RlOk Rl sz) (h : TbS Rl e sz o B F blk C w ld) (h2 : C[0 + o]? = some lv) (hm : Mod (fun k => lv.ownBlock = some k) w w1) (hlv : ∀ k, lv.ownBlock = some k -> B <= k) (hG : RowG Rl e sz B F w1 v' lrow' (ld ++ [y])) :
  TbS Rl e sz o B F blk (C.setIfInBounds (0 + o) v') (w1.setCell ⟨blk, 0 + o, none⟩ v') (ld ++ [y]) /\ Mod (TbM blk B) w (w1.setCell ⟨blk, 0 + o, none⟩ v') := by
 obtain ⟨T, h1⟩ := h.heap
 obtain ⟨l1, l2, l3, l4⟩ := h.lo
 have h1' := hm.some h1 (fun e => by have := hlv _ e; omega)
 have m2 : Mod (only blk) w1 (w1.setCell ⟨blk, 0 + o, none⟩ v') := (Mod.refl w1).put _ _
 have hs1 := hm.size
 have hs2 := m2.size
 have hsz := h.size
 refine ⟨⟨⟨T, heap_setCell_same h1' _⟩, by simpa using hsz, ⟨v', lrow', by rw [Array.getElem?_setIfInBounds, if_pos rfl, if_pos (by omega)], hG.mod hok m2 (fun k e => by have e' : k = blk := e; subst e'; exact ⟨fun f => by have := l3 _ f; omega, l1⟩)⟩, l1, by omega, l3, l4⟩, ?_⟩
 have a1 : Mod (TbM blk B) w w1 := hm.mono fun k _ e => .inr (hlv k e)
 have a2 : Mod (TbM blk B) w1 (w1.setCell ⟨blk, 0 + o, none⟩ v') := m2.mono fun k _ e => .inl e
 exact a1.trans a2
end
set_option maxHeartbeats 1000000
set_option maxRecDepth 100000
theorem fit_add {w0 w : World} {a : Act} {id blk B : Nat} {C : Array Value} {ver : Int} {f : FD} {sv : Value} {i b5 b9 T5 T9 : Nat} {ct : Array Value} {t ti y : Tr} {ld : List Tr} {ts6 ts7 : Array TypeId} {y0 y1 y2 y3 y4 y5 y6 y7 y8 y9 y10 y11 : TypeId} {p0 p1 p2 p3 p4 p5 p6 p7 p8 p9 p10 p11 : String}
  (hN : a.tmps.size = 54) (gs : Act.get a 7 = .pointer (some ⟨blk, 0, none⟩)) (hT : TbS TreeR 26 5 3 B (fun k => k < w0.heap.size) blk C w ld) (hm0 : Mod none' w0 w) (hld : ld.length < 4294967295)
  (g1 : Act.get a 1 = .int .i64 ver) (g5 : Act.get a 5 = .pointer (some ⟨b5, 0, none⟩)) (g8 : Act.get a 8 = .int .i64 (i : Nat)) (g9 : Act.get a 9 = .pointer (some ⟨b9, 0, none⟩)) (h5 : w.heap[b5]? = some (.cells ct T5 (0, 0))) (h9 : w.heap[b9]? = some (.cells (f.cells sv) T9 (0, 0))) (n5 : b5 < B) (n9 : ∀ k lv, C[0 + 3]? = some lv -> lv.ownBlock = some k -> b9 ≠ k) (hct : ct.size = 5) (ht : TreeI w0 (from' ct 0) t) (hti : ti = t.L.getD i .zero)
  (hF : ∀ W cs', Mod none' w0 W -> cs'.size = 5 -> TreeI w0 (from' cs' 0) ti -> Calls Tryz.prog 24 #[.agg (f.cells sv), .int .i64 ver, .agg cs'] W fun e w' => ∃ v, e = .returned v /\ Mod none' W w' /\ TreeV w' (fun k => k < w0.heap.size \/ W.heap.size <= k) v y) :
  (Code.region id #[⟨some 20, .fieldAddr 26 (.tmp 7) 3, y0, p0, #[], none⟩, ⟨some 21, .load 23 (.tmp 20), y1, p1, #[⟨0, .data⟩], none⟩, ⟨some 22, .load 51 (.tmp 9), y2, p2, #[], none⟩, ⟨some 23, .move (.tmp 1), y3, p3, #[], none⟩, ⟨some 24, .load 26 (.tmp 5), y4, p4, #[], none⟩, ⟨some 25, .move (.tmp 8), y5, p5, #[], none⟩, ⟨some 26, .call ⟨.value (.func 25), #[.tmp 24, .tmp 25], ts6⟩, y6, p6, #[⟨4, .data⟩, ⟨5, .data⟩], none⟩, ⟨some 27, .call ⟨.value (.func 24), #[.tmp 22, .tmp 23, .tmp 26], ts7⟩, y7, p7, #[⟨2, .data⟩, ⟨3, .data⟩, ⟨6, .data⟩, ⟨6, .chain⟩], none⟩, ⟨some 28, .buildSlice 23 1 #[(0, .tmp 27)], y8, p8, #[⟨7, .data⟩], none⟩, ⟨some 29, .call ⟨.builtin .append, #[.tmp 21, .tmp 28], #[23, 23]⟩, y9, p9, #[⟨1, .data⟩, ⟨8, .data⟩, ⟨7, .chain⟩], none⟩, ⟨some 30, .fieldAddr 26 (.tmp 7) 3, y10, p10, #[⟨0, .phase⟩, ⟨1, .phase⟩, ⟨2, .phase⟩, ⟨3, .phase⟩, ⟨4, .phase⟩, ⟨5, .phase⟩, ⟨6, .phase⟩, ⟨7, .phase⟩, ⟨8, .phase⟩, ⟨9, .phase⟩], none⟩, ⟨none, .store 23 (.tmp 30) (.tmp 29), y11, p11, #[⟨10, .data⟩, ⟨9, .data⟩, ⟨9, .chain⟩, ⟨0, .phase⟩, ⟨1, .phase⟩, ⟨2, .phase⟩, ⟨3, .phase⟩, ⟨4, .phase⟩, ⟨5, .phase⟩, ⟨6, .phase⟩, ⟨7, .phase⟩, ⟨8, .phase⟩, ⟨9, .phase⟩], none⟩] true).wp Tryz.prog (fun e' a' w' => e' = .normal /\ SameBut (fun t => t ∈ [20, 21, 22, 23, 24, 25, 26, 27, 28, 29] \/ t = 30) a a' /\ Mod (TbM blk B) w w' /\ ∃ v', TbS TreeR 26 5 3 B (fun k => k < w0.heap.size) blk (C.setIfInBounds (0 + 3) v') w' (ld ++ [y])) a w := by
 obtain ⟨T, h1⟩ := hT.heap
 obtain ⟨lv, lrow, h2, h4⟩ := hT.row
 obtain ⟨l1, l2, l3, l4⟩ := hT.lo
 have hob : ∀ k, lv.ownBlock = some k -> B <= k /\ k < w.heap.size := fun k hk => h4.own.lt k hk
 have hw0 := hm0.size
 have hMx : ∀ W, Mod (fun k => lv.ownBlock = some k) w W -> Mod none' w0 W := fun W hm => hm0.trans' hm (fun _ _ f => f) (fun j hj e => by have := (hob j e).1; have := l3 j hj; omega)
 have hnwS : ∀ k, (k < w0.heap.size \/ w.heap.size <= k) -> ¬ (lv.ownBlock = some k) := fun k hk e => by have := hob k e; rcases hk with hk | hk; have := l3 k hk; omega; omega
 refine region_rlq (l := [_, _, _, _, _, _, _, _, _, _]) (tl := [_, _]) rfl (Mod (fun k => lv.ownBlock = some k)) (fun a b h => h.none) (fun _ _ _ h h' => h.trans h') [20, 21, 22, 23, 24, 25, 26, 27, 28, 29]
  [fun v w' => v = .pointer (some ⟨blk, 0 + 3, none⟩), fun v w' => v = lv, fun v w' => v = .agg (f.cells sv), fun v w' => v = .int .i64 ver, fun v w' => v = .agg ct, fun v w' => v = .int .i64 (i : Nat), fun v w' => ∃ cs', v = .agg cs' /\ cs'.size = 5 /\ TreeI w0 (from' cs' 0) ti, fun v w' => TreeV w' (fun k => k < w0.heap.size \/ w.heap.size <= k) v y, fun v w' => ∃ nb ms, v = .slice (some ⟨nb, 0, none⟩) 1 1 /\ w'.heap[nb]? = some (.cells ms 26 (0, 0)) /\ ms.size = 5 /\ ms.all (·.oneCell') = true /\ TreeR w' (fun k => k < w0.heap.size \/ w.heap.size <= k) (from' ms 0) (y) /\ w.heap.size <= nb]
  (fun v w' => ∃ lrow', RowG TreeR 26 5 B (fun k => k < w0.heap.size) w' v lrow' (ld ++ [y]) /\ v.oneCell' = true)
  ?_ ?_ (by simp [regFormT]) (by decide) (fun d hd => by rw [hN]; simp at hd; omega) (by simp) (by kernel_rfl) ⟨?_, ?_, ?_, ?_, ?_, ?_, ?_, ?_, ?_, ?_, trivial⟩ ?_
 ·intro g' hg u1 w1 w2 hv hr'
  simp only [List.mem_cons, List.not_mem_nil, or_false] at hg
  rcases hg with rfl | rfl | rfl | rfl | rfl | rfl | rfl | rfl | rfl
  ·exact hv
  ·exact hv
  ·exact hv
  ·exact hv
  ·exact hv
  ·exact hv
  ·exact hv
  ·exact TreeV.mod hv hr' hnwS (fun _ h => h)
  ·obtain ⟨nb, ms, q1, q2, q4, q5, q6, q3⟩ := hv
   exact ⟨nb, ms, q1, hr'.some q2 (fun e => by have := hob nb e; omega), q4, q5, TreeR.mod q6 hr' hnwS (fun _ h => h), q3⟩
 ·rintro u1 w1 w2 ⟨lr, q1, q2⟩ hr'
  exact ⟨lr, q1.grow treeR_ok hr', q2⟩
 ·intro a1 w1 hr' hp hs hd
  have q := (hs.get 7 (by decide)).trans gs
  exact Zw (Za (by kernel_rfl) (b := blk) (o0 := 0) (by rw [Ze]; exact q)) ⟨_, rfl, relp_ne (by rfl) (.refl _), rfl⟩
 ·intro a1 w1 hr' hp hs hd
  have q : Act.get a1 20 = .pointer (some ⟨blk, 0 + 3, none⟩) := hd ⟨0, .data⟩ (by simp) rfl
  have c1 := hr'.some h1 (fun e => by have := (hob _ e).1; omega)
  exact Zw (Zl (by kernel_rfl) (b := blk) (o := 0 + 3) (by rw [Ze]; exact q) (by rw [Zc c1]; exact h2)) ⟨_, rfl, relp_ne (by rfl) (.refl _), rfl⟩
 ·intro a1 w1 hr' hp hs hd
  have q := (hs.get 9 (by decide)).trans g9
  have c1 := hr'.some h9 (fun e => n9 _ _ h2 e rfl)
  exact Zw (x_loadN (cs := (f.cells sv).toList) (b := b9) (o := 0) (by rw [Array.length_toList, show (f.cells sv).size = 8 from rfl]; kernel_rfl) (by rw [Ze]; exact q) (fun j v hv => by rw [Zc c1, Nat.zero_add]; simpa using hv)) ⟨_, rfl, relp_ne (by rfl) (.refl _), by simp⟩
 ·intro a1 w1 hr' hp hs hd
  have q := (hs.get 1 (by decide)).trans g1
  exact Zw (x_moveV q) ⟨_, rfl, relp_ne (by rfl) (.refl _), rfl⟩
 ·intro a1 w1 hr' hp hs hd
  have q := (hs.get 5 (by decide)).trans g5
  have c1 := hr'.some h5 (fun e => by have := (hob _ e).1; omega)
  exact Zw (x_loadN (cs := ct.toList) (b := b5) (o := 0) (by rw [Array.length_toList, hct]; kernel_rfl) (by rw [Ze]; exact q) (fun j v hv => by rw [Zc c1, Nat.zero_add]; simpa using hv)) ⟨_, rfl, relp_ne (by rfl) (.refl _), by simp⟩
 ·intro a1 w1 hr' hp hs hd
  have q := (hs.get 8 (by decide)).trans g8
  exact Zw (x_moveV q) ⟨_, rfl, relp_ne (by rfl) (.refl _), rfl⟩
 ·intro a1 w1 hr' hp hs hd
  have q24 : Act.get a1 24 = .agg ct := hd ⟨4, .data⟩ (by simp) rfl
  have q25 : Act.get a1 25 = .int .i64 (i : Nat) := hd ⟨5, .data⟩ (by simp) rfl
  have ee : (#[Operand.tmp 24, .tmp 25] : Array Operand).map a1.eval = #[.agg ct, .int .i64 (i : Nat)] := by simp [Ze, q24, q25]
  refine owp_call (Zy (by kernel_rfl) rfl) (by rw [ee]; exact at_c (hMx w1 hr') hct ht) ?_
  rintro e' w2 ⟨hm2, cs', rfl, k5, kT⟩
  exact ⟨_, rfl, _, rfl, relp_ne (by rfl) hm2, cs', rfl, k5, hti ▸ kT⟩
 ·intro a1 w1 hr' hp hs hd
  obtain ⟨cs', q26, q5, qT⟩ : ∃ cs', Act.get a1 26 = .agg cs' /\ cs'.size = 5 /\ TreeI w0 (from' cs' 0) ti := hd ⟨6, .data⟩ (by simp) rfl
  have q22 : Act.get a1 22 = .agg (f.cells sv) := hd ⟨2, .data⟩ (by simp) rfl
  have q23 : Act.get a1 23 = .int .i64 ver := hd ⟨3, .data⟩ (by simp) rfl
  have ee : (#[Operand.tmp 22, .tmp 23, .tmp 26] : Array Operand).map a1.eval = #[.agg (f.cells sv), .int .i64 ver, .agg cs'] := by simp [Ze, q22, q23, q26]
  refine owp_call (Zy (by kernel_rfl) rfl) (by rw [ee]; exact hF w1 cs' (hMx w1 hr') q5 qT) ?_
  rintro e' w2 ⟨v2, rfl, hm2, hv2⟩
  exact ⟨_, rfl, _, rfl, relp_ne (by rfl) hm2, hv2.mod (Mod.refl (S := none') w2) (fun _ _ f => f) (fun k hk => hk.imp (fun h => h) fun h => by have := hr'.size; omega)⟩
 ·intro a1 w1 hr' hp hs hd
  obtain ⟨us, q, q2, q3, q4⟩ : TreeV w1 (fun k => k < w0.heap.size \/ w.heap.size <= k) (Act.get a1 27) y := hd ⟨7, .data⟩ (by simp) rfl
  refine Zw (x_buildSlice1 (e := 26) (sz := 5) (v := .agg us) (by kernel_rfl) ((Ze _).trans q) q2) ⟨_, rfl, relp_ne (by rfl) ((Mod.refl w1).alloc _), w1.heap.size, us, rfl, Zh w1 _, q2, q3, q4.mod (S := none') ((Mod.refl w1).alloc _) (fun _ _ f => f) (fun _ h => h), hr'.size⟩
 ·intro a1 w1 hr' hp hs hd
  have q4 : Act.get a1 21 = lv := hd ⟨1, .data⟩ (by simp) rfl
  obtain ⟨nb, ms, q5, q6, q8, q9, q10⟩ : ∃ nb ms, Act.get a1 28 = .slice (some ⟨nb, 0, none⟩) 1 1 /\ w1.heap[nb]? = some (.cells ms 26 (0, 0)) /\ ms.size = 5 /\ ms.all (·.oneCell') = true /\ TreeR w1 (fun k => k < w0.heap.size \/ w.heap.size <= k) (from' ms 0) (y) /\ w.heap.size <= nb := hd ⟨8, .data⟩ (by simp) rfl
  have hpm := hp rfl
  obtain ⟨v', w2, hrun, k1, k2, k3⟩ := row_append (P := Tryz.prog) (ρ := a1.eval) (d := 29) (ty := y9) (p := p9) (s := .tmp 21) (x := .tmp 28) (LT := 23) (af := #[⟨1, .data⟩, ⟨8, .data⟩, ⟨7, .chain⟩]) treeR_ok (by kernel_rfl) h4 hpm (fun k hk => by have := l3 k hk; omega) l2 (by rw [Ze]; exact q4) (by rw [Ze]; exact q5) q6 q8 q9 q10.1 hld
  exact Zw hrun ⟨_, rfl, relp_eq k2, _, k1, k3⟩
 ·intro a1 w1 hr' hs hh
  obtain ⟨lrow', q1, q2⟩ : ∃ lrow', RowG TreeR 26 5 B (fun k => k < w0.heap.size) w1 (Act.get a1 29) lrow' (ld ++ [y]) /\ (Act.get a1 29).oneCell' = true := hh 9 (by simp)
  have c1 := hr'.some h1 (fun e => by have := (hob _ e).1; omega)
  have t1 := (hs.get 7 (by decide)).trans gs
  refine Zv rfl (Za (show fieldOff Tryz.prog 26 3 = some 3 by kernel_rfl) (b := blk) (o0 := 0) (by rw [Ze]; exact t1)) ?_
  refine wpl_skip rfl (x_store1 (by kernel_rfl) (b := blk) (o := 0 + 3) (v := Act.get a1 29) (u := lv) ?_ ?_ q2 (by rw [Zc c1]; exact h2) (Zz c1)) (wpList_nil ⟨rfl, ?_, ?_⟩)
  ·rw [Ze, Zq (by rw [hs.size, hN]; decide)]
  ·rw [Ze, Zn (by decide)]
  ·rw [Zo]
   exact (hs.mono fun t ht => .inl ht).put (.inr rfl) _
  ·obtain ⟨z1, z2⟩ := hT.store treeR_ok h2 hr' (fun k e => (hob k e).1) q1
   exact ⟨z2, _, z1⟩
theorem fit_tag {w0 w : World} {a : Act} {id blk B : Nat} {C : Array Value} {xb Tx : Nat} {vv : Value} {p' : Int × List UInt8} {ld : Tags} {ts6 ts7 : Array TypeId} {y0 y1 y2 y3 y4 y5 y6 y7 y8 y9 y10 y11 : TypeId} {p0 p1 p2 p3 p4 p5 p6 p7 p8 p9 p10 p11 : String}
  (hN : a.tmps.size = 54) (gs : Act.get a 7 = .pointer (some ⟨blk, 0, none⟩)) (hT : TbS TagR 63 2 4 B (fun k => k < w0.heap.size) blk C w ld) (hm0 : Mod none' w0 w) (hld : ld.length < 4294967295)
  (g11 : Act.get a 11 = .pointer (some ⟨xb, 0, none⟩)) (hxb : w.heap[xb]? = some (.cells #[.int .u32 p'.1, vv] Tx (0, 0))) (nx : ∀ k lv, C[0 + 4]? = some lv -> lv.ownBlock = some k -> xb ≠ k) (ho : OctI w0 vv p'.2) (hfit : fits .u32 p'.1) :
  (Code.region id #[⟨some 41, .fieldAddr 26 (.tmp 7) 4, y0, p0, #[], none⟩, ⟨some 42, .load 24 (.tmp 41), y1, p1, #[⟨0, .data⟩], none⟩, ⟨some 43, .fieldAddr 63 (.tmp 11) 0, y2, p2, #[], none⟩, ⟨some 44, .load 61 (.tmp 43), y3, p3, #[⟨2, .data⟩], none⟩, ⟨some 45, .fieldAddr 63 (.tmp 11) 1, y4, p4, #[], none⟩, ⟨some 46, .load 22 (.tmp 45), y5, p5, #[⟨4, .data⟩], none⟩, ⟨some 47, .call ⟨.value (.func 27), #[.tmp 46], ts6⟩, y6, p6, #[⟨5, .data⟩], none⟩, ⟨some 48, .build 63 #[(0, .tmp 44), (1, .tmp 47)], y7, p7, #[⟨3, .data⟩, ⟨6, .data⟩], none⟩, ⟨some 49, .buildSlice 24 1 #[(0, .tmp 48)], y8, p8, #[⟨7, .data⟩], none⟩, ⟨some 50, .call ⟨.builtin .append, #[.tmp 42, .tmp 49], #[24, 24]⟩, y9, p9, #[⟨1, .data⟩, ⟨8, .data⟩, ⟨6, .chain⟩], none⟩, ⟨some 51, .fieldAddr 26 (.tmp 7) 4, y10, p10, #[⟨0, .phase⟩, ⟨1, .phase⟩, ⟨2, .phase⟩, ⟨3, .phase⟩, ⟨4, .phase⟩, ⟨5, .phase⟩, ⟨6, .phase⟩, ⟨7, .phase⟩, ⟨8, .phase⟩, ⟨9, .phase⟩], none⟩, ⟨none, .store 24 (.tmp 51) (.tmp 50), y11, p11, #[⟨10, .data⟩, ⟨9, .data⟩, ⟨9, .chain⟩, ⟨0, .phase⟩, ⟨1, .phase⟩, ⟨2, .phase⟩, ⟨3, .phase⟩, ⟨4, .phase⟩, ⟨5, .phase⟩, ⟨6, .phase⟩, ⟨7, .phase⟩, ⟨8, .phase⟩, ⟨9, .phase⟩], none⟩] true).wp Tryz.prog (fun e' a' w' => e' = .normal /\ SameBut (fun t => t ∈ [41, 42, 43, 44, 45, 46, 47, 48, 49, 50] \/ t = 51) a a' /\ Mod (TbM blk B) w w' /\ ∃ v', TbS TagR 63 2 4 B (fun k => k < w0.heap.size) blk (C.setIfInBounds (0 + 4) v') w' (ld ++ [(p'.1, whole p'.2)])) a w := by
 obtain ⟨T, h1⟩ := hT.heap
 obtain ⟨lv, lrow, h2, h4⟩ := hT.row
 obtain ⟨l1, l2, l3, l4⟩ := hT.lo
 have hob : ∀ k, lv.ownBlock = some k -> B <= k /\ k < w.heap.size := fun k hk => h4.own.lt k hk
 have hw0 := hm0.size
 have hMx : ∀ W, Mod (fun k => lv.ownBlock = some k) w W -> Mod none' w0 W := fun W hm => hm0.trans' hm (fun _ _ f => f) (fun j hj e => by have := (hob j e).1; have := l3 j hj; omega)
 have hnwS : ∀ k, (k < w0.heap.size \/ w.heap.size <= k) -> ¬ (lv.ownBlock = some k) := fun k hk e => by have := hob k e; rcases hk with hk | hk; have := l3 k hk; omega; omega
 refine region_rlq (l := [_, _, _, _, _, _, _, _, _, _]) (tl := [_, _]) rfl (Mod (fun k => lv.ownBlock = some k)) (fun a b h => h.none) (fun _ _ _ h h' => h.trans h') [41, 42, 43, 44, 45, 46, 47, 48, 49, 50]
  [fun v w' => v = .pointer (some ⟨blk, 0 + 4, none⟩), fun v w' => v = lv, fun v w' => v = .pointer (some ⟨xb, 0 + 0, none⟩), fun v w' => v = .int .u32 p'.1, fun v w' => v = .pointer (some ⟨xb, 0 + 1, none⟩), fun v w' => v = vv, fun v w' => OctI w0 v (whole p'.2), fun v w' => ∃ v', v = .agg #[.int .u32 p'.1, v'] /\ OctI w0 v' (whole p'.2), fun v w' => ∃ nb ms, v = .slice (some ⟨nb, 0, none⟩) 1 1 /\ w'.heap[nb]? = some (.cells ms 63 (0, 0)) /\ ms.size = 2 /\ ms.all (·.oneCell') = true /\ TagR w' (fun k => k < w0.heap.size \/ w.heap.size <= k) (from' ms 0) ((p'.1, whole p'.2)) /\ w.heap.size <= nb]
  (fun v w' => ∃ lrow', RowG TagR 63 2 B (fun k => k < w0.heap.size) w' v lrow' (ld ++ [(p'.1, whole p'.2)]) /\ v.oneCell' = true)
  ?_ ?_ (by simp [regFormT]) (by decide) (fun d hd => by rw [hN]; simp at hd; omega) (by simp) (by kernel_rfl) ⟨?_, ?_, ?_, ?_, ?_, ?_, ?_, ?_, ?_, ?_, trivial⟩ ?_
 ·intro g' hg u1 w1 w2 hv hr'
  simp only [List.mem_cons, List.not_mem_nil, or_false] at hg
  rcases hg with rfl | rfl | rfl | rfl | rfl | rfl | rfl | rfl | rfl
  ·exact hv
  ·exact hv
  ·exact hv
  ·exact hv
  ·exact hv
  ·exact hv
  ·exact hv
  ·exact hv
  ·obtain ⟨nb, ms, q1, q2, q4, q5, q6, q3⟩ := hv
   exact ⟨nb, ms, q1, hr'.some q2 (fun e => by have := hob nb e; omega), q4, q5, tagR_ok.mod q6 hr' hnwS (fun _ h => h), q3⟩
 ·rintro u1 w1 w2 ⟨lr, q1, q2⟩ hr'
  exact ⟨lr, q1.grow tagR_ok hr', q2⟩
 ·intro a1 w1 hr' hp hs hd
  have q := (hs.get 7 (by decide)).trans gs
  exact Zw (Za (by kernel_rfl) (b := blk) (o0 := 0) (by rw [Ze]; exact q)) ⟨_, rfl, relp_ne (by rfl) (.refl _), rfl⟩
 ·intro a1 w1 hr' hp hs hd
  have q : Act.get a1 41 = .pointer (some ⟨blk, 0 + 4, none⟩) := hd ⟨0, .data⟩ (by simp) rfl
  have c1 := hr'.some h1 (fun e => by have := (hob _ e).1; omega)
  exact Zw (Zl (by kernel_rfl) (b := blk) (o := 0 + 4) (by rw [Ze]; exact q) (by rw [Zc c1]; exact h2)) ⟨_, rfl, relp_ne (by rfl) (.refl _), rfl⟩
 ·intro a1 w1 hr' hp hs hd
  have q := (hs.get 11 (by decide)).trans g11
  exact Zw (Za (show fieldOff Tryz.prog 63 0 = some 0 by kernel_rfl) (b := xb) (o0 := 0) (by rw [Ze]; exact q)) ⟨_, rfl, relp_ne (by rfl) (.refl _), rfl⟩
 ·intro a1 w1 hr' hp hs hd
  have q : Act.get a1 43 = .pointer (some ⟨xb, 0 + 0, none⟩) := hd ⟨2, .data⟩ (by simp) rfl
  have c1 := hr'.some hxb (fun e => nx _ _ h2 e rfl)
  exact Zw (Zl (by kernel_rfl) (b := xb) (o := 0 + 0) (by rw [Ze]; exact q) (by rw [Zc c1]; rfl)) ⟨_, rfl, relp_ne (by rfl) (.refl _), rfl⟩
 ·intro a1 w1 hr' hp hs hd
  have q := (hs.get 11 (by decide)).trans g11
  exact Zw (Za (show fieldOff Tryz.prog 63 1 = some 1 by kernel_rfl) (b := xb) (o0 := 0) (by rw [Ze]; exact q)) ⟨_, rfl, relp_ne (by rfl) (.refl _), rfl⟩
 ·intro a1 w1 hr' hp hs hd
  have q : Act.get a1 45 = .pointer (some ⟨xb, 0 + 1, none⟩) := hd ⟨4, .data⟩ (by simp) rfl
  have c1 := hr'.some hxb (fun e => nx _ _ h2 e rfl)
  exact Zw (Zl (by kernel_rfl) (b := xb) (o := 0 + 1) (by rw [Ze]; exact q) (by rw [Zc c1]; rfl)) ⟨_, rfl, relp_ne (by rfl) (.refl _), rfl⟩
 ·intro a1 w1 hr' hp hs hd
  have q : Act.get a1 46 = vv := hd ⟨5, .data⟩ (by simp) rfl
  have ee : (#[Operand.tmp 46] : Array Operand).map a1.eval = #[vv] := by simp [Ze, q]
  refine owp_call (Zy (by kernel_rfl) rfl) (by rw [ee]; exact whole_c' ho) ?_
  rintro e' w2 ⟨rfl, v', rfl, kT⟩
  exact ⟨_, rfl, _, rfl, relp_ne (by rfl) (.refl _), kT⟩
 ·intro a1 w1 hr' hp hs hd
  have q44 : Act.get a1 44 = .int .u32 p'.1 := hd ⟨3, .data⟩ (by simp) rfl
  have q47 : OctI w0 (Act.get a1 47) (whole p'.2) := hd ⟨6, .data⟩ (by simp) rfl
  obtain ⟨va, vc, hv, _⟩ := q47.slice
  rw [hv] at q47
  refine Zw (x_build (cells := #[.int .u32 p'.1, .slice va (whole p'.2).length vc]) ?_) ⟨_, rfl, relp_ne (by rfl) (Mod.refl w1), _, rfl, q47⟩
  rw [show (#[((0 : Nat), Operand.tmp 44), (1, .tmp 47)] : Array (Nat × Operand)).map (fun q => (q.1, a1.eval q.2)) = #[(0, .int .u32 p'.1), (1, .slice va (whole p'.2).length vc)] by simp [Ze, q44, hv]]
  kernel_rfl
 ·intro a1 w1 hr' hp hs hd
  obtain ⟨v', q, qo⟩ : ∃ v', Act.get a1 48 = .agg #[.int .u32 p'.1, v'] /\ OctI w0 v' (whole p'.2) := hd ⟨7, .data⟩ (by simp) rfl
  obtain ⟨va, vc, hv, _⟩ := qo.slice
  obtain ⟨nl, qn⟩ := qo.to_oct
  refine Zw (x_buildSlice1 (e := 63) (sz := 2) (v := .agg #[.int .u32 p'.1, v']) (by kernel_rfl) ((Ze _).trans q) rfl) ⟨_, rfl, relp_ne (by rfl) ((Mod.refl w1).alloc _), w1.heap.size, #[.int .u32 p'.1, v'], rfl, Zh w1 _, rfl, by rw [hv]; simp [Value.oneCell'], ⟨rfl, hfit, nl, ?_⟩, hr'.size⟩
  exact (qn.mod ((hMx w1 hr').trans ((Mod.refl w1).alloc _)) (fun _ _ f => f) (fun _ h => .inl h))
 ·intro a1 w1 hr' hp hs hd
  have q4 : Act.get a1 42 = lv := hd ⟨1, .data⟩ (by simp) rfl
  obtain ⟨nb, ms, q5, q6, q8, q9, q10⟩ : ∃ nb ms, Act.get a1 49 = .slice (some ⟨nb, 0, none⟩) 1 1 /\ w1.heap[nb]? = some (.cells ms 63 (0, 0)) /\ ms.size = 2 /\ ms.all (·.oneCell') = true /\ TagR w1 (fun k => k < w0.heap.size \/ w.heap.size <= k) (from' ms 0) ((p'.1, whole p'.2)) /\ w.heap.size <= nb := hd ⟨8, .data⟩ (by simp) rfl
  have hpm := hp rfl
  obtain ⟨v', w2, hrun, k1, k2, k3⟩ := row_append (P := Tryz.prog) (ρ := a1.eval) (d := 50) (ty := y9) (p := p9) (s := .tmp 42) (x := .tmp 49) (LT := 24) (af := #[⟨1, .data⟩, ⟨8, .data⟩, ⟨6, .chain⟩]) tagR_ok (by kernel_rfl) h4 hpm (fun k hk => by have := l3 k hk; omega) l2 (by rw [Ze]; exact q4) (by rw [Ze]; exact q5) q6 q8 q9 q10.1 hld
  exact Zw hrun ⟨_, rfl, relp_eq k2, _, k1, k3⟩
 ·intro a1 w1 hr' hs hh
  obtain ⟨lrow', q1, q2⟩ : ∃ lrow', RowG TagR 63 2 B (fun k => k < w0.heap.size) w1 (Act.get a1 50) lrow' (ld ++ [(p'.1, whole p'.2)]) /\ (Act.get a1 50).oneCell' = true := hh 9 (by simp)
  have c1 := hr'.some h1 (fun e => by have := (hob _ e).1; omega)
  have t1 := (hs.get 7 (by decide)).trans gs
  refine Zv rfl (Za (show fieldOff Tryz.prog 26 4 = some 4 by kernel_rfl) (b := blk) (o0 := 0) (by rw [Ze]; exact t1)) ?_
  refine wpl_skip rfl (x_store1 (by kernel_rfl) (b := blk) (o := 0 + 4) (v := Act.get a1 50) (u := lv) ?_ ?_ q2 (by rw [Zc c1]; exact h2) (Zz c1)) (wpList_nil ⟨rfl, ?_, ?_⟩)
  ·rw [Ze, Zq (by rw [hs.size, hN]; decide)]
  ·rw [Ze, Zn (by decide)]
  ·rw [Zo]
   exact (hs.mono fun t ht => .inl ht).put (.inr rfl) _
  ·obtain ⟨z1, z2⟩ := hT.store tagR_ok h2 hr' (fun k e => (hob k e).1) q1
   exact ⟨z2, _, z1⟩
theorem fitted_add {w0 w : World} {a : Act} {id blk B : Nat} {C : Array Value} {ver : Int} {f : FD} {sv : Value} {b10 b12 T10 T12 : Nat} {cx : Array Value} {ti y : Tr} {ld : List Tr} {ts6 ts7 : Array TypeId} {y0 y1 y2 y3 y4 y5 y6 y7 y8 y9 : TypeId} {p0 p1 p2 p3 p4 p5 p6 p7 p8 p9 : String}
  (hN : a.tmps.size = 82) (gs : Act.get a 9 = .pointer (some ⟨blk, 0, none⟩)) (hT : TbS TreeR 26 5 3 B (fun k => k < w0.heap.size) blk C w ld) (hm0 : Mod none' w0 w) (hld : ld.length < 4294967295)
  (g1 : Act.get a 1 = .int .i64 ver) (g10 : Act.get a 10 = .pointer (some ⟨b10, 0, none⟩)) (g12 : Act.get a 12 = .pointer (some ⟨b12, 0, none⟩)) (h10 : w.heap[b10]? = some (.cells (f.cells sv) T10 (0, 0))) (h12 : w.heap[b12]? = some (.cells cx T12 (0, 0))) (n10 : b10 < B) (n12 : ∀ k lv, C[0 + 3]? = some lv -> lv.ownBlock = some k -> b12 ≠ k) (hcx : cx.size = 5) (hx : TreeI w0 (from' cx 0) ti)
  (hF : ∀ W cs', Mod none' w0 W -> cs'.size = 5 -> TreeI w0 (from' cs' 0) ti -> Calls Tryz.prog 24 #[.agg (f.cells sv), .int .i64 ver, .agg cs'] W fun e w' => ∃ v, e = .returned v /\ Mod none' W w' /\ TreeV w' (fun k => k < w0.heap.size \/ W.heap.size <= k) v y) :
  (Code.region id #[⟨some 66, .fieldAddr 26 (.tmp 9) 3, y0, p0, #[], none⟩, ⟨some 67, .load 23 (.tmp 66), y1, p1, #[⟨0, .data⟩], none⟩, ⟨some 68, .load 51 (.tmp 10), y2, p2, #[], none⟩, ⟨some 69, .move (.tmp 1), y3, p3, #[], none⟩, ⟨some 70, .load 26 (.tmp 12), y4, p4, #[], none⟩, ⟨some 71, .call ⟨.value (.func 24), #[.tmp 68, .tmp 69, .tmp 70], ts7⟩, y5, p5, #[⟨2, .data⟩, ⟨3, .data⟩, ⟨4, .data⟩], none⟩, ⟨some 72, .buildSlice 23 1 #[(0, .tmp 71)], y6, p6, #[⟨5, .data⟩], none⟩, ⟨some 73, .call ⟨.builtin .append, #[.tmp 67, .tmp 72], #[23, 23]⟩, y7, p7, #[⟨1, .data⟩, ⟨6, .data⟩, ⟨5, .chain⟩], none⟩, ⟨some 74, .fieldAddr 26 (.tmp 9) 3, y8, p8, #[⟨0, .phase⟩, ⟨1, .phase⟩, ⟨2, .phase⟩, ⟨3, .phase⟩, ⟨4, .phase⟩, ⟨5, .phase⟩, ⟨6, .phase⟩, ⟨7, .phase⟩], none⟩, ⟨none, .store 23 (.tmp 74) (.tmp 73), y9, p9, #[⟨8, .data⟩, ⟨7, .data⟩, ⟨7, .chain⟩, ⟨0, .phase⟩, ⟨1, .phase⟩, ⟨2, .phase⟩, ⟨3, .phase⟩, ⟨4, .phase⟩, ⟨5, .phase⟩, ⟨6, .phase⟩, ⟨7, .phase⟩], none⟩] true).wp Tryz.prog (fun e' a' w' => e' = .normal /\ SameBut (fun t => t ∈ [66, 67, 68, 69, 70, 71, 72, 73] \/ t = 74) a a' /\ Mod (TbM blk B) w w' /\ ∃ v', TbS TreeR 26 5 3 B (fun k => k < w0.heap.size) blk (C.setIfInBounds (0 + 3) v') w' (ld ++ [y])) a w := by
 obtain ⟨T, h1⟩ := hT.heap
 obtain ⟨lv, lrow, h2, h4⟩ := hT.row
 obtain ⟨l1, l2, l3, l4⟩ := hT.lo
 have hob : ∀ k, lv.ownBlock = some k -> B <= k /\ k < w.heap.size := fun k hk => h4.own.lt k hk
 have hw0 := hm0.size
 have hMx : ∀ W, Mod (fun k => lv.ownBlock = some k) w W -> Mod none' w0 W := fun W hm => hm0.trans' hm (fun _ _ f => f) (fun j hj e => by have := (hob j e).1; have := l3 j hj; omega)
 have hnwS : ∀ k, (k < w0.heap.size \/ w.heap.size <= k) -> ¬ (lv.ownBlock = some k) := fun k hk e => by have := hob k e; rcases hk with hk | hk; have := l3 k hk; omega; omega
 refine region_rlq (l := [_, _, _, _, _, _, _, _]) (tl := [_, _]) rfl (Mod (fun k => lv.ownBlock = some k)) (fun a b h => h.none) (fun _ _ _ h h' => h.trans h') [66, 67, 68, 69, 70, 71, 72, 73]
  [fun v w' => v = .pointer (some ⟨blk, 0 + 3, none⟩), fun v w' => v = lv, fun v w' => v = .agg (f.cells sv), fun v w' => v = .int .i64 ver, fun v w' => v = .agg cx, fun v w' => TreeV w' (fun k => k < w0.heap.size \/ w.heap.size <= k) v y, fun v w' => ∃ nb ms, v = .slice (some ⟨nb, 0, none⟩) 1 1 /\ w'.heap[nb]? = some (.cells ms 26 (0, 0)) /\ ms.size = 5 /\ ms.all (·.oneCell') = true /\ TreeR w' (fun k => k < w0.heap.size \/ w.heap.size <= k) (from' ms 0) (y) /\ w.heap.size <= nb]
  (fun v w' => ∃ lrow', RowG TreeR 26 5 B (fun k => k < w0.heap.size) w' v lrow' (ld ++ [y]) /\ v.oneCell' = true)
  ?_ ?_ (by simp [regFormT]) (by decide) (fun d hd => by rw [hN]; simp at hd; omega) (by simp) (by kernel_rfl) ⟨?_, ?_, ?_, ?_, ?_, ?_, ?_, ?_, trivial⟩ ?_
 ·intro g' hg u1 w1 w2 hv hr'
  simp only [List.mem_cons, List.not_mem_nil, or_false] at hg
  rcases hg with rfl | rfl | rfl | rfl | rfl | rfl | rfl
  ·exact hv
  ·exact hv
  ·exact hv
  ·exact hv
  ·exact hv
  ·exact TreeV.mod hv hr' hnwS (fun _ h => h)
  ·obtain ⟨nb, ms, q1, q2, q4, q5, q6, q3⟩ := hv
   exact ⟨nb, ms, q1, hr'.some q2 (fun e => by have := hob nb e; omega), q4, q5, TreeR.mod q6 hr' hnwS (fun _ h => h), q3⟩
 ·rintro u1 w1 w2 ⟨lr, q1, q2⟩ hr'
  exact ⟨lr, q1.grow treeR_ok hr', q2⟩
 ·intro a1 w1 hr' hp hs hd
  have q := (hs.get 9 (by decide)).trans gs
  exact Zw (Za (by kernel_rfl) (b := blk) (o0 := 0) (by rw [Ze]; exact q)) ⟨_, rfl, relp_ne (by rfl) (.refl _), rfl⟩
 ·intro a1 w1 hr' hp hs hd
  have q : Act.get a1 66 = .pointer (some ⟨blk, 0 + 3, none⟩) := hd ⟨0, .data⟩ (by simp) rfl
  have c1 := hr'.some h1 (fun e => by have := (hob _ e).1; omega)
  exact Zw (Zl (by kernel_rfl) (b := blk) (o := 0 + 3) (by rw [Ze]; exact q) (by rw [Zc c1]; exact h2)) ⟨_, rfl, relp_ne (by rfl) (.refl _), rfl⟩
 ·intro a1 w1 hr' hp hs hd
  have q := (hs.get 10 (by decide)).trans g10
  have c1 := hr'.some h10 (fun e => by have := (hob _ e).1; omega)
  exact Zw (x_loadN (cs := (f.cells sv).toList) (b := b10) (o := 0) (by rw [Array.length_toList, show (f.cells sv).size = 8 from rfl]; kernel_rfl) (by rw [Ze]; exact q) (fun j v hv => by rw [Zc c1, Nat.zero_add]; simpa using hv)) ⟨_, rfl, relp_ne (by rfl) (.refl _), by simp⟩
 ·intro a1 w1 hr' hp hs hd
  have q := (hs.get 1 (by decide)).trans g1
  exact Zw (x_moveV q) ⟨_, rfl, relp_ne (by rfl) (.refl _), rfl⟩
 ·intro a1 w1 hr' hp hs hd
  have q := (hs.get 12 (by decide)).trans g12
  have c1 := hr'.some h12 (fun e => by exact n12 _ _ h2 e rfl)
  exact Zw (x_loadN (cs := cx.toList) (b := b12) (o := 0) (by rw [Array.length_toList, hcx]; kernel_rfl) (by rw [Ze]; exact q) (fun j v hv => by rw [Zc c1, Nat.zero_add]; simpa using hv)) ⟨_, rfl, relp_ne (by rfl) (.refl _), by simp⟩
 ·intro a1 w1 hr' hp hs hd
  obtain ⟨cs', q26, q5, qT⟩ : ∃ cs', Act.get a1 70 = .agg cs' /\ cs'.size = 5 /\ TreeI w0 (from' cs' 0) ti := ⟨cx, hd ⟨4, .data⟩ (by simp) rfl, hcx, hx⟩
  have q22 : Act.get a1 68 = .agg (f.cells sv) := hd ⟨2, .data⟩ (by simp) rfl
  have q23 : Act.get a1 69 = .int .i64 ver := hd ⟨3, .data⟩ (by simp) rfl
  have ee : (#[Operand.tmp 68, .tmp 69, .tmp 70] : Array Operand).map a1.eval = #[.agg (f.cells sv), .int .i64 ver, .agg cs'] := by simp [Ze, q22, q23, q26]
  refine owp_call (Zy (by kernel_rfl) rfl) (by rw [ee]; exact hF w1 cs' (hMx w1 hr') q5 qT) ?_
  rintro e' w2 ⟨v2, rfl, hm2, hv2⟩
  exact ⟨_, rfl, _, rfl, relp_ne (by rfl) hm2, hv2.mod (Mod.refl (S := none') w2) (fun _ _ f => f) (fun k hk => hk.imp (fun h => h) fun h => by have := hr'.size; omega)⟩
 ·intro a1 w1 hr' hp hs hd
  obtain ⟨us, q, q2, q3, q4⟩ : TreeV w1 (fun k => k < w0.heap.size \/ w.heap.size <= k) (Act.get a1 71) y := hd ⟨5, .data⟩ (by simp) rfl
  refine Zw (x_buildSlice1 (e := 26) (sz := 5) (v := .agg us) (by kernel_rfl) ((Ze _).trans q) q2) ⟨_, rfl, relp_ne (by rfl) ((Mod.refl w1).alloc _), w1.heap.size, us, rfl, Zh w1 _, q2, q3, q4.mod (S := none') ((Mod.refl w1).alloc _) (fun _ _ f => f) (fun _ h => h), hr'.size⟩
 ·intro a1 w1 hr' hp hs hd
  have q4 : Act.get a1 67 = lv := hd ⟨1, .data⟩ (by simp) rfl
  obtain ⟨nb, ms, q5, q6, q8, q9, q10⟩ : ∃ nb ms, Act.get a1 72 = .slice (some ⟨nb, 0, none⟩) 1 1 /\ w1.heap[nb]? = some (.cells ms 26 (0, 0)) /\ ms.size = 5 /\ ms.all (·.oneCell') = true /\ TreeR w1 (fun k => k < w0.heap.size \/ w.heap.size <= k) (from' ms 0) (y) /\ w.heap.size <= nb := hd ⟨6, .data⟩ (by simp) rfl
  have hpm := hp rfl
  obtain ⟨v', w2, hrun, k1, k2, k3⟩ := row_append (P := Tryz.prog) (ρ := a1.eval) (d := 73) (ty := y7) (p := p7) (s := .tmp 67) (x := .tmp 72) (LT := 23) (af := #[⟨1, .data⟩, ⟨6, .data⟩, ⟨5, .chain⟩]) treeR_ok (by kernel_rfl) h4 hpm (fun k hk => by have := l3 k hk; omega) l2 (by rw [Ze]; exact q4) (by rw [Ze]; exact q5) q6 q8 q9 q10.1 hld
  exact Zw hrun ⟨_, rfl, relp_eq k2, _, k1, k3⟩
 ·intro a1 w1 hr' hs hh
  obtain ⟨lrow', q1, q2⟩ : ∃ lrow', RowG TreeR 26 5 B (fun k => k < w0.heap.size) w1 (Act.get a1 73) lrow' (ld ++ [y]) /\ (Act.get a1 73).oneCell' = true := hh 7 (by simp)
  have c1 := hr'.some h1 (fun e => by have := (hob _ e).1; omega)
  have t1 := (hs.get 9 (by decide)).trans gs
  refine Zv rfl (Za (show fieldOff Tryz.prog 26 3 = some 3 by kernel_rfl) (b := blk) (o0 := 0) (by rw [Ze]; exact t1)) ?_
  refine wpl_skip rfl (x_store1 (by kernel_rfl) (b := blk) (o := 0 + 3) (v := Act.get a1 73) (u := lv) ?_ ?_ q2 (by rw [Zc c1]; exact h2) (Zz c1)) (wpList_nil ⟨rfl, ?_, ?_⟩)
  ·rw [Ze, Zq (by rw [hs.size, hN]; decide)]
  ·rw [Ze, Zn (by decide)]
  ·rw [Zo]
   exact (hs.mono fun t ht => .inl ht).put (.inr rfl) _
  ·obtain ⟨z1, z2⟩ := hT.store treeR_ok h2 hr' (fun k e => (hob k e).1) q1
   exact ⟨z2, _, z1⟩
end Go.Proofs.YtmehfgiadapekaaGreat
