/-
  Telling a list: whether it is null; the loop. No program in it.
-/
import Derived.Test.YtcldbjehliladaaDoorPTelM
set_option linter.unusedSimpArgs false
set_option linter.unusedVariables false
namespace Go.Proofs.YtcldbjehliladaaDoor
open Go Go.RowKit
theorem LMem.start {x : TX} {w0 w : World} {ts : List Tr} {uv : Value} {TI : Nat} {nl : Bool} (h : TMem x w0 w ts uv) (hj : ts.length < x.n) : LMem x w0 (w.setCell ⟨x.lb, 0 + ts.length * 5 + 2, none⟩ (.bool nl)) ts uv w.heap.size TI nl (.slice none 0 0) [] [] := by
 obtain ⟨D, T, h1, h2, h3, h4, h5⟩ := h.hl
 obtain ⟨T', hb⟩ := h.hb
 obtain ⟨z, Tz, hr, hz⟩ := h.hr
 have hnew := h.new
 have hm3 : Mod (only x.lb) w (w.setCell ⟨x.lb, 0 + ts.length * 5 + 2, none⟩ (.bool nl)) := (Mod.refl w).put _ _
 have hrow : ts.length * 5 + 5 <= D.size := by rw [h2]; have := Nat.mul_le_mul_right 5 (show ts.length + 1 <= x.n by omega); omega
 have get : ∀ p, (D.setIfInBounds (0 + ts.length * 5 + 2) (.bool nl))[p]? = if p = ts.length * 5 + 2 then some (.bool nl) else D[p]? := fun p => by
  rw [Array.getElem?_setIfInBounds]
  by_cases hp : p = ts.length * 5 + 2
  ·rw [if_pos (by omega), if_pos hp, if_pos (by omega)]
  ·rw [if_neg (by omega), if_neg hp]
 refine ⟨h.mod.trans' hm3 (fun _ _ f => f) (fun j hj e => by have : j = x.lb := e; omega), h.new, h.ne, ⟨lt_of_block hb, lt_of_block h1, lt_of_block hr, hm3.size⟩, ⟨T', hm3.some hb (fun e => h.ne.1 e)⟩,
  ⟨_, T, heap_setCell_same h1 _, by simpa using h2, hj, fun i hi => ?_, fun q hq => ?_, fun i hi1 hi2 q hq => ?_⟩, ⟨z, Tz, hm3.some hr (fun e => h.ne.2.2 e), hz⟩, World.ownsRow_nil _ _ _ _, fun i hi => by simp at hi, by simp⟩
 ·refine ((h4 i hi).lt.congr fun q hq => ?_).mod hm3 (fun k hk e => hk.1.2.2.1 e) (fun _ h => h)
  simp only [from', Array.getD_eq_getD_getElem?]
  rw [get, if_neg (by omega)]
 ·have h5q := h5 ts.length (Nat.le_refl _) hj q hq
  simp only [from', Array.getD_eq_getD_getElem?] at h5q ⊢
  rw [get]
  by_cases hq3 : q = 2
  ·subst hq3; rw [if_pos rfl]; rfl
  ·rw [if_neg (by omega), h5q]
   rcases (by omega : q = 0 \/ q = 1 \/ q = 3 \/ q = 4) with rfl | rfl | rfl | rfl <;> rfl
 ·rw [<- h5 i (by omega) hi2 q hq]
  simp only [from', Array.getD_eq_getD_getElem?]
  rw [get, if_neg (by omega)]
theorem LMem.grow {x : TX} {w0 w w' : World} {ts : List Tr} {uv : Value} {B TI : Nat} {nl : Bool} {sv : Value} {xs : List Value} {pre : List Tr} (h : LMem x w0 w ts uv B TI nl sv xs pre) (hm : Mod none' w w') : LMem x w0 w' ts uv B TI nl sv xs pre := by
 obtain ⟨D, T, h1, h2, h3, h4, h5, h6⟩ := h.hl
 obtain ⟨T', hb⟩ := h.hb
 obtain ⟨z, Tz, hr, hz⟩ := h.hr
 have hlt := h.lt
 have hs := hm.size
 exact ⟨h.mod.trans hm, h.new, h.ne, ⟨hlt.1, hlt.2.1, hlt.2.2.1, by omega⟩, ⟨T', hm.some hb (fun f => f)⟩, ⟨D, T, hm.some h1 (fun f => f), h2, h3, fun i hi => (h4 i hi).mod hm (fun _ _ f => f) (fun _ h => h), h5, h6⟩, ⟨z, Tz, hm.some hr (fun f => f), hz⟩, ownsRow_mod h.own hm (fun _ _ f => f),
  fun i hi => (h.els i hi).mod hm (fun _ _ f => f) (fun _ h => h), h.len⟩
/-- code that tells whether a list is null -/
def NulT (P : Program) (N n : Nat) (σ : St) (i TI : Nat) (c : Code) (j : Nat) : Prop :=
 ∀ (x : TX) (Fs : Nat -> Prop) (v : SV) (ts : List Tr) (uv : Value) (a : Act) (w0 w : World), x.n = n -> ts.length = j -> TAmb N x a -> Cur σ Fs x.blk x.off v w0 -> TMem x w0 w ts uv ->
  c.wp P (fun e a' w' => e = .normal /\ TAmb N x a' /\ ∃ l nl B, v.1[i]? = some (.mk 0 [] nl l []) /\ (nl = true -> l = []) /\ LMem x w0 w' ts uv B TI nl (.slice none 0 0) [] []) a w
/-- code that tells a list's elements -/
def LoopT (P : Program) (N n : Nat) (σ : St) (i TI : Nat) (E : Tr -> Tr) (c : Code) (j : Nat) : Prop :=
 ∀ (x : TX) (Fs : Nat -> Prop) (v : SV) (ts : List Tr) (uv : Value) (l : List Tr) (nl : Bool) (B : Nat) (a : Act) (w0 w : World), x.n = n -> ts.length = j -> TAmb N x a -> Cur σ Fs x.blk x.off v w0 -> v.1[i]? = some (.mk 0 [] nl l []) -> (nl = true -> l = []) -> LMem x w0 w ts uv B TI nl (.slice none 0 0) [] [] ->
  c.wp P (fun e a' w' => e = .normal /\ TAmb N x a' /\ ∃ sv xs, LMem x w0 w' ts uv B TI nl sv xs (l.map E)) a w
def listT (E : Tr -> Tr) : Tr -> Tr
 | .mk _ _ nl l _ => .mk 0 [] nl (l.map E) []
section
variable {P : Program} {σ : St} {N n TI TL T k i o j dk dn di ys yt yb id rid sz : Nat} {E : Tr -> Tr} {d0 d1 d2 d3 d4 d5 d6 d7 d8 d9 d10 d11 d12 : Nat} {ts1 : Array TypeId} {y0 y1 y2 y3 y4 y5 y6 y7 y8 y9 y10 y11 y12 y13 y14 y15 y16 y17 : TypeId} {p0 p1 p2 p3 p4 p5 p6 p7 p8 p9 p10 p11 p12 p13 p14 p15 p16 p17 : String} {e0 e1 e2 e3 e4 e5 e6 e7 e8 e9 e10 e11 e12 : Array Edge}
theorem twhole_list {c2 c3 rest : Code} {g' : SV -> List Tr} (h2 : NulT P N n σ i TI c2 j) (h3 : LoopT P N n σ i TI E c3 j) (h4 : TWhole P N n σ rest (j + 1) g') : TWhole P N n σ (.seq c2 (.seq c3 rest)) j (fun v => listT E (v.1.getD i Tr.nul) :: g' v) := by
 intro x Fs v ts a w0 w hn hb hts hA hC hM
 refine wp_seq (wp_mono (h2 x Fs v ts _ a w0 w hn hts hA hC hM) ?_)
 rintro e a1 w1 ⟨rfl, hA1, l, nl, B, hv, hnl, hL⟩
 refine wp_seq (wp_mono (h3 x Fs v ts _ l nl B a1 w0 w1 hn hts hA1 hC hv hnl hL) ?_)
 rintro e a2 w2 ⟨rfl, hA2, sv, xs, hL2⟩
 refine wp_mono (h4 x Fs v _ a2 w0 w2 hn hb (by simp [hts]) hA2 hC hL2.finish) ?_
 rintro e a3 w3 ⟨k1, k2, k3, k4, cs, Tc, k5, k6, k7, k8⟩
 have e : listT E (v.1.getD i Tr.nul) = .mk 0 [] nl (l.map E) [] := by simp [List.getD, hv, listT]
 exact ⟨k1, k2, k3, k4, cs, Tc, k5, k6, k7, by
  show TreeR w3 (From w0) (from' cs 0) (.part (ts ++ (listT E (v.1.getD i Tr.nul) :: g' v)) v.2)
  rw [e]; simpa using k8⟩
theorem nul_list {ety : Ty} (hT : TellT P TI TL) (hf2 : fieldOff P TI 2 = some 2) (hS : isSlice P ys = true) (ho1 : one P ys = true) (hsb : sized P yb 1 = true) (hf : fieldOff P T k = some o) (hat : σ.lay.at i = some (o, .list ety sz)) (hok : tellOK N [d0, d1, d2, d3, d4, d5, d6] [d7, d8] = true) (hdd : d8 ≠ d7) (hj : j < n) : NulT P N n σ i TI
    (Code.region id #[⟨some d0, .fieldAddr TI (.tmp 3) 3, y0, p0, #[], none⟩, ⟨some d1, .load TL (.tmp d0), y1, p1, #[⟨0, .data⟩], none⟩, ⟨some d2, .move (.tmp 0), y2, p2, #[], none⟩, ⟨some d3, .nilCheck (.tmp d2), y3, p3, #[⟨2, .data⟩], none⟩,
      ⟨some d4, .fieldAddr T (.tmp d3) k, y4, p4, #[⟨3, .data⟩], none⟩, ⟨some d5, .load ys (.tmp d4), y5, p5, #[⟨4, .data⟩], none⟩, ⟨some d6, .binOp .eql ys (.tmp d5) (.const (.slice none 0 0)) yt, y6, p6, #[⟨5, .data⟩], none⟩,
      ⟨some d7, .indexAddr TL (.tmp d1) (.const (.int .i64 (j : Nat))), y7, p7, #[⟨1, .data⟩, ⟨0, .phase⟩, ⟨1, .phase⟩, ⟨2, .phase⟩, ⟨3, .phase⟩, ⟨4, .phase⟩, ⟨5, .phase⟩, ⟨6, .phase⟩], none⟩,
      ⟨some d8, .fieldAddr TI (.tmp d7) 2, y8, p8, #[⟨7, .data⟩, ⟨0, .phase⟩, ⟨1, .phase⟩, ⟨2, .phase⟩, ⟨3, .phase⟩, ⟨4, .phase⟩, ⟨5, .phase⟩, ⟨6, .phase⟩], none⟩,
      ⟨none, .store yb (.tmp d8) (.tmp d6), y9, p9, #[⟨8, .data⟩, ⟨6, .data⟩, ⟨0, .phase⟩, ⟨1, .phase⟩, ⟨2, .phase⟩, ⟨3, .phase⟩, ⟨4, .phase⟩, ⟨5, .phase⟩, ⟨6, .phase⟩], none⟩] true) j := by
  intro x Fs v tz uv a w0 w hxn hts hA hC hM
  subst hts
  replace hj : tz.length < x.n := by omega
  obtain ⟨hdl, hnd, htl⟩ := tellOK_dl hok
  obtain ⟨C, tC, hC1, hC2, hC3, _⟩ := hC.mem
  obtain ⟨u, hu, hrep⟩ := RepL.get _ _ _ _ _ _ hat hC3
  simp only [Rep] at hrep
  obtain ⟨ao, ln, cap, l, hc0, hul, hnl⟩ : ∃ ao ln cap l, from' C x.off (o + 0) = .slice ao ln cap /\ u = .mk 0 [] ao.isNone l [] /\ (ao.isNone = true -> l = []) := by
    rcases hrep with ⟨h1, h2⟩ | ⟨l, f, ⟨k', cap, C2, t2, g1, g2, _⟩, _, _, h3⟩
    · exact ⟨none, 0, 0, [], h1, h2, fun _ => rfl⟩
    · exact ⟨_, _, cap, l, g2, h3, fun h => by cases h⟩
  have hcell : C[x.off + o]? = some (.slice ao ln cap) := by
    simp only [from', Nat.add_zero, Array.getD_eq_getD_getElem?] at hc0
    cases hc : C[x.off + o]? with
    | none => rw [hc] at hc0; simp [undef] at hc0
    | some q => rw [hc] at hc0; simp at hc0; rw [hc0]
  refine region_rlt (l := [_, _, _, _, _, _, _]) (tl := [_, _, _]) hT.ord (Mod none') (Mod.refl w).drew (fun _ _ _ h h' => h.trans h') [d0, d1, d2, d3, d4, d5, d6]
    [fun v _ => v = .pointer (some ⟨x.tb, 0 + 3, none⟩), fun v _ => v = .slice (some ⟨x.lb, 0, none⟩) x.n x.n, fun v _ => v = .pointer (some ⟨x.blk, x.off, none⟩), fun v _ => v = .pointer (some ⟨x.blk, x.off, none⟩),
     fun v _ => v = .pointer (some ⟨x.blk, x.off + o, none⟩), fun v _ => v = .slice ao ln cap, fun v _ => v = .bool ao.isNone]
    ?_ (by simp [regFormT]) hnd (fun d hd => by rw [hA.size]; exact (hdl d hd).1) (by simp) (by kernel_rfl) ⟨?_, ?_, ?_, ?_, ?_, ?_, ?_, trivial⟩ ?_
  · intro g hg v1 w1 w2 hv hr
    simp only [List.mem_cons, List.not_mem_nil, or_false] at hg
    rcases hg with rfl | rfl | rfl | rfl | rfl | rfl | rfl <;> exact hv
  · intro a1 w1 hr hs hd
    have t3 := (hs.get 3 (fun hm => (hdl 3 hm).2.2.2 rfl)).trans hA.tree
    exact Zw (Za hT.f3 t3) ⟨_, rfl, .refl _, rfl⟩
  · intro a1 w1 hr hs hd
    have e0 : Act.get a1 d0 = .pointer (some ⟨x.tb, 0 + 3, none⟩) := hd ⟨0, .data⟩ (by simp) rfl
    obtain ⟨T', hb⟩ := hM.hb
    exact Zw (Zl hT.one e0 (by rw [Zc (hr.some hb (fun f => f))]; rfl)) ⟨_, rfl, .refl _, rfl⟩
  · intro a1 w1 hr hs hd
    have t0 := (hs.get 0 (fun hm => (hdl 0 hm).2.1 rfl)).trans hA.src
    exact Zw (x_moveV t0) ⟨_, rfl, .refl _, rfl⟩
  · intro a1 w1 hr hs hd
    have e2 : Act.get a1 d2 = .pointer (some ⟨x.blk, x.off, none⟩) := hd ⟨2, .data⟩ (by simp) rfl
    exact Zw (x_nilCheck e2) ⟨_, rfl, .refl _, rfl⟩
  · intro a1 w1 hr hs hd
    have e3 : Act.get a1 d3 = .pointer (some ⟨x.blk, x.off, none⟩) := hd ⟨3, .data⟩ (by simp) rfl
    exact Zw (Za hf e3) ⟨_, rfl, .refl _, rfl⟩
  · intro a1 w1 hr hs hd
    have e4 : Act.get a1 d4 = .pointer (some ⟨x.blk, x.off + o, none⟩) := hd ⟨4, .data⟩ (by simp) rfl
    exact Zw (Zl ho1 e4 (by rw [Zc ((hM.mod.trans hr).some hC1 (fun f => f))]; exact hcell)) ⟨_, rfl, .refl _, rfl⟩
  · intro a1 w1 hr hs hd
    have e5 : Act.get a1 d5 = .slice ao ln cap := hd ⟨5, .data⟩ (by simp) rfl
    exact Zw (x_eqlSlice hS (fun _ => rfl) e5) ⟨_, rfl, .refl _, rfl⟩
  · intro a1 w1 hr hs hh
    have e1 : Act.get a1 d1 = .slice (some ⟨x.lb, 0, none⟩) x.n x.n := hh 1 (by simp)
    have e6 : Act.get a1 d6 = .bool ao.isNone := hh 6 (by simp)
    have hda := htl d7 (by simp)
    have hdb := htl d8 (by simp)
    have sN : a1.tmps.size = N := hs.size.trans hA.size
    have hM1 := hM.grow hr
    obtain ⟨D, TD, hl, hD1, _⟩ := hM1.hl
    have hrow : tz.length * 5 + 5 <= D.size := by rw [hD1]; have := Nat.mul_le_mul_right 5 (show tz.length + 1 <= x.n by omega); omega
    refine Zv rfl (Zx (i := tz.length) (elemSize_of hT.elem) e1 rfl hj) (Zv rfl (Za hf2 (b := x.lb) (o0 := 0 + tz.length * 5) ?_) (wpl_skip rfl (x_store1 hsb (b := x.lb) (o := 0 + tz.length * 5 + 2) (v := .bool ao.isNone) (u := D[tz.length * 5 + 2]) ?_ ?_ rfl ?_ ?_) (wpList_nil ?_)))
    · rw [Ze, Zq (by rw [sN]; exact hda.1)]
    · rw [Ze, Zq (by rw [Zs, sN]; exact hdb.1)]
    · rw [Ze, Zn (fun e => hdb.2.2.2.2 (by simp [e])), Zn (fun e => hda.2.2.2.2 (by simp [e]))]; exact e6
    · rw [Zc hl, Nat.zero_add]; exact Array.getElem?_eq_getElem (by omega)
    · exact Zz hl
    have hAB : TAmb N x a1 := hA.same hs (fun hm => (hdl 0 hm).2.1 rfl) (fun hm => (hdl 2 hm).2.2.1 rfl) (fun hm => (hdl 3 hm).2.2.2 rfl)
    exact ⟨rfl, (hAB.put ⟨hda.2.1, hda.2.2.1, hda.2.2.2.1⟩ _).put ⟨hdb.2.1, hdb.2.2.1, hdb.2.2.2.1⟩ _, l, ao.isNone, _, by rw [hu, hul], hnl, LMem.start hM1 hj⟩
set_option maxHeartbeats 1000000 in
theorem loop_list {ety : Ty} {cA cB : Code} {b0 b1 i3 i4 i5 i10 dt dc dx da dq : Nat} (hA1 : AppC P N n j dk [dn, di] σ i TI E cA) (hA2 : AppC P N n j dk [dn, di] σ i TI E cB) (hord : P.follows .mixedOrders = true) (hz : ∃ z : Value, zeroOf P yb = some z /\ z.cells = #[.bool false]) (h1 : one P yb = true) (hs : sized P yb 1 = true)
  (hel : (elemSize P ys).isSome = true) (ho1 : one P ys = true) (hf : fieldOff P T k = some o) (hat : σ.lay.at i = some (o, .list ety sz)) (hts1 : ts1[0]? = some ys)
  (hok : tellOK N [d0, d1, d2, d3, dn, di, dt, d5, dk, dq, dc, da] [] = true) : LoopT P N n σ i TI E
  (.seq (.region i3 #[⟨some d0, .move (.tmp 0), y0, p0, e0, none⟩, ⟨some d1, .nilCheck (.tmp d0), y1, p1, e1, none⟩, ⟨some d2, .fieldAddr T (.tmp d1) k, y2, p2, e2, none⟩, ⟨some d3, .load ys (.tmp d2), y3, p3, e3, none⟩, ⟨some dn, .call ⟨.builtin .len, #[.tmp d3], ts1⟩, y4, p4, e4, none⟩, ⟨some di, .move (.const (.int .i64 0)), y5, p5, e5, none⟩] false)
   (.block b0 (.loop (.seq (.region i4 #[⟨some dt, .binOp .lss y6 (.tmp di) (.tmp dn) y7, y8, p6, e6, none⟩] false) (.seq (.cond (.tmp dt) .skip (.exit b0))
    (.seq (.block b1 (.seq (.region i5 #[⟨some d5, .move (.tmp di), y9, p7, e7, none⟩, ⟨some dk, .assign (.tmp d5), y10, p8, e8, none⟩] false)
     (.seq (Code.region rid #[⟨some dq, .alloc yb, y11, p9, #[], none⟩, ⟨none, .store yb (.tmp dq) (.const (.bool true)), y12, p10, #[⟨0, .data⟩, ⟨2, .gcOnly .appendInPlace⟩], none⟩, ⟨none, .store yb (.tmp dq) (.const (.bool false)), y13, p11, #[⟨0, .data⟩, ⟨1, .textOnly .appendInPlace⟩], none⟩,
       ⟨some dc, .load yb (.tmp dq), y14, p12, #[⟨0, .data⟩, ⟨0, .phase⟩, ⟨1, .phase⟩, ⟨2, .phase⟩], none⟩] true)
      (.cond (.tmp dc) cA cB))))
     (.region i10 #[⟨some da, .binOp .add y15 (.tmp di) (.const (.int .i64 1)) y16, y17, p13, e9, none⟩, ⟨some di, .move (.tmp da), dx, p14, e10, none⟩] false))))))) j := by
 intro x Fs v tz uv l nl B a w0 w hxn hts hA hC hv hnl hL
 obtain ⟨hdl, hnd, _⟩ := tellOK_dl hok
 simp only [List.nodup_cons, List.mem_cons, List.not_mem_nil, or_false, not_or] at hnd
 obtain ⟨⟨n01, n02, n03, n0n, n0i, n0t, n05, n0k, n0q, n0c, n0a⟩, ⟨n12, n13, n1n, n1i, _⟩, ⟨n23, n2n, n2i, _⟩, ⟨n3n, n3i, _⟩, ⟨nni, nnt, nn5, nnk, nnq, nnc, nna⟩, ⟨nit, ni5, nik, niq, nic, nia⟩, ⟨_, _, _, _, _⟩, ⟨n5k, _⟩, ⟨nkq, nkc, _⟩, ⟨nqc, _⟩, _⟩ := hnd
 simp only [List.mem_cons, List.not_mem_nil, or_false, forall_eq_or_imp, forall_eq] at hdl
 obtain ⟨q0, q1, q2, q3, qn, qi, qt, q5, qk, qq, qc, qa⟩ := hdl
 have aN := hA.size
 obtain ⟨C, tC, hC1, hC2, hC3, _⟩ := hC.mem
 obtain ⟨u, hu, hrep⟩ := RepL.get _ _ _ _ _ _ hat hC3
 rw [hv] at hu
 obtain rfl := Option.some.inj hu
 simp only [Rep] at hrep
 obtain ⟨ao, cap, hc0, hll, hnf⟩ : ∃ ao cap, from' C x.off (o + 0) = .slice ao l.length cap /\ l.length <= 4294967295 /\ (0 < l.length -> nl = false) := by
  rcases hrep with ⟨h1, h2⟩ | ⟨l', f, ⟨k', cap, C2, t2, g1, g2, _⟩, hb, _, h3⟩
  ·simp only [Tr.nul, Tr.mk.injEq] at h2
   obtain ⟨_, _, _, rfl, _⟩ := h2
   exact ⟨none, 0, h1, by simp, fun h => by simp at h⟩
  ·simp only [Tr.list, Tr.mk.injEq] at h3
   obtain ⟨_, _, rfl, rfl, _⟩ := h3
   exact ⟨_, cap, g2, hb, fun _ => rfl⟩
 have hcell : C[x.off + o]? = some (.slice ao l.length cap) := by
  simp only [from', Nat.add_zero, Array.getD_eq_getD_getElem?] at hc0
  cases hc : C[x.off + o]? with
  | none => rw [hc] at hc0; simp [undef] at hc0
  | some q => rw [hc] at hc0; simp at hc0; rw [hc0]
 have S : ∀ (a : Act) t v, (a.put (some t) v).tmps.size = a.tmps.size := fun a t v => Zs _ _ _
 refine wp_seq (wp_region_lit (Zv rfl Zm (Zv rfl (x_nilCheck (q := ⟨x.blk, x.off, none⟩) ?_) (Zv rfl (Za hf (b := x.blk) (o0 := x.off) ?_) (Zv rfl (Zl ho1 (b := x.blk) (o := x.off + o) (v := .slice ao l.length cap) ?_ (by rw [Zc (hL.mod.some hC1 (fun f => f))]; exact hcell)) (Zv rfl (x_len hel hts1 (ao := ao) (cap := cap) (n := l.length) ?_) (Zv rfl Zm (wpList_nil ?_))))))))
 ·rw [Ze, Zq (by rw [aN]; exact q0.1), Ze]; exact hA.src
 ·rw [Ze, Zq (by rw [S, aN]; exact q1.1)]
 ·rw [Ze, Zq (by rw [S, S, aN]; exact q2.1)]
 ·rw [Ze, Zq (by rw [S, S, S, aN]; exact q3.1)]
 refine wp_while
  (I := fun m a w' => TAmb N x a /\ Act.get a dn = .int .i64 (l.length : Nat) /\ ∃ p sv xs, p + m = l.length /\ Act.get a di = .int .i64 (p : Nat) /\ LMem x w0 w' tz uv B TI nl sv xs ((l.take p).map E))
  (J := fun m a w' => TAmb N x a /\ Act.get a dn = .int .i64 (l.length : Nat) /\ ∃ p sv xs, p + (m + 1) = l.length /\ Act.get a di = .int .i64 (p : Nat) /\ LMem x w0 w' tz uv B TI nl sv xs ((l.take p).map E))
  l.length ?_ ?_ ?_
 ·refine ⟨(((((hA.put q0.2 _).put q1.2 _).put q2.2 _).put q3.2 _).put qn.2 _).put qi.2 _, ?_, 0, _, _, by omega, ?_, by simpa using hL⟩
  ·rw [Zn (fun e => nni e.symm), Zq (by rw [S, S, S, S, aN]; exact qn.1)]
  ·rw [Zq (by rw [S, S, S, S, S, aN]; exact qi.1)]; rfl
 ·clear hA aN a
  rintro m a w' ⟨hA, an, p, sv, xs, hp, ai, hLm⟩
  have aN := hA.size
  refine wp_region_lit (Zv rfl (x_lss (k := .i64) (m := (p : Nat)) (n := (l.length : Nat)) (by rw [Ze]; exact ai) (by rw [Ze]; exact an)) (wpList_nil ⟨rfl, ?_⟩))
  cases m with
  | zero =>
   right
   refine ⟨?_, rfl, hA.put qt.2 _, sv, xs, ?_⟩
   ·rw [Zq (by rw [aN]; exact qt.1), show decide (((p : Nat) : Int) < (l.length : Nat)) = false from decide_eq_false (by omega)]
   ·rw [List.take_of_length_le (by omega)] at hLm; exact hLm
  | succ m =>
   left
   refine ⟨m, by omega, ?_, hA.put qt.2 _, ?_, p, sv, xs, hp, ?_, hLm⟩
   ·rw [Zq (by rw [aN]; exact qt.1), show decide (((p : Nat) : Int) < (l.length : Nat)) = true from decide_eq_true (by omega)]
   ·rw [Zn (fun e => nnt e.symm)]; exact an
   ·rw [Zn (fun e => nit e.symm)]; exact ai
 ·clear hA aN a
  rintro m a w' ⟨hA, an, p, sv, xs, hp, ai, hLm⟩
  have aN := hA.size
  have hpl : p < l.length := by omega
  have hnlf : nl = false := hnf (by omega)
  subst hnlf
  have hlen : ((l.take p).map E).length = p := by simp; omega
  refine wp_seq (wp_block_plain (fun id a w h => h) ?_)
  refine wp_seq (wp_region_lit (Zv rfl Zm (Zv rfl Zi (wpList_nil ?_))))
  refine wp_seq (region_coin hord hz h1 hs (by rw [S, S, aN]; exact qq.1) (fun e => nqc e.symm) ?_)
  intro vq bb w2 hm2
  obtain ⟨a2, ha2⟩ : ∃ a2 : Act, a2 = Act.put (Act.put (Act.put (Act.put a (some d5) (a.eval (.tmp di))) (some dk) (Act.eval (Act.put a (some d5) (a.eval (.tmp di))) (.tmp d5))) (some dq) vq) (some dc) (.bool bb) := ⟨_, rfl⟩
  rw [<- ha2]
  have hA2' : TAmb N x a2 := by rw [ha2]; exact (((hA.put q5.2 _).put qk.2 _).put qq.2 _).put qc.2 _
  have k2 : Act.get a2 dk = .int .i64 (((l.take p).map E).length : Nat) := by
   rw [ha2, Zn (fun e => nkc e.symm), Zn (fun e => nkq e.symm), Zq (by rw [S, aN]; exact qk.1), Ze, Zq (by rw [aN]; exact q5.1), Ze, ai, hlen]
  have kn2 : Act.get a2 dn = .int .i64 (l.length : Nat) := by
   rw [ha2, Zn (fun e => nnc e.symm), Zn (fun e => nnq e.symm), Zn (fun e => nnk e.symm), Zn (fun e => nn5 e.symm)]; exact an
  have ki2 : Act.get a2 di = .int .i64 (p : Nat) := by
   rw [ha2, Zn (fun e => nic e.symm), Zn (fun e => niq e.symm), Zn (fun e => nik e.symm), Zn (fun e => ni5 e.symm)]; exact ai
  have kc : Act.get a2 dc = .bool bb := by rw [ha2, Zq (by rw [S, S, S, aN]; exact qc.1)]
  have hLm2 : LMem x w0 w2 tz uv B TI false sv xs ((l.take p).map E) := hLm.grow hm2
  have hpl' : ((l.take p).map E).length < l.length := by rw [hlen]; exact hpl
  have key : ∀ e a3 w3, (e = Exit.normal /\ TAmb N x a3 /\ (∀ t ∈ [dn, di], Act.get a3 t = Act.get a2 t) /\ ∃ sv' xs', LMem x w0 w3 tz uv B TI false sv' xs' ((l.take p).map E ++ [E (l[((l.take p).map E).length]'hpl')])) ->
    e = Exit.normal /\ (Code.region i10 #[⟨some da, .binOp .add y15 (.tmp di) (.const (.int .i64 1)) y16, y17, p13, e9, none⟩, ⟨some di, .move (.tmp da), dx, p14, e10, none⟩] false).wp P (fun e a' w' => match e with | .normal => (TAmb N x a' /\ Act.get a' dn = .int .i64 (l.length : Nat) /\ ∃ p sv xs, p + m = l.length /\ Act.get a' di = .int .i64 (p : Nat) /\ LMem x w0 w' tz uv B TI false sv xs ((l.take p).map E)) | .ret => False | _ => False) a3 w3 := by
   rintro e a3 w3 ⟨rfl, hA3, hkeep, sv', xs', hL3⟩
   have aN3 := hA3.size
   have kn3 := (hkeep dn (by simp)).trans kn2
   have ki3 := (hkeep di (by simp)).trans ki2
   refine ⟨rfl, wp_region_lit (Zv rfl (x_add (k := .i64) (m := (p : Nat)) (n := 1) (by rw [Ze]; exact ki3) rfl) (Zv rfl Zm (wpList_nil ⟨(hA3.put qa.2 _).put qi.2 _, ?_, p + 1, sv', xs', by omega, ?_, ?_⟩)))⟩
   ·rw [Zn (fun e => nni e.symm), Zn (fun e => nna e.symm)]; exact kn3
   ·rw [Zq (by rw [S, aN3]; exact qi.1), Ze, Zq (by rw [aN3]; exact qa.1)]
    rw [show IntKind.i64.wrap (((p : Nat) : Int) + 1) = ((p + 1 : Nat) : Int) from by rw [IntKind.wrap_i64]; omega]
   ·have e : (l.take (p + 1)).map E = (l.take p).map E ++ [E (l[((l.take p).map E).length]'hpl')] := by
     have hidx : ∀ q (h : q < l.length), q = p -> E l[q] = E l[p] := by intro q h e; subst e; rfl
     rw [<- List.take_append_getElem hpl, List.map_append, hidx _ hpl' hlen]
     rfl
    rw [e]; exact hL3
  cases bb with
  | true =>
   refine wp_cond_true (by rw [Ze]; exact kc) (wp_mono (hA1 x Fs v tz uv B false sv xs _ l a2 w0 w2 hxn hts hA2' k2 hC hv hpl' hLm2) ?_)
   intro e a3 w3 h
   obtain ⟨rfl, h2⟩ := key e a3 w3 h
   exact wp_mono h2 (fun e a w h => by cases e <;> first | exact h | exact h.elim)
  | false =>
   refine wp_cond_false (by rw [Ze]; exact kc) (wp_mono (hA2 x Fs v tz uv B false sv xs _ l a2 w0 w2 hxn hts hA2' k2 hC hv hpl' hLm2) ?_)
   intro e a3 w3 h
   obtain ⟨rfl, h2⟩ := key e a3 w3 h
   exact wp_mono h2 (fun e a w h => by cases e <;> first | exact h | exact h.elim)
end
end Go.Proofs.YtcldbjehliladaaDoor
