/-
  Telling a list: an element is appended. No program in it.
-/
import Derived.Test.YtcldbjehliladaaDoorPTelL
import Derived.Test.YtcldbjehliladaaDoorPRp
set_option linter.unusedSimpArgs false
set_option linter.unusedVariables false
namespace Go.Proofs.YtcldbjehliladaaDoor
open Go Go.RowKit
/-- what is told of a struct -/
def structT (G : SV -> List Tr) (t : Tr) : Tr := .part (G (t.L, t.U)) t.U
section
variable {P : Program} {σ : St} {N n TI TL T k i o j dk ys es yb eb rid rid2 sz fL : Nat} {kd : IntKind} {keep : List Nat} {ts' : Array TypeId} {d0 d1 d2 d3 d4 d5 d6 d7 d8 d9 d10 d11 d12 d13 d14 d15 d16 d17 d18 d19 d20 d21 d22 d23 : Nat} {y0 y1 y2 y3 y4 y5 y6 y7 y8 y9 y10 y11 y12 y13 y14 y15 y16 y17 y18 y19 y20 y21 y22 y23 : TypeId} {p0 p1 p2 p3 p4 p5 p6 p7 p8 p9 p10 p11 p12 p13 p14 p15 p16 p17 p18 p19 p20 p21 p22 p23 : String}
set_option maxHeartbeats 2000000 in
theorem app1_num (hT : TellT P TI TL) (hs8 : intTy P es kd = true) (hs9 : intTy P yb .i64 = true) (hkd : ∀ n, fits kd n -> IntKind.i64.wrap n = n /\ fits .i64 n) (hes : one P es = true) (hI : elemInfo P ys es 1 = true) (ho1 : one P ys = true) (hf : fieldOff P T k = some o) (hat : σ.lay.at i = some (o, .list (.int kd) 1)) (hTL : sized P TL 1 = true) (hok : tellOK N [d0, d1, d2, d3, d4, d5, d6, d7, d8, d9, d10, d11, d12, d13, d14, d15, d16, d17] [d18, d19] = true) (hkeep : ∀ t ∈ dk :: keep, t ∉ [d0, d1, d2, d3, d4, d5, d6, d7, d8, d9, d10, d11, d12, d13, d14, d15, d16, d17] ++ [d18, d19]) (hdd : d19 ≠ d18) : AppC P N n j dk keep σ i TI (id)
    (Code.region rid #[⟨some d0, .fieldAddr TI (.tmp 3) 3, y0, p0, #[], none⟩,
      ⟨some d1, .load TL (.tmp d0), y1, p1, #[⟨0, .data⟩], none⟩,
      ⟨some d2, .fieldAddr TI (.tmp 3) 3, y2, p2, #[], none⟩,
      ⟨some d3, .load TL (.tmp d2), y3, p3, #[⟨2, .data⟩], none⟩,
      ⟨some d4, .indexAddr TL (.tmp d3) (.const (.int .i64 (j : Nat))), y4, p4, #[⟨3, .data⟩], none⟩,
      ⟨some d5, .fieldAddr TI (.tmp d4) 3, y5, p5, #[⟨4, .data⟩], none⟩,
      ⟨some d6, .load TL (.tmp d5), y6, p6, #[⟨5, .data⟩], none⟩,
      ⟨some d7, .move (.tmp 0), y7, p7, #[], none⟩,
      ⟨some d8, .nilCheck (.tmp d7), y8, p8, #[⟨7, .data⟩], none⟩,
      ⟨some d9, .fieldAddr T (.tmp d8) k, y9, p9, #[⟨8, .data⟩], none⟩,
      ⟨some d10, .load ys (.tmp d9), y10, p10, #[⟨9, .data⟩], none⟩,
      ⟨some d11, .move (.tmp dk), y11, p11, #[], none⟩,
      ⟨some d12, .indexAddr ys (.tmp d10) (.tmp d11), y12, p12, #[⟨10, .data⟩, ⟨11, .data⟩], none⟩,
      ⟨some d13, .load es (.tmp d12), y13, p13, #[⟨12, .data⟩], none⟩,
      ⟨some d14, .convert es yb (.tmp d13), y14, p14, #[⟨13, .data⟩], none⟩,
      ⟨some d15, .build TI #[(0, .tmp d14)], y15, p15, #[⟨14, .data⟩], none⟩,
      ⟨some d16, .buildSlice TL 1 #[(0, .tmp d15)], y16, p16, #[⟨15, .data⟩], none⟩,
      ⟨some d17, .call ⟨.builtin .append, #[.tmp d6, .tmp d16], #[TL, TL]⟩, y17, p17, #[⟨6, .data⟩, ⟨16, .data⟩], none⟩,
      ⟨some d18, .indexAddr TL (.tmp d1) (.const (.int .i64 (j : Nat))), y18, p18, #[⟨1, .data⟩, ⟨0, .phase⟩, ⟨1, .phase⟩, ⟨2, .phase⟩, ⟨3, .phase⟩, ⟨4, .phase⟩, ⟨5, .phase⟩, ⟨6, .phase⟩, ⟨7, .phase⟩, ⟨8, .phase⟩, ⟨9, .phase⟩, ⟨10, .phase⟩, ⟨11, .phase⟩, ⟨12, .phase⟩, ⟨13, .phase⟩, ⟨14, .phase⟩, ⟨15, .phase⟩, ⟨16, .phase⟩, ⟨17, .phase⟩], none⟩,
      ⟨some d19, .fieldAddr TI (.tmp d18) 3, y19, p19, #[⟨18, .data⟩, ⟨0, .phase⟩, ⟨1, .phase⟩, ⟨2, .phase⟩, ⟨3, .phase⟩, ⟨4, .phase⟩, ⟨5, .phase⟩, ⟨6, .phase⟩, ⟨7, .phase⟩, ⟨8, .phase⟩, ⟨9, .phase⟩, ⟨10, .phase⟩, ⟨11, .phase⟩, ⟨12, .phase⟩, ⟨13, .phase⟩, ⟨14, .phase⟩, ⟨15, .phase⟩, ⟨16, .phase⟩, ⟨17, .phase⟩], none⟩,
      ⟨none, .store TL (.tmp d19) (.tmp d17), y20, p20, #[⟨19, .data⟩, ⟨17, .data⟩, ⟨17, .chain⟩, ⟨0, .phase⟩, ⟨1, .phase⟩, ⟨2, .phase⟩, ⟨3, .phase⟩, ⟨4, .phase⟩, ⟨5, .phase⟩, ⟨6, .phase⟩, ⟨7, .phase⟩, ⟨8, .phase⟩, ⟨9, .phase⟩, ⟨10, .phase⟩, ⟨11, .phase⟩, ⟨12, .phase⟩, ⟨13, .phase⟩, ⟨14, .phase⟩, ⟨15, .phase⟩, ⟨16, .phase⟩, ⟨17, .phase⟩], none⟩] true) := by
  intro x Fs v tz uv B nl sv xs pre l a w0 w hxn hts hA hk hC hv hpl hM
  subst hts
  obtain ⟨hdl, hnd, htl⟩ := tellOK_dl hok
  obtain ⟨C, tC, kb, cap, C3, t3', f, hC1, hC2, hC3, hll, hlc, hC3s, hC3f, hreps⟩ := list_at hC hat hv
  have hrep := hreps pre.length hpl
  simp only [Rep] at hrep
  obtain ⟨m, hbs, hmf, hte⟩ := hrep
  have hEt : id l[pre.length] = .num m := hte
  have hcell : C3[0 + pre.length * 1]? = some (.int kd m) := by rw [Nat.zero_add, <- hbs]; exact hC3f pre.length hpl 0 (by omega)
  have hnew := hM.new
  have hlt := hM.lt
  have hub : ∀ k, sv.ownBlock = some k -> B <= k /\ k < w.heap.size := fun k hk => hM.own.lt k hk
  have hR0 : ∀ W, Mod (fun k => sv.ownBlock = some k) w W -> Mod none' w0 W := fun W hm => hM.mod.trans' hm (fun _ _ f => f) (fun j hj e => by have := (hub j e).1; omega)
  obtain ⟨T', hb⟩ := hM.hb
  obtain ⟨D, TD, hl1, hD1, hD2, hD3, hD4, hD5⟩ := hM.hl
  have nt : ¬ sv.ownBlock = some x.tb := fun e => by have := (hub _ e).1; omega
  have nl1 : ¬ sv.ownBlock = some x.lb := fun e => by have := (hub _ e).1; omega
  have hj : tz.length < x.n := hD2
  have hrow : tz.length * 5 + 5 <= D.size := by rw [hD1]; have := Nat.mul_le_mul_right 5 (show tz.length + 1 <= x.n by omega); omega
  have hsv : D[0 + tz.length * 5 + 3]? = some sv := by
    have h3 := hD4 3 (by omega)
    simp only [from', Array.getD_eq_getD_getElem?] at h3
    rw [show 0 + tz.length * 5 + 3 = tz.length * 5 + 3 by omega, Array.getElem?_eq_getElem (by omega)]
    rw [Array.getElem?_eq_getElem (by omega)] at h3
    have h3q : D[tz.length * 5 + 3]'(by omega) = row5 nl sv 3 := by simpa using h3
    exact congrArg some h3q
  have hdk : dk ∉ [d0, d1, d2, d3, d4, d5, d6, d7, d8, d9, d10, d11, d12, d13, d14, d15, d16, d17] := fun hm => by have := hkeep dk (by simp); exact this (List.mem_append_left _ hm)
  refine region_rlq (l := [_, _, _, _, _, _, _, _, _, _, _, _, _, _, _, _, _, _]) (tl := [_, _, _]) hT.ord (Mod (fun k => sv.ownBlock = some k)) (fun a b h => h.none) (fun _ _ _ h h' => h.trans h') [d0, d1, d2, d3, d4, d5, d6, d7, d8, d9, d10, d11, d12, d13, d14, d15, d16, d17]
    [fun v _ => v = .pointer (some ⟨x.tb, 0 + 3, none⟩),
     fun v _ => v = .slice (some ⟨x.lb, 0, none⟩) x.n x.n,
     fun v _ => v = .pointer (some ⟨x.tb, 0 + 3, none⟩),
     fun v _ => v = .slice (some ⟨x.lb, 0, none⟩) x.n x.n,
     fun v _ => v = .pointer (some ⟨x.lb, 0 + tz.length * 5, none⟩),
     fun v _ => v = .pointer (some ⟨x.lb, 0 + tz.length * 5 + 3, none⟩),
     fun v _ => v = sv,
     fun v _ => v = .pointer (some ⟨x.blk, x.off, none⟩),
     fun v _ => v = .pointer (some ⟨x.blk, x.off, none⟩),
     fun v _ => v = .pointer (some ⟨x.blk, x.off + o, none⟩),
     fun v _ => v = .slice (some ⟨kb, 0, none⟩) l.length cap,
     fun v _ => v = .int .i64 (pre.length : Nat),
     fun v _ => v = .pointer (some ⟨kb, 0 + pre.length * 1, none⟩),
     fun v _ => v = .int kd m,
     fun v _ => v = .int .i64 m,
     fun v w' => TreeV w' (fun k => w.heap.size <= k) v (id l[pre.length]),
     fun v w' => ∃ cs kk, v = .slice (some ⟨kk, 0, none⟩) 1 1 /\ w'.heap[kk]? = some (.cells cs TI (0, 0)) /\ w.heap.size <= kk /\ cs.size = 5 /\ cs.all (·.oneCell') = true /\ TreeR w' (fun k => w.heap.size <= k) (from' cs 0) (id l[pre.length])]
    (fun v w' => ∃ cs : Array Value, w'.ownsRow B TI 5 v (pre.length + 1) (xs ++ cs.toList) /\ cs.size = 5 /\ TreeR w' (fun k => B <= k /\ v.ownBlock ≠ some k) (from' cs 0) (id l[pre.length]) /\ (∀ i (h : i < pre.length), TreeR w' (fun k => B <= k /\ v.ownBlock ≠ some k) (fun q => xs.getD (i * 5 + q) undef) pre[i]))
    ?_ ?_ (by simp [regFormT]) hnd (fun d hd => by rw [hA.size]; exact (hdl d hd).1) (by simp) (by kernel_rfl) ⟨?_, ?_, ?_, ?_, ?_, ?_, ?_, ?_, ?_, ?_, ?_, ?_, ?_, ?_, ?_, ?_, ?_, ?_, trivial⟩ ?_
  · intro g hg v1 w1 w2 hv hr
    simp only [List.mem_cons, List.not_mem_nil, or_false] at hg
    rcases hg with rfl | rfl | rfl | rfl | rfl | rfl | rfl | rfl | rfl | rfl | rfl | rfl | rfl | rfl | rfl | rfl | rfl
    · exact hv
    · exact hv
    · exact hv
    · exact hv
    · exact hv
    · exact hv
    · exact hv
    · exact hv
    · exact hv
    · exact hv
    · exact hv
    · exact hv
    · exact hv
    · exact hv
    · exact hv
    · exact TreeV.mod hv hr (fun k hk e => by have := (hub k e).2; omega) (fun _ h => h)
    · obtain ⟨cs, kk, g1, g2, g3, g4, g5, g6⟩ := hv
      exact ⟨cs, kk, g1, hr.some g2 (fun e => by have := (hub _ e).2; omega), g3, g4, g5, g6.mod hr (fun k hk e => by have := (hub k e).2; omega) (fun _ h => h)⟩
  · rintro v1 w1 w2 ⟨cs, g1, g2, g3, g4⟩ hr
    exact ⟨cs, ownsRow_mod g1 hr (fun _ _ f => f), g2, g3.mod hr (fun _ _ f => f) (fun _ h => h), fun i hi => (g4 i hi).mod hr (fun _ _ f => f) (fun _ h => h)⟩
  · intro a1 w1 hr hp hs hd
    have t3 := (hs.get 3 (fun hm => (hdl 3 hm).2.2.2 rfl)).trans hA.tree
    exact Zw (Za hT.f3 t3) ⟨_, rfl, relp_ne (by rfl) (Mod.refl w1), rfl⟩
  · intro a1 w1 hr hp hs hd
    have e0 : Act.get a1 d0 = .pointer (some ⟨x.tb, 0 + 3, none⟩) := hd ⟨0, .data⟩ (by simp) rfl
    exact Zw (Zl hT.one e0 (by rw [Zc (hr.some hb nt)]; rfl)) ⟨_, rfl, relp_ne (by rfl) (Mod.refl w1), rfl⟩
  · intro a1 w1 hr hp hs hd
    have t3 := (hs.get 3 (fun hm => (hdl 3 hm).2.2.2 rfl)).trans hA.tree
    exact Zw (Za hT.f3 t3) ⟨_, rfl, relp_ne (by rfl) (Mod.refl w1), rfl⟩
  · intro a1 w1 hr hp hs hd
    have e2 : Act.get a1 d2 = .pointer (some ⟨x.tb, 0 + 3, none⟩) := hd ⟨2, .data⟩ (by simp) rfl
    exact Zw (Zl hT.one e2 (by rw [Zc (hr.some hb nt)]; rfl)) ⟨_, rfl, relp_ne (by rfl) (Mod.refl w1), rfl⟩
  · intro a1 w1 hr hp hs hd
    have e3 : Act.get a1 d3 = .slice (some ⟨x.lb, 0, none⟩) x.n x.n := hd ⟨3, .data⟩ (by simp) rfl
    exact Zw (Zx (i := tz.length) (elemSize_of hT.elem) e3 rfl hj) ⟨_, rfl, relp_ne (by rfl) (Mod.refl w1), rfl⟩
  · intro a1 w1 hr hp hs hd
    have e4 : Act.get a1 d4 = .pointer (some ⟨x.lb, 0 + tz.length * 5, none⟩) := hd ⟨4, .data⟩ (by simp) rfl
    exact Zw (Za hT.f3 e4) ⟨_, rfl, relp_ne (by rfl) (Mod.refl w1), rfl⟩
  · intro a1 w1 hr hp hs hd
    have e5 : Act.get a1 d5 = .pointer (some ⟨x.lb, 0 + tz.length * 5 + 3, none⟩) := hd ⟨5, .data⟩ (by simp) rfl
    exact Zw (Zl hT.one e5 (by rw [Zc (hr.some hl1 nl1)]; exact hsv)) ⟨_, rfl, relp_ne (by rfl) (Mod.refl w1), rfl⟩
  · intro a1 w1 hr hp hs hd
    have t0 := (hs.get 0 (fun hm => (hdl 0 hm).2.1 rfl)).trans hA.src
    exact Zw (x_moveV t0) ⟨_, rfl, relp_ne (by rfl) (Mod.refl w1), rfl⟩
  · intro a1 w1 hr hp hs hd
    have e7 : Act.get a1 d7 = .pointer (some ⟨x.blk, x.off, none⟩) := hd ⟨7, .data⟩ (by simp) rfl
    exact Zw (x_nilCheck e7) ⟨_, rfl, relp_ne (by rfl) (Mod.refl w1), rfl⟩
  · intro a1 w1 hr hp hs hd
    have e8 : Act.get a1 d8 = .pointer (some ⟨x.blk, x.off, none⟩) := hd ⟨8, .data⟩ (by simp) rfl
    exact Zw (Za hf e8) ⟨_, rfl, relp_ne (by rfl) (Mod.refl w1), rfl⟩
  · intro a1 w1 hr hp hs hd
    have e9 : Act.get a1 d9 = .pointer (some ⟨x.blk, x.off + o, none⟩) := hd ⟨9, .data⟩ (by simp) rfl
    exact Zw (Zl ho1 e9 (by rw [Zc ((hR0 _ hr).some hC1 (fun f => f))]; exact hC2)) ⟨_, rfl, relp_ne (by rfl) (Mod.refl w1), rfl⟩
  · intro a1 w1 hr hp hs hd
    have tk := (hs.get dk hdk).trans hk
    exact Zw (x_moveV tk) ⟨_, rfl, relp_ne (by rfl) (Mod.refl w1), rfl⟩
  · intro a1 w1 hr hp hs hd
    have e10 : Act.get a1 d10 = .slice (some ⟨kb, 0, none⟩) l.length cap := hd ⟨10, .data⟩ (by simp) rfl
    have e11 : Act.get a1 d11 = .int .i64 (pre.length : Nat) := hd ⟨11, .data⟩ (by simp) rfl
    exact Zw (Zx (i := pre.length) (elemSize_of hI) e10 e11 hpl) ⟨_, rfl, relp_ne (by rfl) (Mod.refl w1), rfl⟩
  · intro a1 w1 hr hp hs hd
    have e12 : Act.get a1 d12 = .pointer (some ⟨kb, 0 + pre.length * 1, none⟩) := hd ⟨12, .data⟩ (by simp) rfl
    exact Zw (Zl hes e12 (by rw [Zc ((hR0 _ hr).some hC3 (fun f => f))]; exact hcell)) ⟨_, rfl, relp_ne (by rfl) (Mod.refl w1), rfl⟩
  · intro a1 w1 hr hp hs hd
    have e13 : Act.get a1 d13 = .int kd m := hd ⟨13, .data⟩ (by simp) rfl
    exact Zw (x_convInt hs8 hs9 e13) ⟨_, rfl, relp_ne (by rfl) (Mod.refl w1), show Value.int IntKind.i64 (IntKind.i64.wrap m) = .int .i64 m from by rw [(hkd m hmf).1]⟩
  · intro a1 w1 hr hp hs hd
    have e14 : Act.get a1 d14 = .int .i64 m := hd ⟨14, .data⟩ (by simp) rfl
    refine Zw (x_build (cells := #[.int .i64 m, .slice none 0 0, .bool false, .slice none 0 0, .slice none 0 0]) ?_) ⟨_, rfl, relp_ne (by rfl) (Mod.refl w1), _, rfl, rfl, ?_, ?_⟩
    · simp only [List.map_toArray, List.map_cons, List.map_nil, Ze]
      rw [built_of hT.parts, e14]
      rfl
    · simp [Value.oneCell']
    · rw [hEt]; exact tree_num rfl (hkd m hmf).2 rfl rfl rfl rfl
  · intro a1 w1 hr hp hs hd
    obtain ⟨cs, e9, e8, e7, e6⟩ : TreeV w1 (fun k => w.heap.size <= k) (Act.get a1 d15) (id l[pre.length]) := hd ⟨15, .data⟩ (by simp) rfl
    have hsz := hr.size
    refine Zw (x_buildSlice1 hT.elem e9 e8) ⟨_, rfl, relp_ne (by rfl) ((Mod.refl w1).alloc _), cs, _, rfl, Zh _ _, hsz, e8, e7, e6.mod ((Mod.refl w1).alloc _) (fun _ _ f => f) (fun _ h => h)⟩
  · intro a1 w1 hr hp hs hd
    have e6 : Act.get a1 d6 = sv := hd ⟨6, .data⟩ (by simp) rfl
    obtain ⟨cs, kk, g1, g2, g3, g4, g5, g6⟩ : ∃ cs kk, Act.get a1 d16 = .slice (some ⟨kk, 0, none⟩) 1 1 /\ w1.heap[kk]? = some (.cells cs TI (0, 0)) /\ w.heap.size <= kk /\ cs.size = 5 /\ cs.all (·.oneCell') = true /\ TreeR w1 (fun k => w.heap.size <= k) (from' cs 0) (id l[pre.length]) := hd ⟨16, .data⟩ (by simp) rfl
    have hm0 := hp rfl
    have hown1 := ownsRow_mod hM.own hm0 (fun _ _ f => f)
    have hsz := hm0.size
    have hlen := hM.len
    obtain ⟨v', w2, hrun, hown2, hm2, _, hblk⟩ := x_append (P := P) (ρ := a1.eval) (w := w1) (d := some d17) (ty := y17) (p := p17) (af := #[⟨6, .data⟩, ⟨16, .data⟩]) (g := none) (s := .tmp d6) (x := .tmp d16) (base := B) (v := sv) (n := pre.length) (xs := xs) (ad := ⟨kk, 0, none⟩) (m := 1) (c := 1) (news := cs.toList) hT.elem e6 g1 hown1 (by simp [g4]) (fun j q hq => by rw [Addr.add_mid, Zc g2, Nat.zero_add]; simpa using hq) (fun q hq => by have := Array.all_eq_true_iff_forall_mem.1 g5 q (by simpa using hq); exact this) (by omega) (by omega)
    refine Zw hrun ⟨_, rfl, relp_eq hm2, cs, hown2, g4, ?_, fun i hi => ?_⟩
    · exact (g6.lt.mod (F' := fun k => w.heap.size <= k /\ k < w1.heap.size) hm2 (fun k hk e => by have := (hub k e).2; have := hk.1; omega) (fun _ h => h)).mod (Mod.refl (S := none') w2) (fun _ _ f => f) (fun k hk => ⟨by omega, fun e => by rcases hblk k e with h | h; exact absurd (hub k h).2 (by omega); omega⟩)
    · exact (((hM.els i hi).lt.mod (F' := fun k => (B <= k /\ sv.ownBlock ≠ some k) /\ k < w.heap.size) hm0 (fun _ _ f => f) (fun _ h => h)).mod (F' := fun k => (B <= k /\ sv.ownBlock ≠ some k) /\ k < w.heap.size) hm2 (fun k hk => hk.1.2) (fun _ h => h)).mod (Mod.refl (S := none') w2) (fun _ _ f => f) (fun k hk => ⟨hk.1.1, fun e => by rcases hblk k e with h | h; exact hk.1.2 h; have := hk.2; omega⟩)
  · intro a1 w1 hr hs hh
    have e1 : Act.get a1 d1 = .slice (some ⟨x.lb, 0, none⟩) x.n x.n := hh 1 (by simp)
    obtain ⟨cs, g1, g2, g3, g4⟩ : ∃ cs : Array Value, w1.ownsRow B TI 5 (Act.get a1 d17) (pre.length + 1) (xs ++ cs.toList) /\ cs.size = 5 /\ TreeR w1 (fun k => B <= k /\ (Act.get a1 d17).ownBlock ≠ some k) (from' cs 0) (id l[pre.length]) /\ (∀ i (h : i < pre.length), TreeR w1 (fun k => B <= k /\ (Act.get a1 d17).ownBlock ≠ some k) (fun q => xs.getD (i * 5 + q) undef) pre[i]) := hh 17 (by simp)
    have hda := htl d18 (by simp)
    have hdb := htl d19 (by simp)
    have sN : a1.tmps.size = N := hs.size.trans hA.size
    have hl1' := hr.some hl1 nl1
    refine Zv rfl (Zx (i := tz.length) (elemSize_of hT.elem) e1 rfl hj) ?_
    refine Zv rfl (Za hT.f3 (b := x.lb) (o0 := 0 + tz.length * 5) ?_) ?_
    · rw [Ze, Zq (by rw [sN]; exact hda.1)]
    refine wpl_skip rfl (x_store1 hTL (b := x.lb) (o := 0 + tz.length * 5 + 3) (v := Act.get a1 d17) (u := sv) ?_ ?_ (ownsRow_one g1) ?_ ?_) (wpList_nil ?_)
    · rw [Ze, Zq (by rw [Zs, sN]; exact hdb.1)]
    · rw [Ze, Zn (fun e => hdb.2.2.2.2 (by simp [e])), Zn (fun e => hda.2.2.2.2 (by simp [e]))]
    · rw [Zc hl1']; exact hsv
    · exact Zz hl1'
    have hAB : TAmb N x a1 := hA.same hs (fun hm => (hdl 0 hm).2.1 rfl) (fun hm => (hdl 2 hm).2.2.1 rfl) (fun hm => (hdl 3 hm).2.2.2 rfl)
    refine ⟨rfl, ?_, fun t ht => ?_, _, xs ++ cs.toList, hM.put hr (by simpa using g1) (by simp; omega) fun i hi => ?_⟩
    · exact ((hAB.put ⟨hda.2.1, hda.2.2.1, hda.2.2.2.1⟩ _).put ⟨hdb.2.1, hdb.2.2.1, hdb.2.2.2.1⟩ _)
    · have hkt := hkeep t (List.mem_cons_of_mem _ ht)
      simp only [List.mem_append, not_or] at hkt
      rw [Zo, Zn (fun e => hkt.2 (by simp [<- e])), Zn (fun e => hkt.2 (by simp [<- e]))]
      exact hs.get t hkt.1
    · have hxl := hM.own.1
      by_cases hip : i < pre.length
      · rw [List.getElem_append_left hip]
        refine (g4 i hip).congr fun q hq => ?_
        have := Nat.mul_le_mul_right 5 (show i + 1 <= pre.length by omega)
        show (xs ++ cs.toList).getD _ _ = _
        rw [List.getD_eq_getElem?_getD, List.getElem?_append_left (by omega), <- List.getD_eq_getElem?_getD]
      · have hie : i = pre.length := by simp at hi; omega
        subst hie
        rw [show (pre ++ [id l[pre.length]])[pre.length] = id l[pre.length] by simp]
        refine g3.congr fun q hq => ?_
        show (xs ++ cs.toList).getD _ _ = _
        rw [List.getD_eq_getElem?_getD, List.getElem?_append_right (by omega), hxl, show pre.length * 5 + q - pre.length * 5 = q by omega]
        simp [from', Array.getD_eq_getD_getElem?]
set_option maxHeartbeats 2000000 in
theorem app0_num (hT : TellT P TI TL) (hs8 : intTy P es kd = true) (hs9 : intTy P yb .i64 = true) (hkd : ∀ n, fits kd n -> IntKind.i64.wrap n = n /\ fits .i64 n) (hes : one P es = true) (hI : elemInfo P ys es 1 = true) (ho1 : one P ys = true) (hf : fieldOff P T k = some o) (hat : σ.lay.at i = some (o, .list (.int kd) 1)) (hTL : sized P TL 1 = true) (hok : tellOK N [d0, d1, d2, d3, d4, d5, d6, d7, d8, d9, d10, d11, d12, d13, d14, d15] [d16, d17, d18, d20] = true) (hkeep : ∀ t ∈ dk :: keep, t ∉ [d0, d1, d2, d3, d4, d5, d6, d7, d8, d9, d10, d11, d12, d13, d14, d15] ++ [d16, d17, d18, d20]) (hdd : [d16, d17, d18, d20].Nodup) : AppC P N n j dk keep σ i TI (id)
    (.seq (Code.region rid #[⟨some d0, .fieldAddr TI (.tmp 3) 3, y0, p0, #[], none⟩,
      ⟨some d1, .load TL (.tmp d0), y1, p1, #[⟨0, .data⟩], none⟩,
      ⟨some d2, .indexAddr TL (.tmp d1) (.const (.int .i64 (j : Nat))), y2, p2, #[⟨1, .data⟩], none⟩,
      ⟨some d3, .fieldAddr TI (.tmp d2) 3, y3, p3, #[⟨2, .data⟩], none⟩,
      ⟨some d4, .load TL (.tmp d3), y4, p4, #[⟨3, .data⟩], none⟩,
      ⟨some d5, .move (.tmp 0), y5, p5, #[], none⟩,
      ⟨some d6, .nilCheck (.tmp d5), y6, p6, #[⟨5, .data⟩], none⟩,
      ⟨some d7, .fieldAddr T (.tmp d6) k, y7, p7, #[⟨6, .data⟩], none⟩,
      ⟨some d8, .load ys (.tmp d7), y8, p8, #[⟨7, .data⟩], none⟩,
      ⟨some d9, .move (.tmp dk), y9, p9, #[], none⟩,
      ⟨some d10, .indexAddr ys (.tmp d8) (.tmp d9), y10, p10, #[⟨8, .data⟩, ⟨9, .data⟩], none⟩,
      ⟨some d11, .load es (.tmp d10), y11, p11, #[⟨10, .data⟩], none⟩,
      ⟨some d12, .convert es yb (.tmp d11), y12, p12, #[⟨11, .data⟩], none⟩,
      ⟨some d13, .build TI #[(0, .tmp d12)], y13, p13, #[⟨12, .data⟩], none⟩,
      ⟨some d14, .call ⟨.builtin .len, #[.tmp d4], #[TL]⟩, y14, p14, #[⟨4, .data⟩], none⟩,
      ⟨some d15, .buildSlice TL 1 #[(0, .const (.agg #[.int .i64 0, .slice none 0 0, .bool false, .slice none 0 0, .slice none 0 0]))], y15, p15, #[], none⟩,
      ⟨some d16, .call ⟨.builtin .append, #[.tmp d4, .tmp d15], #[TL, TL]⟩, y16, p16, #[⟨4, .data⟩, ⟨15, .data⟩, ⟨0, .phase⟩, ⟨1, .phase⟩, ⟨2, .phase⟩, ⟨3, .phase⟩, ⟨4, .phase⟩, ⟨5, .phase⟩, ⟨6, .phase⟩, ⟨7, .phase⟩, ⟨8, .phase⟩, ⟨9, .phase⟩, ⟨10, .phase⟩, ⟨11, .phase⟩, ⟨12, .phase⟩, ⟨13, .phase⟩, ⟨14, .phase⟩, ⟨15, .phase⟩], none⟩,
      ⟨some d17, .indexAddr TL (.tmp d1) (.const (.int .i64 (j : Nat))), y17, p17, #[⟨1, .data⟩, ⟨0, .phase⟩, ⟨1, .phase⟩, ⟨2, .phase⟩, ⟨3, .phase⟩, ⟨4, .phase⟩, ⟨5, .phase⟩, ⟨6, .phase⟩, ⟨7, .phase⟩, ⟨8, .phase⟩, ⟨9, .phase⟩, ⟨10, .phase⟩, ⟨11, .phase⟩, ⟨12, .phase⟩, ⟨13, .phase⟩, ⟨14, .phase⟩, ⟨15, .phase⟩, ⟨16, .phase⟩], none⟩,
      ⟨some d18, .fieldAddr TI (.tmp d17) 3, y18, p18, #[⟨17, .data⟩, ⟨0, .phase⟩, ⟨1, .phase⟩, ⟨2, .phase⟩, ⟨3, .phase⟩, ⟨4, .phase⟩, ⟨5, .phase⟩, ⟨6, .phase⟩, ⟨7, .phase⟩, ⟨8, .phase⟩, ⟨9, .phase⟩, ⟨10, .phase⟩, ⟨11, .phase⟩, ⟨12, .phase⟩, ⟨13, .phase⟩, ⟨14, .phase⟩, ⟨15, .phase⟩, ⟨16, .phase⟩], none⟩,
      ⟨none, .store TL (.tmp d18) (.tmp d16), y19, p19, #[⟨18, .data⟩, ⟨16, .data⟩, ⟨16, .chain⟩, ⟨0, .phase⟩, ⟨1, .phase⟩, ⟨2, .phase⟩, ⟨3, .phase⟩, ⟨4, .phase⟩, ⟨5, .phase⟩, ⟨6, .phase⟩, ⟨7, .phase⟩, ⟨8, .phase⟩, ⟨9, .phase⟩, ⟨10, .phase⟩, ⟨11, .phase⟩, ⟨12, .phase⟩, ⟨13, .phase⟩, ⟨14, .phase⟩, ⟨15, .phase⟩, ⟨16, .phase⟩], none⟩] true)
      (Code.region rid2 #[⟨some d20, .indexAddr TL (.tmp d16) (.tmp d14), y20, p20, #[], none⟩, ⟨none, .store TI (.tmp d20) (.tmp d13), y21, p21, #[⟨0, .data⟩], none⟩] false)) := by
  intro x Fs v tz uv B nl sv xs pre l a w0 w hxn hts hA hk hC hv hpl hM
  subst hts
  obtain ⟨hdl, hnd, htl⟩ := tellOK_dl hok
  obtain ⟨C, tC, kb, cap, C3, t3', f, hC1, hC2, hC3, hll, hlc, hC3s, hC3f, hreps⟩ := list_at hC hat hv
  have hrep := hreps pre.length hpl
  simp only [Rep] at hrep
  obtain ⟨m, hbs, hmf, hte⟩ := hrep
  have hEt : id l[pre.length] = .num m := hte
  have hcell : C3[0 + pre.length * 1]? = some (.int kd m) := by rw [Nat.zero_add, <- hbs]; exact hC3f pre.length hpl 0 (by omega)
  have hnew := hM.new
  have hlt := hM.lt
  have hub : ∀ k, sv.ownBlock = some k -> B <= k /\ k < w.heap.size := fun k hk => hM.own.lt k hk
  have hR0 : ∀ W, Mod (fun k => sv.ownBlock = some k) w W -> Mod none' w0 W := fun W hm => hM.mod.trans' hm (fun _ _ f => f) (fun j hj e => by have := (hub j e).1; omega)
  obtain ⟨T', hb⟩ := hM.hb
  obtain ⟨D, TD, hl1, hD1, hD2, hD3, hD4, hD5⟩ := hM.hl
  have nt : ¬ sv.ownBlock = some x.tb := fun e => by have := (hub _ e).1; omega
  have nl1 : ¬ sv.ownBlock = some x.lb := fun e => by have := (hub _ e).1; omega
  have hj : tz.length < x.n := hD2
  have hrow : tz.length * 5 + 5 <= D.size := by rw [hD1]; have := Nat.mul_le_mul_right 5 (show tz.length + 1 <= x.n by omega); omega
  have hsv : D[0 + tz.length * 5 + 3]? = some sv := by
    have h3 := hD4 3 (by omega)
    simp only [from', Array.getD_eq_getD_getElem?] at h3
    rw [show 0 + tz.length * 5 + 3 = tz.length * 5 + 3 by omega, Array.getElem?_eq_getElem (by omega)]
    rw [Array.getElem?_eq_getElem (by omega)] at h3
    have h3q : D[tz.length * 5 + 3]'(by omega) = row5 nl sv 3 := by simpa using h3
    exact congrArg some h3q
  have hdk : dk ∉ [d0, d1, d2, d3, d4, d5, d6, d7, d8, d9, d10, d11, d12, d13, d14, d15] := fun hm => by have := hkeep dk (by simp); exact this (List.mem_append_left _ hm)
  obtain ⟨sao, scap, hss⟩ := owns_slice hM.own
  simp only [List.nodup_cons, List.mem_cons, List.not_mem_nil, or_false, not_or] at hdd
  obtain ⟨⟨nab, nac, nae⟩, ⟨nbc, nbe⟩, nce, _⟩ := hdd
  have hrel : ∀ {W : World}, Mod none' w W -> Mod (fun k => sv.ownBlock = some k) w W := fun h => h.none
  refine wp_seq (region_rlt (l := [_, _, _, _, _, _, _, _, _, _, _, _, _, _, _, _]) (tl := [_, _, _, _]) hT.ord (Mod none') (Mod.refl w).drew (fun _ _ _ h h' => h.trans h') [d0, d1, d2, d3, d4, d5, d6, d7, d8, d9, d10, d11, d12, d13, d14, d15]
    [fun v _ => v = .pointer (some ⟨x.tb, 0 + 3, none⟩),
     fun v _ => v = .slice (some ⟨x.lb, 0, none⟩) x.n x.n,
     fun v _ => v = .pointer (some ⟨x.lb, 0 + tz.length * 5, none⟩),
     fun v _ => v = .pointer (some ⟨x.lb, 0 + tz.length * 5 + 3, none⟩),
     fun v _ => v = sv,
     fun v _ => v = .pointer (some ⟨x.blk, x.off, none⟩),
     fun v _ => v = .pointer (some ⟨x.blk, x.off, none⟩),
     fun v _ => v = .pointer (some ⟨x.blk, x.off + o, none⟩),
     fun v _ => v = .slice (some ⟨kb, 0, none⟩) l.length cap,
     fun v _ => v = .int .i64 (pre.length : Nat),
     fun v _ => v = .pointer (some ⟨kb, 0 + pre.length * 1, none⟩),
     fun v _ => v = .int kd m,
     fun v _ => v = .int .i64 m,
     fun v w' => TreeV w' (fun k => w.heap.size <= k) v (id l[pre.length]),
     fun v _ => v = .int .i64 (pre.length : Nat),
     fun v w' => ∃ kk, v = .slice (some ⟨kk, 0, none⟩) 1 1 /\ w'.heap[kk]? = some (.cells #[.int .i64 0, .slice none 0 0, .bool false, .slice none 0 0, .slice none 0 0] TI (0, 0))]
    ?_ (by simp [regFormT]) hnd (fun d hd => by rw [hA.size]; exact (hdl d hd).1) (by simp) (by kernel_rfl) ⟨?_, ?_, ?_, ?_, ?_, ?_, ?_, ?_, ?_, ?_, ?_, ?_, ?_, ?_, ?_, ?_, trivial⟩ ?_)
  · intro g hg v1 w1 w2 hv hr
    simp only [List.mem_cons, List.not_mem_nil, or_false] at hg
    rcases hg with rfl | rfl | rfl | rfl | rfl | rfl | rfl | rfl | rfl | rfl | rfl | rfl | rfl | rfl | rfl | rfl
    · exact hv
    · exact hv
    · exact hv
    · exact hv
    · exact hv
    · exact hv
    · exact hv
    · exact hv
    · exact hv
    · exact hv
    · exact hv
    · exact hv
    · exact hv
    · exact TreeV.mod hv hr (fun _ _ f => f) (fun _ h => h)
    · exact hv
    · obtain ⟨kk, g1, g2⟩ := hv
      exact ⟨kk, g1, hr.some g2 (fun f => f)⟩
  · intro a1 w1 hr0 hs hd
    have hr := hrel hr0
    have t3 := (hs.get 3 (fun hm => (hdl 3 hm).2.2.2 rfl)).trans hA.tree
    exact Zw (Za hT.f3 t3) ⟨_, rfl, (Mod.refl w1), rfl⟩
  · intro a1 w1 hr0 hs hd
    have hr := hrel hr0
    have e0 : Act.get a1 d0 = .pointer (some ⟨x.tb, 0 + 3, none⟩) := hd ⟨0, .data⟩ (by simp) rfl
    exact Zw (Zl hT.one e0 (by rw [Zc (hr.some hb nt)]; rfl)) ⟨_, rfl, (Mod.refl w1), rfl⟩
  · intro a1 w1 hr0 hs hd
    have hr := hrel hr0
    have e1 : Act.get a1 d1 = .slice (some ⟨x.lb, 0, none⟩) x.n x.n := hd ⟨1, .data⟩ (by simp) rfl
    exact Zw (Zx (i := tz.length) (elemSize_of hT.elem) e1 rfl hj) ⟨_, rfl, (Mod.refl w1), rfl⟩
  · intro a1 w1 hr0 hs hd
    have hr := hrel hr0
    have e2 : Act.get a1 d2 = .pointer (some ⟨x.lb, 0 + tz.length * 5, none⟩) := hd ⟨2, .data⟩ (by simp) rfl
    exact Zw (Za hT.f3 e2) ⟨_, rfl, (Mod.refl w1), rfl⟩
  · intro a1 w1 hr0 hs hd
    have hr := hrel hr0
    have e3 : Act.get a1 d3 = .pointer (some ⟨x.lb, 0 + tz.length * 5 + 3, none⟩) := hd ⟨3, .data⟩ (by simp) rfl
    exact Zw (Zl hT.one e3 (by rw [Zc (hr.some hl1 nl1)]; exact hsv)) ⟨_, rfl, (Mod.refl w1), rfl⟩
  · intro a1 w1 hr0 hs hd
    have hr := hrel hr0
    have t0 := (hs.get 0 (fun hm => (hdl 0 hm).2.1 rfl)).trans hA.src
    exact Zw (x_moveV t0) ⟨_, rfl, (Mod.refl w1), rfl⟩
  · intro a1 w1 hr0 hs hd
    have hr := hrel hr0
    have e5 : Act.get a1 d5 = .pointer (some ⟨x.blk, x.off, none⟩) := hd ⟨5, .data⟩ (by simp) rfl
    exact Zw (x_nilCheck e5) ⟨_, rfl, (Mod.refl w1), rfl⟩
  · intro a1 w1 hr0 hs hd
    have hr := hrel hr0
    have e6 : Act.get a1 d6 = .pointer (some ⟨x.blk, x.off, none⟩) := hd ⟨6, .data⟩ (by simp) rfl
    exact Zw (Za hf e6) ⟨_, rfl, (Mod.refl w1), rfl⟩
  · intro a1 w1 hr0 hs hd
    have hr := hrel hr0
    have e7 : Act.get a1 d7 = .pointer (some ⟨x.blk, x.off + o, none⟩) := hd ⟨7, .data⟩ (by simp) rfl
    exact Zw (Zl ho1 e7 (by rw [Zc ((hR0 _ hr).some hC1 (fun f => f))]; exact hC2)) ⟨_, rfl, (Mod.refl w1), rfl⟩
  · intro a1 w1 hr0 hs hd
    have hr := hrel hr0
    have tk := (hs.get dk hdk).trans hk
    exact Zw (x_moveV tk) ⟨_, rfl, (Mod.refl w1), rfl⟩
  · intro a1 w1 hr0 hs hd
    have hr := hrel hr0
    have e8 : Act.get a1 d8 = .slice (some ⟨kb, 0, none⟩) l.length cap := hd ⟨8, .data⟩ (by simp) rfl
    have e9 : Act.get a1 d9 = .int .i64 (pre.length : Nat) := hd ⟨9, .data⟩ (by simp) rfl
    exact Zw (Zx (i := pre.length) (elemSize_of hI) e8 e9 hpl) ⟨_, rfl, (Mod.refl w1), rfl⟩
  · intro a1 w1 hr0 hs hd
    have hr := hrel hr0
    have e10 : Act.get a1 d10 = .pointer (some ⟨kb, 0 + pre.length * 1, none⟩) := hd ⟨10, .data⟩ (by simp) rfl
    exact Zw (Zl hes e10 (by rw [Zc ((hR0 _ hr).some hC3 (fun f => f))]; exact hcell)) ⟨_, rfl, (Mod.refl w1), rfl⟩
  · intro a1 w1 hr0 hs hd
    have hr := hrel hr0
    have e11 : Act.get a1 d11 = .int kd m := hd ⟨11, .data⟩ (by simp) rfl
    exact Zw (x_convInt hs8 hs9 e11) ⟨_, rfl, (Mod.refl w1), show Value.int IntKind.i64 (IntKind.i64.wrap m) = .int .i64 m from by rw [(hkd m hmf).1]⟩
  · intro a1 w1 hr0 hs hd
    have hr := hrel hr0
    have e12 : Act.get a1 d12 = .int .i64 m := hd ⟨12, .data⟩ (by simp) rfl
    refine Zw (x_build (cells := #[.int .i64 m, .slice none 0 0, .bool false, .slice none 0 0, .slice none 0 0]) ?_) ⟨_, rfl, (Mod.refl w1), _, rfl, rfl, ?_, ?_⟩
    · simp only [List.map_toArray, List.map_cons, List.map_nil, Ze]
      rw [built_of hT.parts, e12]
      rfl
    · simp [Value.oneCell']
    · rw [hEt]; exact tree_num rfl (hkd m hmf).2 rfl rfl rfl rfl
  · intro a1 w1 hr0 hs hd
    have hr := hrel hr0
    have e4 : Act.get a1 d4 = sv := hd ⟨4, .data⟩ (by simp) rfl
    exact Zw (x_len (t := TL) (by rw [elemSize_of hT.elem]; rfl) rfl (ao := sao) (cap := scap) (n := pre.length) (e4.trans hss)) ⟨_, rfl, (Mod.refl w1), rfl⟩
  · intro a1 w1 hr0 hs hd
    have hr := hrel hr0
    exact Zw (x_buildSlice1 (v := .agg #[.int .i64 0, .slice none 0 0, .bool false, .slice none 0 0, .slice none 0 0]) hT.elem rfl rfl) ⟨_, rfl, (Mod.refl w1).alloc _, _, rfl, Zh _ _⟩
  · intro a1 w1 hr0 hs hh
    have hr := hrel hr0
    have e1 : Act.get a1 d1 = .slice (some ⟨x.lb, 0, none⟩) x.n x.n := hh 1 (by simp)
    have e4 : Act.get a1 d4 = sv := hh 4 (by simp)
    have eL : Act.get a1 d14 = .int .i64 (pre.length : Nat) := hh 14 (by simp)
    obtain ⟨kk, g1, g2⟩ : ∃ kk, Act.get a1 d15 = .slice (some ⟨kk, 0, none⟩) 1 1 /\ w1.heap[kk]? = some (.cells #[.int .i64 0, .slice none 0 0, .bool false, .slice none 0 0, .slice none 0 0] TI (0, 0)) := hh 15 (by simp)
    obtain ⟨cs, eE, c5, call, ct⟩ : TreeV w1 (fun k => w.heap.size <= k) (Act.get a1 d13) (id l[pre.length]) := hh 13 (by simp)
    have hda := htl d16 (by simp)
    have hdb := htl d17 (by simp)
    have hdc := htl d18 (by simp)
    have hde := htl d20 (by simp)
    have sN : a1.tmps.size = N := hs.size.trans hA.size
    have hown1 := ownsRow_mod hM.own hr0 (fun _ _ f => f)
    have hsz := hr0.size
    have hlen := hM.len
    refine wpl_append (base := B) (v := sv) (n := pre.length) (xs := xs) (ad := ⟨kk, 0, none⟩) (m := 1) (c := 1) (news := [.int .i64 0, .slice none 0 0, .bool false, .slice none 0 0, .slice none 0 0]) hT.elem (by rw [Ze]; exact e4) (by rw [Ze]; exact g1) hown1 rfl (fun j q hq => by rw [Addr.add_mid, Zc g2, Nat.zero_add]; simpa using hq) (fun q hq => by simp at hq; rcases hq with rfl | rfl | rfl | rfl | rfl <;> rfl) (by omega) (by omega) ?_
    intro sv' w2 hown2 hm2 _ hblk
    have hmw : Mod (fun k => sv.ownBlock = some k) w w2 := hr.trans hm2
    have hl2 := hmw.some hl1 nl1
    refine Zv rfl (Zx (b := x.lb) (o := 0) (n := x.n) (cap := x.n) (i := tz.length) (sz := 5) (k := .i64) (elemSize_of hT.elem) ?_ rfl hj) ?_
    · rw [Ze, Zn (fun e => hda.2.2.2.2 (by simp [e]))]; exact e1
    refine Zv rfl (Za hT.f3 (b := x.lb) (o0 := 0 + tz.length * 5) ?_) ?_
    · rw [Ze, Zq (by rw [Zs, sN]; exact hdb.1)]
    refine wpl_skip rfl (x_store1 hTL (b := x.lb) (o := 0 + tz.length * 5 + 3) (v := sv') (u := sv) ?_ ?_ (ownsRow_one hown2) ?_ ?_) (wpList_nil ?_)
    · rw [Ze, Zq (by rw [Zs, Zs, sN]; exact hdc.1)]
    · rw [Ze, Zn (fun e => nac e.symm), Zn (fun e => nab e.symm), Zq (by rw [sN]; exact hda.1)]
    · rw [Zc hl2]; exact hsv
    · exact Zz hl2
    have hAB : TAmb N x a1 := hA.same hs (fun hm => (hdl 0 hm).2.1 rfl) (fun hm => (hdl 2 hm).2.2.1 rfl) (fun hm => (hdl 3 hm).2.2.2 rfl)
    have hxl := hM.own.1
    have hM2 : LMem x w0 (w2.setCell ⟨x.lb, 0 + tz.length * 5 + 3, none⟩ sv') tz uv B TI nl sv' (xs ++ [.int .i64 0, .slice none 0 0, .bool false, .slice none 0 0, .slice none 0 0]) (pre ++ [.num 0]) := by
      refine hM.put hmw (by simpa using hown2) (by simp; omega) fun i hi => ?_
      by_cases hip : i < pre.length
      · rw [List.getElem_append_left hip]
        have h0 := ((hM.els i hip).lt.mod (F' := fun k => (B <= k /\ sv.ownBlock ≠ some k) /\ k < w.heap.size) hmw (fun k hk => hk.1.2) (fun _ h => h)).mod (F' := fun k => B <= k /\ sv'.ownBlock ≠ some k) (Mod.refl (S := none') w2) (fun _ _ f => f) (fun k hk => ⟨hk.1.1, fun e => by rcases hblk k e with h | h; exact hk.1.2 h; have := hk.2; omega⟩)
        refine h0.congr fun q hq => ?_
        have := Nat.mul_le_mul_right 5 (show i + 1 <= pre.length by omega)
        rw [List.getD_eq_getElem?_getD, List.getElem?_append_left (by omega), <- List.getD_eq_getElem?_getD]
      · have hie : i = pre.length := by simp at hi; omega
        subst hie
        rw [show (pre ++ [Tr.num 0])[pre.length] = .num 0 by simp]
        have hq5 : ∀ q, q < 5 -> (xs ++ [Value.int .i64 0, .slice none 0 0, .bool false, .slice none 0 0, .slice none 0 0]).getD (pre.length * 5 + q) undef = zero5 q := fun q hq => by
          rw [List.getD_eq_getElem?_getD, List.getElem?_append_right (by omega), hxl, show pre.length * 5 + q - pre.length * 5 = q by omega]
          rcases (by omega : q = 0 \/ q = 1 \/ q = 2 \/ q = 3 \/ q = 4) with rfl | rfl | rfl | rfl | rfl <;> rfl
        exact tree_num (hq5 0 (by omega)) (fits_zero _) (hq5 1 (by omega)) (hq5 2 (by omega)) (hq5 3 (by omega)) (hq5 4 (by omega))
    rcases hown2.2 with ⟨_, hbad⟩ | ⟨g, scap', cur, rfl, hBg, hg, hnc, hcm, hcs, htake⟩
    · omega
    have hct : TreeR (w2.setCell ⟨x.lb, 0 + tz.length * 5 + 3, none⟩ (.slice (some ⟨g, 0, none⟩) (pre.length + 1) scap')) (fun k => B <= k /\ k ≠ g) (from' cs 0) (id l[pre.length]) := by
      have h0 := ct.lt.mod (F' := fun k => w.heap.size <= k /\ k < w1.heap.size) hm2 (fun k hk e => by have := (hub k e).2; have := hk.1; omega) (fun _ h => h)
      refine h0.mod ((Mod.refl (S := only x.lb) w2).put _ _) (fun k hk e => by have e' : k = x.lb := e; have := hk.1; omega) (fun k hk => ⟨by have := hk.1; omega, fun e => ?_⟩)
      rcases hblk k (by rw [e]; rfl) with h | h
      · have := (hub k h).2; have := hk.1; omega
      · have := hk.2; omega
    refine wp_region_lit (Zv rfl (Zx (b := g) (o := 0) (n := pre.length + 1) (cap := scap') (i := pre.length) (sz := 5) (k := .i64) (elemSize_of hT.elem) ?_ ?_ (by omega)) ?_)
    · rw [Zo, Ze, Zn (fun e => nac e.symm), Zn (fun e => nab e.symm), Zq (by rw [sN]; exact hda.1)]
    · rw [Zo, Ze, Zn (fun e => hdc.2.2.2.2 (by simp [e])), Zn (fun e => hdb.2.2.2.2 (by simp [e])), Zn (fun e => hda.2.2.2.2 (by simp [e]))]; exact eL
    have hg3 : (w2.setCell ⟨x.lb, 0 + tz.length * 5 + 3, none⟩ (.slice (some ⟨g, 0, none⟩) (pre.length + 1) scap')).heap[g]? = some (.cells cur TI (0, 0)) := ((Mod.refl (S := only x.lb) w2).put _ _).some hg (fun e => by have e' : g = x.lb := e; omega)
    refine wpl_skip rfl (x_storeN (cs := cs) (b := g) (o := 0 + pre.length * 5) (by rw [c5]; exact hT.size) ?_ ?_ call ?_) (wpList_nil ?_)
    · rw [Ze, Zq (by simp only [Zo, Zs]; rw [sN]; exact hde.1)]
    · rw [Zo, Ze, Zn (fun e => hde.2.2.2.2 (by simp [e])), Zn (fun e => hdc.2.2.2.2 (by simp [e])), Zn (fun e => hdb.2.2.2.2 (by simp [e])), Zn (fun e => hda.2.2.2.2 (by simp [e]))]; exact eE
    · intro q hq
      have := Nat.mul_le_mul_right 5 hnc
      rw [Zc hg3, Zz hg3, Array.getElem?_eq_getElem (by rw [hcs]; omega)]
      exact ⟨rfl, rfl⟩
    refine ⟨rfl, ?_, fun t ht => ?_, _, xs ++ cs.toList, hM2.last hxl c5 hct⟩
    · exact ((((hAB.put ⟨hda.2.1, hda.2.2.1, hda.2.2.2.1⟩ _).put ⟨hdb.2.1, hdb.2.2.1, hdb.2.2.2.1⟩ _).put ⟨hdc.2.1, hdc.2.2.1, hdc.2.2.2.1⟩ _).put ⟨hde.2.1, hde.2.2.1, hde.2.2.2.1⟩ _)
    · have hkt := hkeep t (List.mem_cons_of_mem _ ht)
      simp only [List.mem_append, not_or] at hkt
      rw [Zo, Zn (fun e => hkt.2 (by simp [<- e])), Zo, Zn (fun e => hkt.2 (by simp [<- e])), Zn (fun e => hkt.2 (by simp [<- e])), Zn (fun e => hkt.2 (by simp [<- e]))]
      exact hs.get t hkt.1
set_option maxHeartbeats 2000000 in
theorem app1_call (hT : TellT P TI TL) {σe : St} {G : SV -> List Tr} (hL : TellC P fL σe G) (hbd : bodied P fL = true) (hse : σe.sz = sz) (hoke : (Ty.struct σe.lay σe.tg σe.sz).ok = true) (hI : elemInfo P ys es sz = true) (ho1 : one P ys = true) (hf : fieldOff P T k = some o) (hat : σ.lay.at i = some (o, .list (.struct σe.lay σe.tg σe.sz) sz)) (hTL : sized P TL 1 = true) (hok : tellOK N [d0, d1, d2, d3, d4, d5, d6, d7, d8, d9, d10, d11, d12, d13, d14, d15] [d16, d17] = true) (hkeep : ∀ t ∈ dk :: keep, t ∉ [d0, d1, d2, d3, d4, d5, d6, d7, d8, d9, d10, d11, d12, d13, d14, d15] ++ [d16, d17]) (hdd : d17 ≠ d16) : AppC P N n j dk keep σ i TI (structT G)
    (Code.region rid #[⟨some d0, .fieldAddr TI (.tmp 3) 3, y0, p0, #[], none⟩,
      ⟨some d1, .load TL (.tmp d0), y1, p1, #[⟨0, .data⟩], none⟩,
      ⟨some d2, .fieldAddr TI (.tmp 3) 3, y2, p2, #[], none⟩,
      ⟨some d3, .load TL (.tmp d2), y3, p3, #[⟨2, .data⟩], none⟩,
      ⟨some d4, .indexAddr TL (.tmp d3) (.const (.int .i64 (j : Nat))), y4, p4, #[⟨3, .data⟩], none⟩,
      ⟨some d5, .fieldAddr TI (.tmp d4) 3, y5, p5, #[⟨4, .data⟩], none⟩,
      ⟨some d6, .load TL (.tmp d5), y6, p6, #[⟨5, .data⟩], none⟩,
      ⟨some d7, .move (.tmp 0), y7, p7, #[], none⟩,
      ⟨some d8, .nilCheck (.tmp d7), y8, p8, #[⟨7, .data⟩], none⟩,
      ⟨some d9, .fieldAddr T (.tmp d8) k, y9, p9, #[⟨8, .data⟩], none⟩,
      ⟨some d10, .load ys (.tmp d9), y10, p10, #[⟨9, .data⟩], none⟩,
      ⟨some d11, .move (.tmp dk), y11, p11, #[], none⟩,
      ⟨some d12, .indexAddr ys (.tmp d10) (.tmp d11), y12, p12, #[⟨10, .data⟩, ⟨11, .data⟩], none⟩,
      ⟨some d13, .call ⟨.value (.func fL), #[.tmp d12], ts'⟩, y13, p13, #[⟨12, .data⟩], none⟩,
      ⟨some d14, .buildSlice TL 1 #[(0, .tmp d13)], y14, p14, #[⟨13, .data⟩], none⟩,
      ⟨some d15, .call ⟨.builtin .append, #[.tmp d6, .tmp d14], #[TL, TL]⟩, y15, p15, #[⟨6, .data⟩, ⟨14, .data⟩, ⟨13, .chain⟩], none⟩,
      ⟨some d16, .indexAddr TL (.tmp d1) (.const (.int .i64 (j : Nat))), y16, p16, #[⟨1, .data⟩, ⟨0, .phase⟩, ⟨1, .phase⟩, ⟨2, .phase⟩, ⟨3, .phase⟩, ⟨4, .phase⟩, ⟨5, .phase⟩, ⟨6, .phase⟩, ⟨7, .phase⟩, ⟨8, .phase⟩, ⟨9, .phase⟩, ⟨10, .phase⟩, ⟨11, .phase⟩, ⟨12, .phase⟩, ⟨13, .phase⟩, ⟨14, .phase⟩, ⟨15, .phase⟩], none⟩,
      ⟨some d17, .fieldAddr TI (.tmp d16) 3, y17, p17, #[⟨16, .data⟩, ⟨0, .phase⟩, ⟨1, .phase⟩, ⟨2, .phase⟩, ⟨3, .phase⟩, ⟨4, .phase⟩, ⟨5, .phase⟩, ⟨6, .phase⟩, ⟨7, .phase⟩, ⟨8, .phase⟩, ⟨9, .phase⟩, ⟨10, .phase⟩, ⟨11, .phase⟩, ⟨12, .phase⟩, ⟨13, .phase⟩, ⟨14, .phase⟩, ⟨15, .phase⟩], none⟩,
      ⟨none, .store TL (.tmp d17) (.tmp d15), y18, p18, #[⟨17, .data⟩, ⟨15, .data⟩, ⟨15, .chain⟩, ⟨0, .phase⟩, ⟨1, .phase⟩, ⟨2, .phase⟩, ⟨3, .phase⟩, ⟨4, .phase⟩, ⟨5, .phase⟩, ⟨6, .phase⟩, ⟨7, .phase⟩, ⟨8, .phase⟩, ⟨9, .phase⟩, ⟨10, .phase⟩, ⟨11, .phase⟩, ⟨12, .phase⟩, ⟨13, .phase⟩, ⟨14, .phase⟩, ⟨15, .phase⟩], none⟩] true) := by
  intro x Fs v tz uv B nl sv xs pre l a w0 w hxn hts hA hk hC hv hpl hM
  subst hts
  obtain ⟨hdl, hnd, htl⟩ := tellOK_dl hok
  obtain ⟨C, tC, kb, cap, C3, t3', f, hC1, hC2, hC3, hll, hlc, hC3s, hC3f, hreps⟩ := list_at hC hat hv
  have hrep := hreps pre.length hpl
  have hrep0 := hrep
  simp only [Rep] at hrep
  obtain ⟨vs, u, _, _, hte⟩ := hrep
  rw [hte] at hrep0
  have hEt : structT G l[pre.length] = .part (G (vs, u)) u := by rw [hte]; rfl
  have hcur : ∀ W, Mod none' w0 W -> Cur σe Fs kb (0 + pre.length * sz) (vs, u) W := fun W hm => cur_row hC3 hC3s hlc hpl hse hoke hC3f hrep0 hm
  have hnew := hM.new
  have hlt := hM.lt
  have hub : ∀ k, sv.ownBlock = some k -> B <= k /\ k < w.heap.size := fun k hk => hM.own.lt k hk
  have hR0 : ∀ W, Mod (fun k => sv.ownBlock = some k) w W -> Mod none' w0 W := fun W hm => hM.mod.trans' hm (fun _ _ f => f) (fun j hj e => by have := (hub j e).1; omega)
  obtain ⟨T', hb⟩ := hM.hb
  obtain ⟨D, TD, hl1, hD1, hD2, hD3, hD4, hD5⟩ := hM.hl
  have nt : ¬ sv.ownBlock = some x.tb := fun e => by have := (hub _ e).1; omega
  have nl1 : ¬ sv.ownBlock = some x.lb := fun e => by have := (hub _ e).1; omega
  have hj : tz.length < x.n := hD2
  have hrow : tz.length * 5 + 5 <= D.size := by rw [hD1]; have := Nat.mul_le_mul_right 5 (show tz.length + 1 <= x.n by omega); omega
  have hsv : D[0 + tz.length * 5 + 3]? = some sv := by
    have h3 := hD4 3 (by omega)
    simp only [from', Array.getD_eq_getD_getElem?] at h3
    rw [show 0 + tz.length * 5 + 3 = tz.length * 5 + 3 by omega, Array.getElem?_eq_getElem (by omega)]
    rw [Array.getElem?_eq_getElem (by omega)] at h3
    have h3q : D[tz.length * 5 + 3]'(by omega) = row5 nl sv 3 := by simpa using h3
    exact congrArg some h3q
  have hdk : dk ∉ [d0, d1, d2, d3, d4, d5, d6, d7, d8, d9, d10, d11, d12, d13, d14, d15] := fun hm => by have := hkeep dk (by simp); exact this (List.mem_append_left _ hm)
  refine region_rlq (l := [_, _, _, _, _, _, _, _, _, _, _, _, _, _, _, _]) (tl := [_, _, _]) hT.ord (Mod (fun k => sv.ownBlock = some k)) (fun a b h => h.none) (fun _ _ _ h h' => h.trans h') [d0, d1, d2, d3, d4, d5, d6, d7, d8, d9, d10, d11, d12, d13, d14, d15]
    [fun v _ => v = .pointer (some ⟨x.tb, 0 + 3, none⟩),
     fun v _ => v = .slice (some ⟨x.lb, 0, none⟩) x.n x.n,
     fun v _ => v = .pointer (some ⟨x.tb, 0 + 3, none⟩),
     fun v _ => v = .slice (some ⟨x.lb, 0, none⟩) x.n x.n,
     fun v _ => v = .pointer (some ⟨x.lb, 0 + tz.length * 5, none⟩),
     fun v _ => v = .pointer (some ⟨x.lb, 0 + tz.length * 5 + 3, none⟩),
     fun v _ => v = sv,
     fun v _ => v = .pointer (some ⟨x.blk, x.off, none⟩),
     fun v _ => v = .pointer (some ⟨x.blk, x.off, none⟩),
     fun v _ => v = .pointer (some ⟨x.blk, x.off + o, none⟩),
     fun v _ => v = .slice (some ⟨kb, 0, none⟩) l.length cap,
     fun v _ => v = .int .i64 (pre.length : Nat),
     fun v _ => v = .pointer (some ⟨kb, 0 + pre.length * sz, none⟩),
     fun v w' => TreeV w' (fun k => w.heap.size <= k) v (structT G l[pre.length]),
     fun v w' => ∃ cs kk, v = .slice (some ⟨kk, 0, none⟩) 1 1 /\ w'.heap[kk]? = some (.cells cs TI (0, 0)) /\ w.heap.size <= kk /\ cs.size = 5 /\ cs.all (·.oneCell') = true /\ TreeR w' (fun k => w.heap.size <= k) (from' cs 0) (structT G l[pre.length])]
    (fun v w' => ∃ cs : Array Value, w'.ownsRow B TI 5 v (pre.length + 1) (xs ++ cs.toList) /\ cs.size = 5 /\ TreeR w' (fun k => B <= k /\ v.ownBlock ≠ some k) (from' cs 0) (structT G l[pre.length]) /\ (∀ i (h : i < pre.length), TreeR w' (fun k => B <= k /\ v.ownBlock ≠ some k) (fun q => xs.getD (i * 5 + q) undef) pre[i]))
    ?_ ?_ (by simp [regFormT]) hnd (fun d hd => by rw [hA.size]; exact (hdl d hd).1) (by simp) (by kernel_rfl) ⟨?_, ?_, ?_, ?_, ?_, ?_, ?_, ?_, ?_, ?_, ?_, ?_, ?_, ?_, ?_, ?_, trivial⟩ ?_
  · intro g hg v1 w1 w2 hv hr
    simp only [List.mem_cons, List.not_mem_nil, or_false] at hg
    rcases hg with rfl | rfl | rfl | rfl | rfl | rfl | rfl | rfl | rfl | rfl | rfl | rfl | rfl | rfl | rfl
    · exact hv
    · exact hv
    · exact hv
    · exact hv
    · exact hv
    · exact hv
    · exact hv
    · exact hv
    · exact hv
    · exact hv
    · exact hv
    · exact hv
    · exact hv
    · exact TreeV.mod hv hr (fun k hk e => by have := (hub k e).2; omega) (fun _ h => h)
    · obtain ⟨cs, kk, g1, g2, g3, g4, g5, g6⟩ := hv
      exact ⟨cs, kk, g1, hr.some g2 (fun e => by have := (hub _ e).2; omega), g3, g4, g5, g6.mod hr (fun k hk e => by have := (hub k e).2; omega) (fun _ h => h)⟩
  · rintro v1 w1 w2 ⟨cs, g1, g2, g3, g4⟩ hr
    exact ⟨cs, ownsRow_mod g1 hr (fun _ _ f => f), g2, g3.mod hr (fun _ _ f => f) (fun _ h => h), fun i hi => (g4 i hi).mod hr (fun _ _ f => f) (fun _ h => h)⟩
  · intro a1 w1 hr hp hs hd
    have t3 := (hs.get 3 (fun hm => (hdl 3 hm).2.2.2 rfl)).trans hA.tree
    exact Zw (Za hT.f3 t3) ⟨_, rfl, relp_ne (by rfl) (Mod.refl w1), rfl⟩
  · intro a1 w1 hr hp hs hd
    have e0 : Act.get a1 d0 = .pointer (some ⟨x.tb, 0 + 3, none⟩) := hd ⟨0, .data⟩ (by simp) rfl
    exact Zw (Zl hT.one e0 (by rw [Zc (hr.some hb nt)]; rfl)) ⟨_, rfl, relp_ne (by rfl) (Mod.refl w1), rfl⟩
  · intro a1 w1 hr hp hs hd
    have t3 := (hs.get 3 (fun hm => (hdl 3 hm).2.2.2 rfl)).trans hA.tree
    exact Zw (Za hT.f3 t3) ⟨_, rfl, relp_ne (by rfl) (Mod.refl w1), rfl⟩
  · intro a1 w1 hr hp hs hd
    have e2 : Act.get a1 d2 = .pointer (some ⟨x.tb, 0 + 3, none⟩) := hd ⟨2, .data⟩ (by simp) rfl
    exact Zw (Zl hT.one e2 (by rw [Zc (hr.some hb nt)]; rfl)) ⟨_, rfl, relp_ne (by rfl) (Mod.refl w1), rfl⟩
  · intro a1 w1 hr hp hs hd
    have e3 : Act.get a1 d3 = .slice (some ⟨x.lb, 0, none⟩) x.n x.n := hd ⟨3, .data⟩ (by simp) rfl
    exact Zw (Zx (i := tz.length) (elemSize_of hT.elem) e3 rfl hj) ⟨_, rfl, relp_ne (by rfl) (Mod.refl w1), rfl⟩
  · intro a1 w1 hr hp hs hd
    have e4 : Act.get a1 d4 = .pointer (some ⟨x.lb, 0 + tz.length * 5, none⟩) := hd ⟨4, .data⟩ (by simp) rfl
    exact Zw (Za hT.f3 e4) ⟨_, rfl, relp_ne (by rfl) (Mod.refl w1), rfl⟩
  · intro a1 w1 hr hp hs hd
    have e5 : Act.get a1 d5 = .pointer (some ⟨x.lb, 0 + tz.length * 5 + 3, none⟩) := hd ⟨5, .data⟩ (by simp) rfl
    exact Zw (Zl hT.one e5 (by rw [Zc (hr.some hl1 nl1)]; exact hsv)) ⟨_, rfl, relp_ne (by rfl) (Mod.refl w1), rfl⟩
  · intro a1 w1 hr hp hs hd
    have t0 := (hs.get 0 (fun hm => (hdl 0 hm).2.1 rfl)).trans hA.src
    exact Zw (x_moveV t0) ⟨_, rfl, relp_ne (by rfl) (Mod.refl w1), rfl⟩
  · intro a1 w1 hr hp hs hd
    have e7 : Act.get a1 d7 = .pointer (some ⟨x.blk, x.off, none⟩) := hd ⟨7, .data⟩ (by simp) rfl
    exact Zw (x_nilCheck e7) ⟨_, rfl, relp_ne (by rfl) (Mod.refl w1), rfl⟩
  · intro a1 w1 hr hp hs hd
    have e8 : Act.get a1 d8 = .pointer (some ⟨x.blk, x.off, none⟩) := hd ⟨8, .data⟩ (by simp) rfl
    exact Zw (Za hf e8) ⟨_, rfl, relp_ne (by rfl) (Mod.refl w1), rfl⟩
  · intro a1 w1 hr hp hs hd
    have e9 : Act.get a1 d9 = .pointer (some ⟨x.blk, x.off + o, none⟩) := hd ⟨9, .data⟩ (by simp) rfl
    exact Zw (Zl ho1 e9 (by rw [Zc ((hR0 _ hr).some hC1 (fun f => f))]; exact hC2)) ⟨_, rfl, relp_ne (by rfl) (Mod.refl w1), rfl⟩
  · intro a1 w1 hr hp hs hd
    have tk := (hs.get dk hdk).trans hk
    exact Zw (x_moveV tk) ⟨_, rfl, relp_ne (by rfl) (Mod.refl w1), rfl⟩
  · intro a1 w1 hr hp hs hd
    have e10 : Act.get a1 d10 = .slice (some ⟨kb, 0, none⟩) l.length cap := hd ⟨10, .data⟩ (by simp) rfl
    have e11 : Act.get a1 d11 = .int .i64 (pre.length : Nat) := hd ⟨11, .data⟩ (by simp) rfl
    exact Zw (Zx (i := pre.length) (elemSize_of hI) e10 e11 hpl) ⟨_, rfl, relp_ne (by rfl) (Mod.refl w1), rfl⟩
  · intro a1 w1 hr hp hs hd
    have e12 : Act.get a1 d12 = .pointer (some ⟨kb, 0 + pre.length * sz, none⟩) := hd ⟨12, .data⟩ (by simp) rfl
    refine owp_call (Zy hbd rfl) (R := fun e w' => ∃ r, e = .returned r /\ Mod none' w1 w' /\ TreeV w' (From w1) r (structT G l[pre.length])) ?_ ?_
    · have e1' : (#[Operand.tmp d12] : Array Operand).map a1.eval = #[.pointer (some ⟨kb, 0 + pre.length * sz, none⟩)] := by simp [Ze, e12]
      rw [e1', hEt]
      exact hL kb (0 + pre.length * sz) (vs, u) Fs w1 (hcur w1 (hR0 _ hr))
    · rintro e w2 ⟨r, rfl, hm, ht⟩
      have hsz := hr.size
      exact ⟨r, rfl, r, rfl, relp_ne (by rfl) hm, ht.mod (Mod.refl (S := none') w2) (fun _ _ f => f) (fun k hk => by have hk' : w1.heap.size <= k := hk; omega)⟩
  · intro a1 w1 hr hp hs hd
    obtain ⟨cs, e9, e8, e7, e6⟩ : TreeV w1 (fun k => w.heap.size <= k) (Act.get a1 d13) (structT G l[pre.length]) := hd ⟨13, .data⟩ (by simp) rfl
    have hsz := hr.size
    refine Zw (x_buildSlice1 hT.elem e9 e8) ⟨_, rfl, relp_ne (by rfl) ((Mod.refl w1).alloc _), cs, _, rfl, Zh _ _, hsz, e8, e7, e6.mod ((Mod.refl w1).alloc _) (fun _ _ f => f) (fun _ h => h)⟩
  · intro a1 w1 hr hp hs hd
    have e6 : Act.get a1 d6 = sv := hd ⟨6, .data⟩ (by simp) rfl
    obtain ⟨cs, kk, g1, g2, g3, g4, g5, g6⟩ : ∃ cs kk, Act.get a1 d14 = .slice (some ⟨kk, 0, none⟩) 1 1 /\ w1.heap[kk]? = some (.cells cs TI (0, 0)) /\ w.heap.size <= kk /\ cs.size = 5 /\ cs.all (·.oneCell') = true /\ TreeR w1 (fun k => w.heap.size <= k) (from' cs 0) (structT G l[pre.length]) := hd ⟨14, .data⟩ (by simp) rfl
    have hm0 := hp rfl
    have hown1 := ownsRow_mod hM.own hm0 (fun _ _ f => f)
    have hsz := hm0.size
    have hlen := hM.len
    obtain ⟨v', w2, hrun, hown2, hm2, _, hblk⟩ := x_append (P := P) (ρ := a1.eval) (w := w1) (d := some d15) (ty := y15) (p := p15) (af := #[⟨6, .data⟩, ⟨14, .data⟩, ⟨13, .chain⟩]) (g := none) (s := .tmp d6) (x := .tmp d14) (base := B) (v := sv) (n := pre.length) (xs := xs) (ad := ⟨kk, 0, none⟩) (m := 1) (c := 1) (news := cs.toList) hT.elem e6 g1 hown1 (by simp [g4]) (fun j q hq => by rw [Addr.add_mid, Zc g2, Nat.zero_add]; simpa using hq) (fun q hq => by have := Array.all_eq_true_iff_forall_mem.1 g5 q (by simpa using hq); exact this) (by omega) (by omega)
    refine Zw hrun ⟨_, rfl, relp_eq hm2, cs, hown2, g4, ?_, fun i hi => ?_⟩
    · exact (g6.lt.mod (F' := fun k => w.heap.size <= k /\ k < w1.heap.size) hm2 (fun k hk e => by have := (hub k e).2; have := hk.1; omega) (fun _ h => h)).mod (Mod.refl (S := none') w2) (fun _ _ f => f) (fun k hk => ⟨by omega, fun e => by rcases hblk k e with h | h; exact absurd (hub k h).2 (by omega); omega⟩)
    · exact (((hM.els i hi).lt.mod (F' := fun k => (B <= k /\ sv.ownBlock ≠ some k) /\ k < w.heap.size) hm0 (fun _ _ f => f) (fun _ h => h)).mod (F' := fun k => (B <= k /\ sv.ownBlock ≠ some k) /\ k < w.heap.size) hm2 (fun k hk => hk.1.2) (fun _ h => h)).mod (Mod.refl (S := none') w2) (fun _ _ f => f) (fun k hk => ⟨hk.1.1, fun e => by rcases hblk k e with h | h; exact hk.1.2 h; have := hk.2; omega⟩)
  · intro a1 w1 hr hs hh
    have e1 : Act.get a1 d1 = .slice (some ⟨x.lb, 0, none⟩) x.n x.n := hh 1 (by simp)
    obtain ⟨cs, g1, g2, g3, g4⟩ : ∃ cs : Array Value, w1.ownsRow B TI 5 (Act.get a1 d15) (pre.length + 1) (xs ++ cs.toList) /\ cs.size = 5 /\ TreeR w1 (fun k => B <= k /\ (Act.get a1 d15).ownBlock ≠ some k) (from' cs 0) (structT G l[pre.length]) /\ (∀ i (h : i < pre.length), TreeR w1 (fun k => B <= k /\ (Act.get a1 d15).ownBlock ≠ some k) (fun q => xs.getD (i * 5 + q) undef) pre[i]) := hh 15 (by simp)
    have hda := htl d16 (by simp)
    have hdb := htl d17 (by simp)
    have sN : a1.tmps.size = N := hs.size.trans hA.size
    have hl1' := hr.some hl1 nl1
    refine Zv rfl (Zx (i := tz.length) (elemSize_of hT.elem) e1 rfl hj) ?_
    refine Zv rfl (Za hT.f3 (b := x.lb) (o0 := 0 + tz.length * 5) ?_) ?_
    · rw [Ze, Zq (by rw [sN]; exact hda.1)]
    refine wpl_skip rfl (x_store1 hTL (b := x.lb) (o := 0 + tz.length * 5 + 3) (v := Act.get a1 d15) (u := sv) ?_ ?_ (ownsRow_one g1) ?_ ?_) (wpList_nil ?_)
    · rw [Ze, Zq (by rw [Zs, sN]; exact hdb.1)]
    · rw [Ze, Zn (fun e => hdb.2.2.2.2 (by simp [e])), Zn (fun e => hda.2.2.2.2 (by simp [e]))]
    · rw [Zc hl1']; exact hsv
    · exact Zz hl1'
    have hAB : TAmb N x a1 := hA.same hs (fun hm => (hdl 0 hm).2.1 rfl) (fun hm => (hdl 2 hm).2.2.1 rfl) (fun hm => (hdl 3 hm).2.2.2 rfl)
    refine ⟨rfl, ?_, fun t ht => ?_, _, xs ++ cs.toList, hM.put hr (by simpa using g1) (by simp; omega) fun i hi => ?_⟩
    · exact ((hAB.put ⟨hda.2.1, hda.2.2.1, hda.2.2.2.1⟩ _).put ⟨hdb.2.1, hdb.2.2.1, hdb.2.2.2.1⟩ _)
    · have hkt := hkeep t (List.mem_cons_of_mem _ ht)
      simp only [List.mem_append, not_or] at hkt
      rw [Zo, Zn (fun e => hkt.2 (by simp [<- e])), Zn (fun e => hkt.2 (by simp [<- e]))]
      exact hs.get t hkt.1
    · have hxl := hM.own.1
      by_cases hip : i < pre.length
      · rw [List.getElem_append_left hip]
        refine (g4 i hip).congr fun q hq => ?_
        have := Nat.mul_le_mul_right 5 (show i + 1 <= pre.length by omega)
        show (xs ++ cs.toList).getD _ _ = _
        rw [List.getD_eq_getElem?_getD, List.getElem?_append_left (by omega), <- List.getD_eq_getElem?_getD]
      · have hie : i = pre.length := by simp at hi; omega
        subst hie
        rw [show (pre ++ [structT G l[pre.length]])[pre.length] = structT G l[pre.length] by simp]
        refine g3.congr fun q hq => ?_
        show (xs ++ cs.toList).getD _ _ = _
        rw [List.getD_eq_getElem?_getD, List.getElem?_append_right (by omega), hxl, show pre.length * 5 + q - pre.length * 5 = q by omega]
        simp [from', Array.getD_eq_getD_getElem?]
set_option maxHeartbeats 2000000 in
theorem app0_call (hT : TellT P TI TL) {σe : St} {G : SV -> List Tr} (hL : TellC P fL σe G) (hbd : bodied P fL = true) (hse : σe.sz = sz) (hoke : (Ty.struct σe.lay σe.tg σe.sz).ok = true) (hI : elemInfo P ys es sz = true) (ho1 : one P ys = true) (hf : fieldOff P T k = some o) (hat : σ.lay.at i = some (o, .list (.struct σe.lay σe.tg σe.sz) sz)) (hTL : sized P TL 1 = true) (hok : tellOK N [d0, d1, d2, d3, d4, d5, d6, d7, d8, d9, d10, d11, d12, d13] [d14, d15, d16, d18] = true) (hkeep : ∀ t ∈ dk :: keep, t ∉ [d0, d1, d2, d3, d4, d5, d6, d7, d8, d9, d10, d11, d12, d13] ++ [d14, d15, d16, d18]) (hdd : [d14, d15, d16, d18].Nodup) : AppC P N n j dk keep σ i TI (structT G)
    (.seq (Code.region rid #[⟨some d0, .fieldAddr TI (.tmp 3) 3, y0, p0, #[], none⟩,
      ⟨some d1, .load TL (.tmp d0), y1, p1, #[⟨0, .data⟩], none⟩,
      ⟨some d2, .indexAddr TL (.tmp d1) (.const (.int .i64 (j : Nat))), y2, p2, #[⟨1, .data⟩], none⟩,
      ⟨some d3, .fieldAddr TI (.tmp d2) 3, y3, p3, #[⟨2, .data⟩], none⟩,
      ⟨some d4, .load TL (.tmp d3), y4, p4, #[⟨3, .data⟩], none⟩,
      ⟨some d5, .move (.tmp 0), y5, p5, #[], none⟩,
      ⟨some d6, .nilCheck (.tmp d5), y6, p6, #[⟨5, .data⟩], none⟩,
      ⟨some d7, .fieldAddr T (.tmp d6) k, y7, p7, #[⟨6, .data⟩], none⟩,
      ⟨some d8, .load ys (.tmp d7), y8, p8, #[⟨7, .data⟩], none⟩,
      ⟨some d9, .move (.tmp dk), y9, p9, #[], none⟩,
      ⟨some d10, .indexAddr ys (.tmp d8) (.tmp d9), y10, p10, #[⟨8, .data⟩, ⟨9, .data⟩], none⟩,
      ⟨some d11, .call ⟨.value (.func fL), #[.tmp d10], ts'⟩, y11, p11, #[⟨10, .data⟩], none⟩,
      ⟨some d12, .call ⟨.builtin .len, #[.tmp d4], #[TL]⟩, y12, p12, #[⟨4, .data⟩], none⟩,
      ⟨some d13, .buildSlice TL 1 #[(0, .const (.agg #[.int .i64 0, .slice none 0 0, .bool false, .slice none 0 0, .slice none 0 0]))], y13, p13, #[], none⟩,
      ⟨some d14, .call ⟨.builtin .append, #[.tmp d4, .tmp d13], #[TL, TL]⟩, y14, p14, #[⟨4, .data⟩, ⟨13, .data⟩, ⟨11, .chain⟩, ⟨0, .phase⟩, ⟨1, .phase⟩, ⟨2, .phase⟩, ⟨3, .phase⟩, ⟨4, .phase⟩, ⟨5, .phase⟩, ⟨6, .phase⟩, ⟨7, .phase⟩, ⟨8, .phase⟩, ⟨9, .phase⟩, ⟨10, .phase⟩, ⟨11, .phase⟩, ⟨12, .phase⟩, ⟨13, .phase⟩], none⟩,
      ⟨some d15, .indexAddr TL (.tmp d1) (.const (.int .i64 (j : Nat))), y15, p15, #[⟨1, .data⟩, ⟨0, .phase⟩, ⟨1, .phase⟩, ⟨2, .phase⟩, ⟨3, .phase⟩, ⟨4, .phase⟩, ⟨5, .phase⟩, ⟨6, .phase⟩, ⟨7, .phase⟩, ⟨8, .phase⟩, ⟨9, .phase⟩, ⟨10, .phase⟩, ⟨11, .phase⟩, ⟨12, .phase⟩, ⟨13, .phase⟩, ⟨14, .phase⟩], none⟩,
      ⟨some d16, .fieldAddr TI (.tmp d15) 3, y16, p16, #[⟨15, .data⟩, ⟨0, .phase⟩, ⟨1, .phase⟩, ⟨2, .phase⟩, ⟨3, .phase⟩, ⟨4, .phase⟩, ⟨5, .phase⟩, ⟨6, .phase⟩, ⟨7, .phase⟩, ⟨8, .phase⟩, ⟨9, .phase⟩, ⟨10, .phase⟩, ⟨11, .phase⟩, ⟨12, .phase⟩, ⟨13, .phase⟩, ⟨14, .phase⟩], none⟩,
      ⟨none, .store TL (.tmp d16) (.tmp d14), y17, p17, #[⟨16, .data⟩, ⟨14, .data⟩, ⟨14, .chain⟩, ⟨0, .phase⟩, ⟨1, .phase⟩, ⟨2, .phase⟩, ⟨3, .phase⟩, ⟨4, .phase⟩, ⟨5, .phase⟩, ⟨6, .phase⟩, ⟨7, .phase⟩, ⟨8, .phase⟩, ⟨9, .phase⟩, ⟨10, .phase⟩, ⟨11, .phase⟩, ⟨12, .phase⟩, ⟨13, .phase⟩, ⟨14, .phase⟩], none⟩] true)
      (Code.region rid2 #[⟨some d18, .indexAddr TL (.tmp d14) (.tmp d12), y18, p18, #[], none⟩, ⟨none, .store TI (.tmp d18) (.tmp d11), y19, p19, #[⟨0, .data⟩], none⟩] false)) := by
  intro x Fs v tz uv B nl sv xs pre l a w0 w hxn hts hA hk hC hv hpl hM
  subst hts
  obtain ⟨hdl, hnd, htl⟩ := tellOK_dl hok
  obtain ⟨C, tC, kb, cap, C3, t3', f, hC1, hC2, hC3, hll, hlc, hC3s, hC3f, hreps⟩ := list_at hC hat hv
  have hrep := hreps pre.length hpl
  have hrep0 := hrep
  simp only [Rep] at hrep
  obtain ⟨vs, u, _, _, hte⟩ := hrep
  rw [hte] at hrep0
  have hEt : structT G l[pre.length] = .part (G (vs, u)) u := by rw [hte]; rfl
  have hcur : ∀ W, Mod none' w0 W -> Cur σe Fs kb (0 + pre.length * sz) (vs, u) W := fun W hm => cur_row hC3 hC3s hlc hpl hse hoke hC3f hrep0 hm
  have hnew := hM.new
  have hlt := hM.lt
  have hub : ∀ k, sv.ownBlock = some k -> B <= k /\ k < w.heap.size := fun k hk => hM.own.lt k hk
  have hR0 : ∀ W, Mod (fun k => sv.ownBlock = some k) w W -> Mod none' w0 W := fun W hm => hM.mod.trans' hm (fun _ _ f => f) (fun j hj e => by have := (hub j e).1; omega)
  obtain ⟨T', hb⟩ := hM.hb
  obtain ⟨D, TD, hl1, hD1, hD2, hD3, hD4, hD5⟩ := hM.hl
  have nt : ¬ sv.ownBlock = some x.tb := fun e => by have := (hub _ e).1; omega
  have nl1 : ¬ sv.ownBlock = some x.lb := fun e => by have := (hub _ e).1; omega
  have hj : tz.length < x.n := hD2
  have hrow : tz.length * 5 + 5 <= D.size := by rw [hD1]; have := Nat.mul_le_mul_right 5 (show tz.length + 1 <= x.n by omega); omega
  have hsv : D[0 + tz.length * 5 + 3]? = some sv := by
    have h3 := hD4 3 (by omega)
    simp only [from', Array.getD_eq_getD_getElem?] at h3
    rw [show 0 + tz.length * 5 + 3 = tz.length * 5 + 3 by omega, Array.getElem?_eq_getElem (by omega)]
    rw [Array.getElem?_eq_getElem (by omega)] at h3
    have h3q : D[tz.length * 5 + 3]'(by omega) = row5 nl sv 3 := by simpa using h3
    exact congrArg some h3q
  have hdk : dk ∉ [d0, d1, d2, d3, d4, d5, d6, d7, d8, d9, d10, d11, d12, d13] := fun hm => by have := hkeep dk (by simp); exact this (List.mem_append_left _ hm)
  obtain ⟨sao, scap, hss⟩ := owns_slice hM.own
  simp only [List.nodup_cons, List.mem_cons, List.not_mem_nil, or_false, not_or] at hdd
  obtain ⟨⟨nab, nac, nae⟩, ⟨nbc, nbe⟩, nce, _⟩ := hdd
  have hrel : ∀ {W : World}, Mod none' w W -> Mod (fun k => sv.ownBlock = some k) w W := fun h => h.none
  refine wp_seq (region_rlt (l := [_, _, _, _, _, _, _, _, _, _, _, _, _, _]) (tl := [_, _, _, _]) hT.ord (Mod none') (Mod.refl w).drew (fun _ _ _ h h' => h.trans h') [d0, d1, d2, d3, d4, d5, d6, d7, d8, d9, d10, d11, d12, d13]
    [fun v _ => v = .pointer (some ⟨x.tb, 0 + 3, none⟩),
     fun v _ => v = .slice (some ⟨x.lb, 0, none⟩) x.n x.n,
     fun v _ => v = .pointer (some ⟨x.lb, 0 + tz.length * 5, none⟩),
     fun v _ => v = .pointer (some ⟨x.lb, 0 + tz.length * 5 + 3, none⟩),
     fun v _ => v = sv,
     fun v _ => v = .pointer (some ⟨x.blk, x.off, none⟩),
     fun v _ => v = .pointer (some ⟨x.blk, x.off, none⟩),
     fun v _ => v = .pointer (some ⟨x.blk, x.off + o, none⟩),
     fun v _ => v = .slice (some ⟨kb, 0, none⟩) l.length cap,
     fun v _ => v = .int .i64 (pre.length : Nat),
     fun v _ => v = .pointer (some ⟨kb, 0 + pre.length * sz, none⟩),
     fun v w' => TreeV w' (fun k => w.heap.size <= k) v (structT G l[pre.length]),
     fun v _ => v = .int .i64 (pre.length : Nat),
     fun v w' => ∃ kk, v = .slice (some ⟨kk, 0, none⟩) 1 1 /\ w'.heap[kk]? = some (.cells #[.int .i64 0, .slice none 0 0, .bool false, .slice none 0 0, .slice none 0 0] TI (0, 0))]
    ?_ (by simp [regFormT]) hnd (fun d hd => by rw [hA.size]; exact (hdl d hd).1) (by simp) (by kernel_rfl) ⟨?_, ?_, ?_, ?_, ?_, ?_, ?_, ?_, ?_, ?_, ?_, ?_, ?_, ?_, trivial⟩ ?_)
  · intro g hg v1 w1 w2 hv hr
    simp only [List.mem_cons, List.not_mem_nil, or_false] at hg
    rcases hg with rfl | rfl | rfl | rfl | rfl | rfl | rfl | rfl | rfl | rfl | rfl | rfl | rfl | rfl
    · exact hv
    · exact hv
    · exact hv
    · exact hv
    · exact hv
    · exact hv
    · exact hv
    · exact hv
    · exact hv
    · exact hv
    · exact hv
    · exact TreeV.mod hv hr (fun _ _ f => f) (fun _ h => h)
    · exact hv
    · obtain ⟨kk, g1, g2⟩ := hv
      exact ⟨kk, g1, hr.some g2 (fun f => f)⟩
  · intro a1 w1 hr0 hs hd
    have hr := hrel hr0
    have t3 := (hs.get 3 (fun hm => (hdl 3 hm).2.2.2 rfl)).trans hA.tree
    exact Zw (Za hT.f3 t3) ⟨_, rfl, (Mod.refl w1), rfl⟩
  · intro a1 w1 hr0 hs hd
    have hr := hrel hr0
    have e0 : Act.get a1 d0 = .pointer (some ⟨x.tb, 0 + 3, none⟩) := hd ⟨0, .data⟩ (by simp) rfl
    exact Zw (Zl hT.one e0 (by rw [Zc (hr.some hb nt)]; rfl)) ⟨_, rfl, (Mod.refl w1), rfl⟩
  · intro a1 w1 hr0 hs hd
    have hr := hrel hr0
    have e1 : Act.get a1 d1 = .slice (some ⟨x.lb, 0, none⟩) x.n x.n := hd ⟨1, .data⟩ (by simp) rfl
    exact Zw (Zx (i := tz.length) (elemSize_of hT.elem) e1 rfl hj) ⟨_, rfl, (Mod.refl w1), rfl⟩
  · intro a1 w1 hr0 hs hd
    have hr := hrel hr0
    have e2 : Act.get a1 d2 = .pointer (some ⟨x.lb, 0 + tz.length * 5, none⟩) := hd ⟨2, .data⟩ (by simp) rfl
    exact Zw (Za hT.f3 e2) ⟨_, rfl, (Mod.refl w1), rfl⟩
  · intro a1 w1 hr0 hs hd
    have hr := hrel hr0
    have e3 : Act.get a1 d3 = .pointer (some ⟨x.lb, 0 + tz.length * 5 + 3, none⟩) := hd ⟨3, .data⟩ (by simp) rfl
    exact Zw (Zl hT.one e3 (by rw [Zc (hr.some hl1 nl1)]; exact hsv)) ⟨_, rfl, (Mod.refl w1), rfl⟩
  · intro a1 w1 hr0 hs hd
    have hr := hrel hr0
    have t0 := (hs.get 0 (fun hm => (hdl 0 hm).2.1 rfl)).trans hA.src
    exact Zw (x_moveV t0) ⟨_, rfl, (Mod.refl w1), rfl⟩
  · intro a1 w1 hr0 hs hd
    have hr := hrel hr0
    have e5 : Act.get a1 d5 = .pointer (some ⟨x.blk, x.off, none⟩) := hd ⟨5, .data⟩ (by simp) rfl
    exact Zw (x_nilCheck e5) ⟨_, rfl, (Mod.refl w1), rfl⟩
  · intro a1 w1 hr0 hs hd
    have hr := hrel hr0
    have e6 : Act.get a1 d6 = .pointer (some ⟨x.blk, x.off, none⟩) := hd ⟨6, .data⟩ (by simp) rfl
    exact Zw (Za hf e6) ⟨_, rfl, (Mod.refl w1), rfl⟩
  · intro a1 w1 hr0 hs hd
    have hr := hrel hr0
    have e7 : Act.get a1 d7 = .pointer (some ⟨x.blk, x.off + o, none⟩) := hd ⟨7, .data⟩ (by simp) rfl
    exact Zw (Zl ho1 e7 (by rw [Zc ((hR0 _ hr).some hC1 (fun f => f))]; exact hC2)) ⟨_, rfl, (Mod.refl w1), rfl⟩
  · intro a1 w1 hr0 hs hd
    have hr := hrel hr0
    have tk := (hs.get dk hdk).trans hk
    exact Zw (x_moveV tk) ⟨_, rfl, (Mod.refl w1), rfl⟩
  · intro a1 w1 hr0 hs hd
    have hr := hrel hr0
    have e8 : Act.get a1 d8 = .slice (some ⟨kb, 0, none⟩) l.length cap := hd ⟨8, .data⟩ (by simp) rfl
    have e9 : Act.get a1 d9 = .int .i64 (pre.length : Nat) := hd ⟨9, .data⟩ (by simp) rfl
    exact Zw (Zx (i := pre.length) (elemSize_of hI) e8 e9 hpl) ⟨_, rfl, (Mod.refl w1), rfl⟩
  · intro a1 w1 hr0 hs hd
    have hr := hrel hr0
    have e10 : Act.get a1 d10 = .pointer (some ⟨kb, 0 + pre.length * sz, none⟩) := hd ⟨10, .data⟩ (by simp) rfl
    refine owp_call (Zy hbd rfl) (R := fun e w' => ∃ r, e = .returned r /\ Mod none' w1 w' /\ TreeV w' (From w1) r (structT G l[pre.length])) ?_ ?_
    · have e1' : (#[Operand.tmp d10] : Array Operand).map a1.eval = #[.pointer (some ⟨kb, 0 + pre.length * sz, none⟩)] := by simp [Ze, e10]
      rw [e1', hEt]
      exact hL kb (0 + pre.length * sz) (vs, u) Fs w1 (hcur w1 (hR0 _ hr))
    · rintro e w2 ⟨r, rfl, hm, ht⟩
      have hsz := hr.size
      exact ⟨r, rfl, r, rfl, hm, ht.mod (Mod.refl (S := none') w2) (fun _ _ f => f) (fun k hk => by have hk' : w1.heap.size <= k := hk; omega)⟩
  · intro a1 w1 hr0 hs hd
    have hr := hrel hr0
    have e4 : Act.get a1 d4 = sv := hd ⟨4, .data⟩ (by simp) rfl
    exact Zw (x_len (t := TL) (by rw [elemSize_of hT.elem]; rfl) rfl (ao := sao) (cap := scap) (n := pre.length) (e4.trans hss)) ⟨_, rfl, (Mod.refl w1), rfl⟩
  · intro a1 w1 hr0 hs hd
    have hr := hrel hr0
    exact Zw (x_buildSlice1 (v := .agg #[.int .i64 0, .slice none 0 0, .bool false, .slice none 0 0, .slice none 0 0]) hT.elem rfl rfl) ⟨_, rfl, (Mod.refl w1).alloc _, _, rfl, Zh _ _⟩
  · intro a1 w1 hr0 hs hh
    have hr := hrel hr0
    have e1 : Act.get a1 d1 = .slice (some ⟨x.lb, 0, none⟩) x.n x.n := hh 1 (by simp)
    have e4 : Act.get a1 d4 = sv := hh 4 (by simp)
    have eL : Act.get a1 d12 = .int .i64 (pre.length : Nat) := hh 12 (by simp)
    obtain ⟨kk, g1, g2⟩ : ∃ kk, Act.get a1 d13 = .slice (some ⟨kk, 0, none⟩) 1 1 /\ w1.heap[kk]? = some (.cells #[.int .i64 0, .slice none 0 0, .bool false, .slice none 0 0, .slice none 0 0] TI (0, 0)) := hh 13 (by simp)
    obtain ⟨cs, eE, c5, call, ct⟩ : TreeV w1 (fun k => w.heap.size <= k) (Act.get a1 d11) (structT G l[pre.length]) := hh 11 (by simp)
    have hda := htl d14 (by simp)
    have hdb := htl d15 (by simp)
    have hdc := htl d16 (by simp)
    have hde := htl d18 (by simp)
    have sN : a1.tmps.size = N := hs.size.trans hA.size
    have hown1 := ownsRow_mod hM.own hr0 (fun _ _ f => f)
    have hsz := hr0.size
    have hlen := hM.len
    refine wpl_append (base := B) (v := sv) (n := pre.length) (xs := xs) (ad := ⟨kk, 0, none⟩) (m := 1) (c := 1) (news := [.int .i64 0, .slice none 0 0, .bool false, .slice none 0 0, .slice none 0 0]) hT.elem (by rw [Ze]; exact e4) (by rw [Ze]; exact g1) hown1 rfl (fun j q hq => by rw [Addr.add_mid, Zc g2, Nat.zero_add]; simpa using hq) (fun q hq => by simp at hq; rcases hq with rfl | rfl | rfl | rfl | rfl <;> rfl) (by omega) (by omega) ?_
    intro sv' w2 hown2 hm2 _ hblk
    have hmw : Mod (fun k => sv.ownBlock = some k) w w2 := hr.trans hm2
    have hl2 := hmw.some hl1 nl1
    refine Zv rfl (Zx (b := x.lb) (o := 0) (n := x.n) (cap := x.n) (i := tz.length) (sz := 5) (k := .i64) (elemSize_of hT.elem) ?_ rfl hj) ?_
    · rw [Ze, Zn (fun e => hda.2.2.2.2 (by simp [e]))]; exact e1
    refine Zv rfl (Za hT.f3 (b := x.lb) (o0 := 0 + tz.length * 5) ?_) ?_
    · rw [Ze, Zq (by rw [Zs, sN]; exact hdb.1)]
    refine wpl_skip rfl (x_store1 hTL (b := x.lb) (o := 0 + tz.length * 5 + 3) (v := sv') (u := sv) ?_ ?_ (ownsRow_one hown2) ?_ ?_) (wpList_nil ?_)
    · rw [Ze, Zq (by rw [Zs, Zs, sN]; exact hdc.1)]
    · rw [Ze, Zn (fun e => nac e.symm), Zn (fun e => nab e.symm), Zq (by rw [sN]; exact hda.1)]
    · rw [Zc hl2]; exact hsv
    · exact Zz hl2
    have hAB : TAmb N x a1 := hA.same hs (fun hm => (hdl 0 hm).2.1 rfl) (fun hm => (hdl 2 hm).2.2.1 rfl) (fun hm => (hdl 3 hm).2.2.2 rfl)
    have hxl := hM.own.1
    have hM2 : LMem x w0 (w2.setCell ⟨x.lb, 0 + tz.length * 5 + 3, none⟩ sv') tz uv B TI nl sv' (xs ++ [.int .i64 0, .slice none 0 0, .bool false, .slice none 0 0, .slice none 0 0]) (pre ++ [.num 0]) := by
      refine hM.put hmw (by simpa using hown2) (by simp; omega) fun i hi => ?_
      by_cases hip : i < pre.length
      · rw [List.getElem_append_left hip]
        have h0 := ((hM.els i hip).lt.mod (F' := fun k => (B <= k /\ sv.ownBlock ≠ some k) /\ k < w.heap.size) hmw (fun k hk => hk.1.2) (fun _ h => h)).mod (F' := fun k => B <= k /\ sv'.ownBlock ≠ some k) (Mod.refl (S := none') w2) (fun _ _ f => f) (fun k hk => ⟨hk.1.1, fun e => by rcases hblk k e with h | h; exact hk.1.2 h; have := hk.2; omega⟩)
        refine h0.congr fun q hq => ?_
        have := Nat.mul_le_mul_right 5 (show i + 1 <= pre.length by omega)
        rw [List.getD_eq_getElem?_getD, List.getElem?_append_left (by omega), <- List.getD_eq_getElem?_getD]
      · have hie : i = pre.length := by simp at hi; omega
        subst hie
        rw [show (pre ++ [Tr.num 0])[pre.length] = .num 0 by simp]
        have hq5 : ∀ q, q < 5 -> (xs ++ [Value.int .i64 0, .slice none 0 0, .bool false, .slice none 0 0, .slice none 0 0]).getD (pre.length * 5 + q) undef = zero5 q := fun q hq => by
          rw [List.getD_eq_getElem?_getD, List.getElem?_append_right (by omega), hxl, show pre.length * 5 + q - pre.length * 5 = q by omega]
          rcases (by omega : q = 0 \/ q = 1 \/ q = 2 \/ q = 3 \/ q = 4) with rfl | rfl | rfl | rfl | rfl <;> rfl
        exact tree_num (hq5 0 (by omega)) (fits_zero _) (hq5 1 (by omega)) (hq5 2 (by omega)) (hq5 3 (by omega)) (hq5 4 (by omega))
    rcases hown2.2 with ⟨_, hbad⟩ | ⟨g, scap', cur, rfl, hBg, hg, hnc, hcm, hcs, htake⟩
    · omega
    have hct : TreeR (w2.setCell ⟨x.lb, 0 + tz.length * 5 + 3, none⟩ (.slice (some ⟨g, 0, none⟩) (pre.length + 1) scap')) (fun k => B <= k /\ k ≠ g) (from' cs 0) (structT G l[pre.length]) := by
      have h0 := ct.lt.mod (F' := fun k => w.heap.size <= k /\ k < w1.heap.size) hm2 (fun k hk e => by have := (hub k e).2; have := hk.1; omega) (fun _ h => h)
      refine h0.mod ((Mod.refl (S := only x.lb) w2).put _ _) (fun k hk e => by have e' : k = x.lb := e; have := hk.1; omega) (fun k hk => ⟨by have := hk.1; omega, fun e => ?_⟩)
      rcases hblk k (by rw [e]; rfl) with h | h
      · have := (hub k h).2; have := hk.1; omega
      · have := hk.2; omega
    refine wp_region_lit (Zv rfl (Zx (b := g) (o := 0) (n := pre.length + 1) (cap := scap') (i := pre.length) (sz := 5) (k := .i64) (elemSize_of hT.elem) ?_ ?_ (by omega)) ?_)
    · rw [Zo, Ze, Zn (fun e => nac e.symm), Zn (fun e => nab e.symm), Zq (by rw [sN]; exact hda.1)]
    · rw [Zo, Ze, Zn (fun e => hdc.2.2.2.2 (by simp [e])), Zn (fun e => hdb.2.2.2.2 (by simp [e])), Zn (fun e => hda.2.2.2.2 (by simp [e]))]; exact eL
    have hg3 : (w2.setCell ⟨x.lb, 0 + tz.length * 5 + 3, none⟩ (.slice (some ⟨g, 0, none⟩) (pre.length + 1) scap')).heap[g]? = some (.cells cur TI (0, 0)) := ((Mod.refl (S := only x.lb) w2).put _ _).some hg (fun e => by have e' : g = x.lb := e; omega)
    refine wpl_skip rfl (x_storeN (cs := cs) (b := g) (o := 0 + pre.length * 5) (by rw [c5]; exact hT.size) ?_ ?_ call ?_) (wpList_nil ?_)
    · rw [Ze, Zq (by simp only [Zo, Zs]; rw [sN]; exact hde.1)]
    · rw [Zo, Ze, Zn (fun e => hde.2.2.2.2 (by simp [e])), Zn (fun e => hdc.2.2.2.2 (by simp [e])), Zn (fun e => hdb.2.2.2.2 (by simp [e])), Zn (fun e => hda.2.2.2.2 (by simp [e]))]; exact eE
    · intro q hq
      have := Nat.mul_le_mul_right 5 hnc
      rw [Zc hg3, Zz hg3, Array.getElem?_eq_getElem (by rw [hcs]; omega)]
      exact ⟨rfl, rfl⟩
    refine ⟨rfl, ?_, fun t ht => ?_, _, xs ++ cs.toList, hM2.last hxl c5 hct⟩
    · exact ((((hAB.put ⟨hda.2.1, hda.2.2.1, hda.2.2.2.1⟩ _).put ⟨hdb.2.1, hdb.2.2.1, hdb.2.2.2.1⟩ _).put ⟨hdc.2.1, hdc.2.2.1, hdc.2.2.2.1⟩ _).put ⟨hde.2.1, hde.2.2.1, hde.2.2.2.1⟩ _)
    · have hkt := hkeep t (List.mem_cons_of_mem _ ht)
      simp only [List.mem_append, not_or] at hkt
      rw [Zo, Zn (fun e => hkt.2 (by simp [<- e])), Zo, Zn (fun e => hkt.2 (by simp [<- e])), Zn (fun e => hkt.2 (by simp [<- e])), Zn (fun e => hkt.2 (by simp [<- e]))]
      exact hs.get t hkt.1
end
end Go.Proofs.YtcldbjehliladaaDoor
