/-
  Tags that a message knows: what is read out of a tag's own octets.
-/
import Derived.Test.YtcldbjehliladaaDoorPKm
import Derived.Test.YtcldbjehliladaaDoorPUu
set_option linter.unusedSimpArgs false
set_option linter.unusedVariables false
namespace Go.Proofs.YtcldbjehliladaaDoor
open Go Go.RowKit
/-- what was read is whole -/
def endF : FT := fun _ _ v s => if s.bad = true then .early else .ok v s
section
variable {P : Program} {Γ : Sl} {σ : St} {o i : Nat} {ks : List Nat} {f g : FT} {c c2 c3 body : Code} {id i0 i1 i2 tv : Nat} {ty : Ty} {rd : Int -> Bool -> RS -> Tr × RS}
 {y0 y1 y2 y3 y4 y5 y6 y7 yg : TypeId} {p0 p1 p2 p3 p4 p5 p6 p7 : String} {e0 e1 e2 e3 e4 e5 e6 e7 : Array Edge} {ts ts0 ts1 : Array TypeId}
theorem blk_end {fc t1 te t2 t3 t4 yE : Nat} (hc : ∀ {w : World} {rb sb : Nat} {s : RS} {ev : Value}, ErrIs w ev -> Rd w rb sb s -> Calls P fc #[.pointer (some ⟨rb, 0, none⟩)] w fun e w' => e = .returned (endErr ev s.bad) /\ w = w')
  (hb : bodied P fc = true) (hE : isIface P yE = true) (hs : (Γ.free t1 && Γ.free te && Γ.free t2 && Γ.free t3 && Γ.free t4 && Γ.free Γ.res && te != t2 && te != t3) = true) :
  Blk P Γ σ (.seq (.region i0 #[⟨some t1, .call ⟨.value (.func fc), #[.tmp Γ.b], ts⟩, y0, p0, e0, none⟩, ⟨some te, .assign (.tmp t1), y1, p1, e1, none⟩] false)
   (.seq (.region i1 #[⟨some t2, .move (.tmp te), y2, p2, e2, none⟩, ⟨some t3, .binOp .neq yE (.tmp t2) (.const .nilIface) yg, y3, p3, e3, none⟩] false)
    (.cond (.tmp t3) (.seq (.region i2 #[⟨some t4, .move (.tmp te), y4, p4, e4, none⟩, ⟨some Γ.res, .assign (.tmp t4), y5, p5, e5, none⟩] false) .ret) .skip))) endF := by
 intro x F blk off v s a w hA hp hC hS _
 simp only [Bool.and_eq_true, bne_iff_ne] at hs
 obtain ⟨⟨⟨⟨⟨⟨⟨f1, fe⟩, f2⟩, f3⟩, f4⟩, fr⟩, ne2⟩, ne3⟩ := hs
 refine wp_seq (wp_region_lit ?_)
 have e0 : (#[Operand.tmp Γ.b] : Array Operand).map a.eval = #[.pointer (some ⟨x.rb, 0, none⟩)] := by simp [Ze, hA.b]
 refine wpl_call rfl (Zy hb rfl) (by rw [e0]; exact hc hA.err hA.rd) ?_
 rintro e w' ⟨rfl, rfl⟩
 refine ⟨_, rfl, Zv rfl Zi (wpList_nil ?_)⟩
 have hA1 := (hA.put f1 (endErr x.ev s.bad)).put fe ((a.put (some t1) (endErr x.ev s.bad)).eval (.tmp t1))
 have ge : Act.get ((a.put (some t1) (endErr x.ev s.bad)).put (some te) ((a.put (some t1) (endErr x.ev s.bad)).eval (.tmp t1))) te = endErr x.ev s.bad := by
  rw [Zq (by rw [Zs]; exact hA.lt fe), Ze, Zq (hA.lt f1)]
 have hsb : SameBut (fun t => t = t1 \/ t = te) a ((a.put (some t1) (endErr x.ev s.bad)).put (some te) ((a.put (some t1) (endErr x.ev s.bad)).eval (.tmp t1))) := ((SameBut.refl a).put (.inl rfl) _).put (.inr rfl) _
 generalize (a.put (some t1) (endErr x.ev s.bad)).put (some te) ((a.put (some t1) (endErr x.ev s.bad)).eval (.tmp t1)) = a1 at *
 refine wp_seq (wp_region_lit (Zv rfl Zm (Zv rfl (x_neqNil (v := endErr x.ev s.bad) (b := s.bad) hE (fun _ => rfl) (by rw [Ze, Zq (hA1.lt f2), Ze, ge]) ?_) (wpList_nil ?_))))
 ·cases s.bad with
  | true => exact .inl ⟨rfl, hA.err.2⟩
  | false => exact .inr ⟨rfl, rfl⟩
 have hA2 := (hA1.put f2 (a1.eval (.tmp te))).put f3 (.bool s.bad)
 have g3 : Act.get ((a1.put (some t2) (a1.eval (.tmp te))).put (some t3) (.bool s.bad)) t3 = .bool s.bad := Zq (by rw [Zs]; exact hA1.lt f3)
 have ge2 : Act.get ((a1.put (some t2) (a1.eval (.tmp te))).put (some t3) (.bool s.bad)) te = endErr x.ev s.bad := by
  rw [Zn (Ne.symm ne3), Zn (Ne.symm ne2), ge]
 have hsb2 : SameBut (fun t => t = t2 \/ t = t3) a1 ((a1.put (some t2) (a1.eval (.tmp te))).put (some t3) (.bool s.bad)) := ((SameBut.refl a1).put (.inl rfl) _).put (.inr rfl) _
 generalize (a1.put (some t2) (a1.eval (.tmp te))).put (some t3) (.bool s.bad) = a2 at *
 cases hbad : s.bad with
 | false =>
  refine wp_cond_false (by rw [Ze, g3, hbad]) (wp_skip ⟨v, s, by simp [endF, hbad], hA2, hC, (hsb.mono fun t ht => ?_).trans (hsb2.mono fun t ht => ?_), .refl w⟩)
  ·rcases ht with rfl | rfl <;> simp [W, writes]
  ·rcases ht with rfl | rfl <;> simp [W, writes]
 | true =>
  refine wp_cond_true (by rw [Ze, g3, hbad]) (wp_seq (wp_region_lit (Zv rfl Zm (Zv rfl Zi (wpList_nil (wp_ret ⟨by simp [endF, hbad], ?_, ?_, .refl w⟩))))))
  ·rw [Zq (by rw [Zs]; exact hA2.lt fr), Ze, Zq (hA2.lt f4), Ze, ge2, hbad]; rfl
  ·exact (Zd _ _ _).trans ((Zd _ _ _).trans hA2.defers)
/-- a reading, stored, and more behind -/
theorem blk_get2 (hg : Get P Γ c tv ty rd) (h : BlkV P Γ σ tv ty i c2) (h3 : Blk P Γ σ c3 g) (hs : (!(writes c).contains σ.s && !(writes c2).contains σ.s) = true) : Blk P Γ σ (.seq c (.seq c2 c3)) (fun ver fl v s => (putF i rd ver fl v s).then (g ver fl)) := by
 intro x F blk off v s a w hA hp hC hS hns
 simp only [Bool.and_eq_true, Bool.not_eq_true', List.contains_eq_mem, decide_eq_false_iff_not] at hs
 refine wp_seq (wp_mono (hg x s a w hA) ?_)
 rintro e a1 w1 ⟨rfl, hA1, hV, hsb, hmod⟩
 have hS1 := hS.later hmod.size
 have hp1 := (hsb.get _ hs.1).trans hp
 refine wp_seq (wp_mono (h x F blk off v _ a1 w1 _ hA1 hp1 (hC.later hmod hS.rb (fun k hk => (hS.apart k hk).1)) hS1 (hV F hS.src hS.fresh)) ?_)
 rintro e a2 w2 ⟨rfl, h1, h2, h3', h4⟩
 have hns' : g x.ver x.flex (v.1.set i (rd x.ver x.flex s).1, v.2) (rd x.ver x.flex s).2 ≠ .stuck := hns
 refine wp_mono (h3 x F blk off _ _ a2 w2 h1 ((h3'.get _ hs.2).trans hp1) h2 (hS1.later h4.mod.size) hns') ?_
 have hst := (Stp.of_rd (blk := blk) (off := off) (sz := σ.sz) hmod hS.rb).trans h4
 intro e a5 w5 h
 cases e with
 | normal =>
  obtain ⟨v', s', r1, r2, r3, r4, r5⟩ := h
  refine ⟨v', s', r1, r2, r3, ((hsb.mono fun t ht => ?_).trans (h3'.mono fun t ht => ?_)).trans (r4.mono fun t ht => ?_), hst.trans r5⟩
  ·simp only [W, writes, List.mem_append] at *; exact .inl ht
  ·simp only [W, writes, List.mem_append] at *; exact .inr (.inl ht)
  ·simp only [W, writes, List.mem_append] at *; exact .inr (.inr ht)
 | ret => exact ⟨h.1, h.2.1, h.2.2.1, hst.trans h.2.2.2⟩
 | _ => exact h.elim
theorem box_new (w : World) (T : TypeId) {zc cs : Array Value} (h : zc.size = cs.size) : ((w.alloc (.cells zc T)).setCells w.heap.size 0 cs.toList).heap[w.heap.size]? = some (.cells cs T (0, 0)) /\ Mod none' w ((w.alloc (.cells zc T)).setCells w.heap.size 0 cs.toList) := by
 have b1 := Zh w (.cells zc T)
 have o1 : Mod none' w (w.alloc (.cells zc T)) := (Mod.refl w).alloc _
 obtain ⟨C1, k1, k2, k3, k4⟩ := heap_setCells (w := w.alloc (.cells zc T)) cs.toList 0 _ b1
 have hC1 : C1 = cs := by
  apply Array.ext
  ·omega
  ·intro i h1 h2
   have := k3 i (by simpa using h2) (by omega)
   rw [Nat.zero_add, Array.getElem?_eq_getElem h1] at this
   simpa [h2] using this
 subst hC1
 exact ⟨k1, o1.trans' (mod_setCells _ _ _ _) (fun _ _ f => f) (fun j hj e => by have : j = w.heap.size := e; omega)⟩
set_option maxHeartbeats 1000000 in
/-- a tag that is known: its octets are a reader's own -/
theorem sw_known {fU fS TR tA tB d0 d1 d2 d3 tb : Nat} (hU : UvC P fU) (hSp : SpC P fS) (hR : RdT P TR) (hbU : bodied P fU = true) (hbS : bodied P fS = true) (hA32 : intTy P tA .u32 = true) (hB64 : intTy P tB .i64 = true) (ho : o < σ.sz)
  (hb : Blk P { Γ with b := tb } { σ with tg := none, sz := o } body f)
  (hs : ([d0, d1, d2, d3, tb].all (fun d => Γ.free d && d != σ.s) && decide ([d0, d1, d2, d3, tb] : List Nat).Nodup && !(writes body).contains Γ.b) = true) :
  BlkK P Γ σ o (.seq (.region id #[⟨some d0, .call ⟨.value (.func fU), #[.tmp Γ.b], ts0⟩, y0, p0, e0, none⟩, ⟨some d1, .convert tA tB (.tmp d0), y1, p1, e1, none⟩, ⟨some d2, .call ⟨.value (.func fS), #[.tmp Γ.b, .tmp d1], ts1⟩, y2, p2, e2, none⟩,
   ⟨some d3, .build TR #[(0, .tmp d2)], y3, p3, e3, none⟩, ⟨some tb, .alloc TR, y4, p4, e4, none⟩, ⟨none, .store TR (.tmp tb) (.tmp d3), y5, p5, e5, none⟩] false) body) ks (fun _ => caseF f) := by
 intro key B x F blk off v s a w _ _ _ hO hv hA hp hT hns
 simp only [Bool.and_eq_true, List.all_eq_true, bne_iff_ne, decide_eq_true_eq, Bool.not_eq_true', List.contains_eq_mem, decide_eq_false_iff_not] at hs
 obtain ⟨⟨hdl, hnd⟩, nb⟩ := hs
 have q0 := hdl d0 (by simp)
 have q1 := hdl d1 (by simp)
 have q2 := hdl d2 (by simp)
 have q3 := hdl d3 (by simp)
 have qb := hdl tb (by simp)
 have bd : ∀ {d}, Γ.free d = true -> Γ.b ≠ d := fun h => (Sl.free_spec h).2.1
 simp only [List.nodup_cons, List.mem_cons, List.not_mem_nil, or_false, not_or, not_false_eq_true, List.nodup_nil, and_true] at hnd
 obtain ⟨⟨n01, n02, n03, n0b⟩, ⟨n12, n13, n1b⟩, ⟨n23, n2b⟩, n3b⟩ := hnd
 obtain ⟨C, t, mv, h1, h2, h3, h4⟩ := hT.mem
 have hFrb : ∀ k, F k -> ¬ only x.rb k := fun k hk e => (hO.apart k hk).1 e
 obtain ⟨u1, hu1⟩ : ∃ u, u = (rdUvarint s).1 := ⟨_, rfl⟩
 obtain ⟨s1, hs1⟩ : ∃ u, u = (rdUvarint s).2 := ⟨_, rfl⟩
 obtain ⟨sp, hsp⟩ : ∃ u, u = rdSpan u1 s1 := ⟨_, rfl⟩
 have hspF : spanF s = sp := by rw [hsp, hu1, hs1]; rfl
 have hu1r := rdUvarint_in s
 rw [<- hu1] at hu1r
 have ecase : caseF f x.ver x.flex v s = (match f x.ver x.flex (v.1, []) ⟨sp.1.1, sp.1.2, false⟩ with
  | .ok v' s' => .ok (v'.1, v.2) sp.2
  | .early => .early
  | .stuck => .stuck) := by rw [<- hspF]; rfl
 have hns1 : f x.ver x.flex (v.1, []) ⟨sp.1.1, sp.1.2, false⟩ ≠ .stuck := fun e => hns (by show caseF f x.ver x.flex v s = _; rw [ecase, e])
 refine wp_seq (wp_region_lit (wpl_call rfl (Zy hbU rfl) (by rw [show (#[Operand.tmp Γ.b] : Array Operand).map a.eval = #[.pointer (some ⟨x.rb, 0, none⟩)] by simp [Ze, hA.b]]; exact hU w x.rb x.sb s hA.rd) ?_))
 rintro e w1 ⟨rfl, r1, m1⟩
 rw [<- hs1] at r1
 rw [<- hu1]
 refine ⟨_, rfl, Zv rfl (x_convInt (n := u1) (k := .u32) (k' := .i64) hA32 hB64 (by rw [Ze, Zq (hA.lt q0.1)])) ?_⟩
 rw [show IntKind.i64.wrap u1 = u1 by rw [IntKind.wrap_i64]; omega]
 refine wpl_call rfl (Zy hbS rfl) (R := fun e w' => (∃ v, e = .returned v /\ Src w' v x.sb sp.1.1 sp.1.2) /\ Rd w' x.rb x.sb sp.2 /\ Mod (only x.rb) w1 w') ?_ ?_
 ·rw [show ∀ b : Act, (#[Operand.tmp Γ.b, .tmp d1] : Array Operand).map b.eval = #[Act.get b Γ.b, Act.get b d1] from fun b => by simp [Ze]]
  rw [Zq (by rw [Zs]; exact hA.lt q1.1), Zn (Ne.symm (bd q1.1)), Zn (Ne.symm (bd q0.1)), hA.b]
  have := hSp w1 x.rb x.sb u1 s1 r1
  rw [<- hsp] at this
  exact this
 rintro e w2 ⟨⟨sv, rfl, hsrc⟩, r2, m2⟩
 refine ⟨sv, rfl, ?_⟩
 have hA3 := (((hA.world r1 (hA.err.mod m1 (Ne.symm hA.glob))).put q0.1 (.int .u32 u1)).put q1.1 (.int .i64 u1)).world r2 ((hA.err.mod m1 (Ne.symm hA.glob)).mod m2 (Ne.symm hA.glob))
 have hA3' := hA3.put q2.1 sv
 have gs : Act.get (((a.put (some d0) (.int .u32 u1)).put (some d1) (.int .i64 u1)).put (some d2) sv) d2 = sv := Zq (by simp only [Zs]; exact hA.lt q2.1)
 have gp3 : Act.get (((a.put (some d0) (.int .u32 u1)).put (some d1) (.int .i64 u1)).put (some d2) sv) σ.s = .pointer (some ⟨blk, off, none⟩) := by
  rw [Zn q2.2, Zn q1.2, Zn q0.2]; exact hp
 have hsb3 : SameBut (fun t => t = d0 \/ t = d1 \/ t = d2) a (((a.put (some d0) (.int .u32 u1)).put (some d1) (.int .i64 u1)).put (some d2) sv) := (((SameBut.refl a).put (.inl rfl) _).put (.inr (.inl rfl)) _).put (.inr (.inr rfl)) _
 generalize ((a.put (some d0) (.int .u32 u1)).put (some d1) (.int .i64 u1)).put (some d2) sv = a3 at *
 have hcs := src_one hsrc
 obtain ⟨z, hz, hzs⟩ := hR.zero
 refine Zv rfl (x_build (cells := #[sv, .bool false]) ?_) (Zv rfl (x_alloc hz) ?_)
 ·simp only [List.map_toArray, List.map_cons, List.map_nil, Ze, gs]
  exact hR.built sv hcs
 have hone : sv.oneCell' = true := by rcases hsrc with ⟨_, h, _⟩ | ⟨_, off, cap, c, t, fr, h, _⟩ <;> (rw [h]; rfl)
 have hnewb := Zh w2 (.cells z.cells TR)
 refine wpl_skip rfl (x_storeN (cs := #[sv, .bool false]) (b := w2.heap.size) (o := 0) hR.size ?_ ?_ ?_ ?_) (wpList_nil ?_)
 ·rw [Ze, Zq (by simp only [Zs]; exact hA3'.lt qb.1)]
 ·rw [Ze, Zn (Ne.symm n3b), Zq (hA3'.lt q3.1)]
 ·rw [Array.all_eq_true_iff_forall_mem]
  intro q hq
  simp at hq
  rcases hq with rfl | rfl
  ·exact hone
  ·rfl
 ·intro j hj
  rw [Zc hnewb, Zz hnewb, Array.getElem?_eq_getElem (by rw [hzs]; simpa using hj)]
  exact ⟨rfl, rfl⟩
 rw [Zo]
 obtain ⟨hb4, m4⟩ := box_new w2 TR (zc := z.cells) (cs := #[sv, .bool false]) (by rw [hzs]; rfl)
 obtain ⟨rb', hrb'⟩ : ∃ b, b = w2.heap.size := ⟨_, rfl⟩
 rw [<- hrb'] at hb4 m4 ⊢
 generalize (w2.alloc (.cells z.cells TR)).setCells rb' 0 (#[sv, .bool false] : Array Value).toList = w4 at *
 have hlt4 := lt_of_block hb4
 have hle := hO.le
 have z1 := m1.size
 have z2 := m2.size
 have z4 := m4.size
 have hrbB := hO.rbB
 have hsbB := hO.sbB
 have hbkB := hO.blkB
 have hglB := hO.glB
 have m02 : Mod (only x.rb) w w2 := m1.trans m2
 have m04 : Mod (only x.rb) w w4 := m02.trans m4.none
 have hblk4 := m04.some h1 (fun e => hO.rb e)
 -- the tag's own reader
 obtain ⟨F', hF'⟩ : ∃ F' : Nat -> Prop, F' = fun k => F k /\ k ≠ rb' /\ mv ≠ .map (some k) := ⟨_, rfl⟩
 have hF'F : ∀ k, F' k -> F k := fun k hk => by rw [hF'] at hk; exact hk.1
 obtain ⟨a4, ha4⟩ : ∃ a4, a4 = (a3.put (some d3) (.agg #[sv, .bool false])).put (some tb) (.pointer (some ⟨rb', 0, none⟩)) := ⟨_, rfl⟩
 rw [<- ha4]
 have hA4 : Amb Γ x sp.2 a4 w4 := by
  rw [ha4]
  exact ((hA3'.world (r2.mod m4 (fun f => f) (fun f => f)) (hA3'.err.mod m4 (fun f => f))).put q3.1 _).put qb.1 _
 have gb4 : Act.get a4 tb = .pointer (some ⟨rb', 0, none⟩) := by rw [ha4, Zq (by rw [Zs]; exact hA3'.lt qb.1)]
 have gp4 : Act.get a4 σ.s = .pointer (some ⟨blk, off, none⟩) := by rw [ha4, Zn qb.2, Zn q3.2]; exact gp3
 have hsb4 : SameBut (fun t => t = d0 \/ t = d1 \/ t = d2 \/ t = d3 \/ t = tb) a a4 := by
  rw [ha4]
  exact ((hsb3.mono fun t ht => by rcases ht with h | h | h; exact .inl h; exact .inr (.inl h); exact .inr (.inr (.inl h))).put (.inr (.inr (.inr (.inl rfl)))) _).put (.inr (.inr (.inr (.inr rfl)))) _
 have hAin : Amb { Γ with b := tb } { x with rb := rb' } ⟨sp.1.1, sp.1.2, false⟩ a4 w4 :=
  ⟨hA4.size, hA4.defers, gb4, hA4.ver, hA4.uns, hA4.flex, ⟨hlt4, by show rb' ≠ x.sb; omega, sv, TR, hb4, hsrc.mod m4 (fun f => f)⟩, hA4.err, by show rb' ≠ gErr; omega⟩
 have hreps : RepL w4 F' σ.lay (from' C off) v.1 := by
  have hl : ∀ G : Nat -> Prop, (∀ k, G k -> F k) -> RepL w G σ.lay (from' C off) v.1 -> (∀ k, G k -> mv ≠ .map (some k)) -> RepL w4 F' σ.lay (from' C off) v.1 := fun G hG hrep hne =>
   (RepL.lt σ.lay _ _ hrep).mod m04 (fun k hk => hFrb k (hG k hk.1)) (fun k hk => by rw [hF']; exact ⟨hG k hk.1, by have h9 : k < w.heap.size := hk.2; omega, hne k hk.1⟩)
  rcases h4 with ⟨e1, e2, e3⟩ | ⟨r, e1, e2, e3, e4, e5⟩
  ·exact hl F (fun _ h => h) e3 (fun k _ e => by rw [e1] at e; cases e)
  ·exact hl _ (fun _ h => h.1) e5 (fun k hk e => by rw [e2] at e; exact hk.2 (by simpa using e.symm))
 have hCin : Cur { σ with tg := none, sz := o } F' blk off (v.1, []) w4 := ⟨C, t, hblk4, by show off + o <= C.size; omega, hreps, rfl⟩
 have hmvlt : ∀ k, mv = .map (some k) -> B <= k /\ k < w.heap.size := fun k hk => by
  rcases h4 with ⟨e1, _⟩ | ⟨r, e1, e2, e3, _⟩
  ·rw [e1] at hk; cases hk
  ·rw [e2] at hk
   obtain rfl : r = k := by simpa using hk
   exact ⟨e1, e3.old⟩
 have hSin : Sep { x with rb := rb' } F' blk w4 := ⟨fun k hk => by rw [hF'] at hk; exact ⟨hk.2.1, (hO.apart k hk.1).2⟩, fun k hk => by rw [hF']; exact ⟨hO.fresh k (by omega), by omega, fun e => by have := hmvlt k e; omega⟩,
  by rw [hF']; exact ⟨hO.src, by show x.sb ≠ rb'; omega, fun e => by have := hmvlt x.sb e; omega⟩, by show x.sb < w4.heap.size; omega, by show blk ≠ rb'; omega, hO.glob⟩
 refine wp_mono (hb { x with rb := rb' } F' blk off (v.1, []) _ a4 w4 hAin gp4 hCin hSin hns1) ?_
 have hstB : ∀ w', Stp { x with rb := rb' } blk off o w4 w' -> StpB x B blk off σ.sz w w' := fun w' h =>
  ⟨(m04.mono fun _ _ e => .inl e).trans' h.mod (fun _ _ e => e) (fun j hj e => by rcases e with e | e; exact .inr (.inr (by have e' : j = rb' := e; omega)); exact .inr (.inl e)), fun D td hD => by
   obtain ⟨C', k1, k2, k3⟩ := h.out D td (m04.some hD (fun e => hO.rb e))
   exact ⟨C', k1, k2, fun j hj => k3 j (by omega)⟩⟩
 intro e a5 w5 h
 cases e with
 | ret =>
  obtain ⟨k1, k2, k3, k4⟩ := h
  refine ⟨?_, k2, k3, hstB _ k4⟩
  show caseF f x.ver x.flex v s = .early
  rw [ecase, k1]
 | normal =>
  obtain ⟨v', s', k1, k2, k3, k4, k5⟩ := h
  refine ⟨(v'.1, v.2), sp.2, ?_, ?_, ?_, ?_, hstB _ k5, Nat.le_succ _⟩
  ·show caseF f x.ver x.flex v s = _
   rw [ecase, k1]
  ·exact ⟨k2.size, k2.defers, (k4.get _ nb).trans hA4.b, k2.ver, k2.uns, k2.flex, hA4.rd.mod k5.mod (fun e => by rcases e with e | e; (have e' : x.rb = rb' := e; omega); exact hO.rb e.symm) (fun e => by rcases e with e | e; (have e' : x.sb = rb' := e; omega); exact (hO.apart _ hO.src).2 e), k2.err, hA.glob⟩
  ·obtain ⟨C', t', k6, k7, k8, _⟩ := k3.mem
   obtain ⟨C2, j1, j2, j3⟩ := k5.out C t hblk4
   rw [k6] at j1
   obtain ⟨rfl, rfl⟩ : C' = C2 /\ t' = t := by simpa using j1
   refine ⟨C', t', mv, k6, by omega, (j3 (off + o) (.inr (Nat.le_refl _))).trans h3, ?_⟩
   rcases h4 with ⟨e1, e2, e3⟩ | ⟨r, e1, e2, e3, e4, e5⟩
   ·exact .inl ⟨e1, e2, RepL.mod (Mod.refl (S := none') w5) (fun _ _ f => f) hF'F _ _ _ k8⟩
   ·refine .inr ⟨r, e1, e2, ?_, e4, RepL.mod (Mod.refl (S := none') w5) (fun _ _ f => f) (fun k hk => ?_) _ _ _ k8⟩
    ·have hro := e3.old
     refine (e3.lt.mod m04 (fun e => by have e' : r = x.rb := e; omega) (fun k hk => hFrb k hk.1) (fun _ h => h)).mod k5.mod (fun e => by rcases e with e | e; (have e' : r = rb' := e; omega); (have e' : r = blk := e; omega)) (fun k hk e => ?_) (fun _ h => h.1)
     rcases e with e | e
     ·have e' : k = rb' := e
      have := hk.2
      omega
     ·exact (hO.apart k hk.1).2 e
    ·rw [hF'] at hk
     exact ⟨hk.1, fun e => hk.2.2 (by rw [e2, e])⟩
  ·refine (hsb4.mono fun q hq => ?_).trans (k4.mono fun q hq => ?_)
   ·rcases hq with rfl | rfl | rfl | rfl | rfl <;> simp [W, writes]
   ·simp only [W, writes, List.mem_append] at *; exact .inr hq
 | _ => exact h.elim
end
section
variable {P : Program} {Γ : Sl} {σ σ' : St} {f g : FT} {id id' id1 id2 id3 id4 id5 : Nat} {ty ety : Ty} {rd : RS -> Tr × RS} {sa sl si sv sz b0 b1 : Nat} {z : Nat -> Value}
 {y1 y2 y3 y4 y5 y6 y7 y8 y9 : TypeId} {p1 p2 p3 p4 p5 p6 p7 p8 p9 : String} {e1 e2 e3 e4 e5 e6 e7 e8 e9 : Array Edge} {ts ts1 ts2 : Array TypeId} {t1 t2 t3 t4 t5 t6 tb : Nat} {yg yh ym yn : TypeId}
 {i o k T LT UT e : Nat}
/-- sixteen octets, and more behind -/
theorem blk_uuid2 {fu : Nat} {c3 : Code} {g : FT} (hTail : Blk P Γ σ c3 g) (hU : RdC P fu .uuid rd) (hb : bodied P fu = true) (hsz : sized P UT 16 = true) (hz : ∃ z : Value, zeroOf P UT = some z /\ z.cells.size = 16) (hmany : many P UT 16 = true) (hat : σ.lay.at i = some (o, .uuid)) (hok : σ.okAt i o .uuid = true) (hf : fieldOff P T k = some o)
  (hs : (Γ.free t1 && Γ.free tb && t1 != tb && Γ.free t2 && Γ.free t3 && Γ.free t4 && Γ.free t5 && t1 != σ.s && tb != σ.s && t2 != tb && t3 != t2 && t4 != t3 && t5 != t3 && t2 != σ.s && t3 != σ.s && t4 != σ.s && t5 != σ.s) = true) :
  Blk P Γ σ (.seq (.region id1 #[⟨some t1, .call ⟨.value (.func fu), #[.tmp Γ.b], ts⟩, y1, p1, e1, none⟩, ⟨some tb, .alloc UT, y2, p2, e2, none⟩, ⟨none, .store UT (.tmp tb) (.tmp t1), y3, p3, e3, none⟩] false)
   (.seq (.region id2 #[⟨some t2, .move (.tmp σ.s), y4, p4, e4, none⟩, ⟨some t3, .load UT (.tmp tb), y5, p5, e5, none⟩, ⟨some t4, .nilCheck (.tmp t2), y6, p6, e6, none⟩, ⟨some t5, .fieldAddr T (.tmp t4) k, y7, p7, e7, none⟩, ⟨none, .store UT (.tmp t5) (.tmp t3), y8, p8, e8, none⟩] false) c3)) (fun ver fl v s => (putF i (fun _ _ => rd) ver fl v s).then (g ver fl)) := by
 intro x F blk off v s a w hA hp hC hS hns
 simp only [Bool.and_eq_true, bne_iff_ne] at hs
 obtain ⟨⟨⟨⟨⟨⟨⟨⟨⟨⟨⟨⟨⟨⟨⟨⟨f1, fb⟩, n1b⟩, f2⟩, f3⟩, f4⟩, f5⟩, m1⟩, mb⟩, n2b⟩, n32⟩, n43⟩, n53⟩, m2⟩, m3⟩, m4⟩, m5⟩ := hs
 refine wp_seq (wp_mono (box_uuid hU hb hsz hz (by simp [f1, fb, n1b]) hA hS.src hS.fresh) ?_)
 rintro e a1 w1 ⟨rfl, hA1, hsb1, hmod, bb, cs, tyb, hgb, hbb, hcs, hall, hrep, hbbn⟩
 have hS1 := hS.later hmod.size
 have hC1 : Cur σ F blk off v w1 := hC.later hmod hS.rb (fun k hk => (hS.apart k hk).1)
 have hp1 : Act.get a1 σ.s = .pointer (some ⟨blk, off, none⟩) := (hsb1.get _ (by rintro (h | h); exact m1 h.symm; exact mb h.symm)).trans hp
 have z2 := hA1.lt f2
 have z3 := hA1.lt f3
 have z4 := hA1.lt f4
 have z5 := hA1.lt f5
 obtain ⟨C, t, h1, h2, h3, h4⟩ := hC1.mem
 simp only [St.okAt, Bool.and_eq_true] at hok
 have hin := Lay.at_in _ _ _ _ _ _ hok.1.1 hat
 simp only [Ty.size] at hin
 have htg : ∀ q, σ.tg = some q -> q < σ.sz /\ (q < o \/ o + Ty.uuid.size <= q) := fun q hq => by
  have := hok.1.2
  rw [hq] at this
  simpa using this
 have hFb : ∀ k, F k -> k ≠ blk := fun k hk => (hS.apart k hk).2
 refine wp_seq (wp_region_lit (Zv rfl Zm (Zv rfl (x_loadN (cs := cs.toList) (b := bb) (o := 0) (by rw [Array.length_toList, hcs]; exact hmany) (by rw [Ze, Zn n2b, hgb]) (fun j v hv => by rw [Zc hbb, Nat.zero_add]; simpa using hv)) (Zv rfl (x_nilCheck (q := ⟨blk, off, none⟩) ?_) (Zv rfl (Za hf (b := blk) (o0 := off) ?_) ?_)))))
 ·rw [Ze, Zn n32, Zq z2, Ze, hp1]
 ·rw [Ze, Zq (by simp only [Zs]; exact z4)]
 refine wpl_abs (fun a2 => Amb Γ x (rd s).2 a2 w1 /\ SameBut (fun t => t = t2 \/ t = t3 \/ t = t4 \/ t = t5) a1 a2 /\ Act.get a2 t5 = .pointer (some ⟨blk, off + o, none⟩) /\ Act.get a2 t3 = .agg cs) ⟨(((hA1.put f2 _).put f3 _).put f4 _).put f5 _, ((((SameBut.refl a1).put (.inl rfl) _).put (.inr (.inl rfl)) _).put (.inr (.inr (.inl rfl))) _).put (.inr (.inr (.inr rfl))) _, ?_, ?_⟩ ?_
 ·rw [Zq (by simp only [Zs]; exact z5)]
 ·rw [Zn n53, Zn n43, Zq (by simp only [Zs]; exact z3)]
 rintro a2 ⟨hA2, hsb2, hg5, hg3⟩
 refine wpl_skip rfl (x_storeN (cs := cs) (b := blk) (o := off + o) (by rw [hcs]; exact hsz) (by rw [Ze, hg5]) (by rw [Ze, hg3]) hall ?_) (wpList_nil ?_)
 ·intro j hj
  rw [Zc h1, Zz h1, Array.getElem?_eq_getElem (by omega)]
  exact ⟨rfl, rfl⟩
 rw [Zo]
 obtain ⟨C', g1, g2, g3, g4⟩ := heap_setCells (w := w1) cs.toList (off + o) C h1
 simp only [Array.length_toList] at g3 g4
 have hm2 := mod_setCells blk w1 (off + o) cs.toList
 have hA4 : Amb Γ x (rd s).2 a2 (w1.setCells blk (off + o) cs.toList) := hA2.world (hA2.rd.mod hm2 (fun e => hS.rb e.symm) (fun e => (hS.apart _ hS.src).2 e)) (hA2.err.mod hm2 (fun e => hS.glob e.symm))
 have hC4 : Cur σ F blk off (v.1.set i (rd s).1, v.2) (w1.setCells blk (off + o) cs.toList) := by
  refine cur_store hok.1.1 htg hat hC1 hFb hm2 h1 g1 g2 (fun j hj => g4 j (by simp only [Ty.size] at hj; omega)) ?_
  refine Rep.congr .uuid (from' cs 0) _ _ rfl (fun j hj => ?_) hrep
  simp only [Ty.size] at hj
  have h5 := g3 j (by omega) (by omega)
  refine get_from' ?_
  rw [<- Nat.add_assoc, h5]
  simp [from', show j < cs.size by omega]
 have hst4 : Stp x blk off σ.sz w (w1.setCells blk (off + o) cs.toList) := by
  refine (Stp.of_rd hmod hS.rb).trans ⟨hm2.mono fun _ _ e => .inr e, fun D td hD => ?_⟩
  rw [h1] at hD
  obtain ⟨rfl, rfl⟩ : C = D /\ t = td := by simpa using hD
  exact ⟨C', g1, g2, fun j hj => g4 j (by omega)⟩
 have hp4 : Act.get a2 σ.s = .pointer (some ⟨blk, off, none⟩) := (hsb2.get _ (by rintro (h | h | h | h); exact m2 h.symm; exact m3 h.symm; exact m4 h.symm; exact m5 h.symm)).trans hp1
 have hS4 : Sep x F blk (w1.setCells blk (off + o) cs.toList) := hS1.later hm2.size
 generalize w1.setCells blk (off + o) cs.toList = w4 at *
 have hns' : g x.ver x.flex (v.1.set i (rd s).1, v.2) (rd s).2 ≠ .stuck := hns
 refine wp_mono (hTail x F blk off _ _ a2 w4 hA4 hp4 hC4 hS4 hns') ?_
 intro e a5 w5 h
 cases e with
 | normal =>
  obtain ⟨v', s', r1, r2, r3, r4, r5⟩ := h
  refine ⟨v', s', r1, r2, r3, ((hsb1.mono fun t ht => ?_).trans (hsb2.mono fun t ht => ?_)).trans (r4.mono fun t ht => ?_), hst4.trans r5⟩
  ·rcases ht with rfl | rfl <;> simp [W, writes]
  ·rcases ht with rfl | rfl | rfl | rfl <;> simp [W, writes]
  ·simp only [W, writes, List.mem_append] at *; exact .inr (.inr ht)
 | ret => exact ⟨h.1, h.2.1, h.2.2.1, hst4.trans h.2.2.2⟩
 | _ => exact h.elim
end
end Go.Proofs.YtcldbjehliladaaDoor
