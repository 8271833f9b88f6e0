/-
  Tags that a message knows: a tag that is not known is put aside; one that is known is read out of its own octets.
-/
import Derived.Test.YtcldbjehliladaaDoorPKn
set_option linter.unusedSimpArgs false
set_option linter.unusedVariables false
namespace Go.Proofs.YtcldbjehliladaaDoor
open Go Go.RowKit
theorem Src.inj {w : World} {v : Value} {sb : Nat} {bs bs' : List UInt8} {nil nil' : Bool} (h : Src w v sb bs nil) (h' : Src w v sb bs' nil') : bs = bs' /\ nil = nil' := by
 rcases h with ⟨a1, a2, a3⟩ | ⟨a1, off, cap, c, t, fr, a2, a3, a4, a5, a6⟩ <;> rcases h' with ⟨b1, b2, b3⟩ | ⟨b1, off', cap', c', t', fr', b2, b3, b4, b5, b6⟩
 ·exact ⟨a3.trans b3.symm, a1.trans b1.symm⟩
 ·rw [a2] at b2; simp at b2
 ·rw [a2] at b2; simp at b2
 ·rw [a2] at b2
  obtain ⟨rfl, hl, _⟩ : off = off' /\ bs.length = bs'.length /\ cap = cap' := by simpa using b2
  rw [a5] at b5
  obtain ⟨rfl, _⟩ : c = c' /\ _ := by simpa using b5
  refine ⟨List.ext_getElem hl fun i h1 h2 => ?_, a1.trans b1.symm⟩
  have e := (a6 i h1).symm.trans (b6 i h2)
  have e2 : ((bs[i]).toNat : Int) = ((bs'[i]).toNat : Int) := by simpa using e
  exact UInt8.toNat_inj.1 (by omega)
theorem Rd.inj {w : World} {rb sb : Nat} {s s' : RS} (h : Rd w rb sb s) (h' : Rd w rb sb s') : s = s' := by
 obtain ⟨_, _, src, t, hb, hs⟩ := h
 obtain ⟨_, _, src', t', hb', hs'⟩ := h'
 rw [hb] at hb'
 obtain ⟨⟨rfl, hbad⟩, _⟩ : (src = src' /\ s.bad = s'.bad) /\ t = t' := by simpa using hb'
 obtain ⟨h1, h2⟩ := hs.inj hs'
 cases s; cases s'
 simp_all
theorem span_back {s : RS} (h : s = (rdSpan (rdUvarint s).1 (rdUvarint s).2).2) : (rdUvarint s).2 = s := by
 have hu : (rdUvarint s).2 = RS.fail \/ ∃ k, (rdUvarint s).2 = s.skip k := by
  unfold rdUvarint; split
  ·exact .inl rfl
  ·exact .inr ⟨_, rfl⟩
 have hp : (rdSpan (rdUvarint s).1 (rdUvarint s).2).2 = RS.fail \/ ∃ j, (rdSpan (rdUvarint s).1 (rdUvarint s).2).2 = (rdUvarint s).2.skip j := by
  unfold rdSpan; split
  ·exact .inl rfl
  ·exact .inr ⟨_, rfl⟩
 have ff : ∀ k, RS.fail.skip k = RS.fail := fun k => by simp [RS.fail, RS.skip]
 rcases hp with hp | ⟨j, hp⟩
 ·rw [hp] at h
  rcases hu with hu | ⟨k, hu⟩
  ·rw [hu, <- h]
  ·rw [hu]
   have : s.skip k = RS.fail := by rw [h]; exact ff k
   rw [this, <- h]
 ·rw [hp] at h
  rcases hu with hu | ⟨k, hu⟩
  ·rw [hu, ff] at h
   rw [hu, <- h]
  ·rw [hu] at h ⊢
   have hb : s.bs = (s.bs.drop k).drop j := by
    have := congrArg RS.bs h
    simpa [RS.skip] using this
   have hl : s.bs.length = s.bs.length - k - j := by
    have := congrArg List.length hb
    simpa [Nat.sub_sub] using this
   have hd : s.bs.drop k = s.bs := by
    by_cases hk : k = 0
    ·rw [hk]; rfl
    ·have h0 : s.bs = [] := List.eq_nil_of_length_eq_zero (by omega)
     rw [h0]; simp
   cases s with
   | mk bs nil bad =>
    simp only [RS.skip] at hd ⊢
    rw [hd]
/-- how the reader turns within such a region -/
def rI (rb sb : Nat) (s1 s2 : RS) : Nat -> World -> World -> Prop
 | 4, a, b => Mod (only rb) a b /\ Rd b rb sb s1
 | 6, a, b => Mod (only rb) a b /\ Rd b rb sb s2
 | _, a, b => Mod none' a b
def r0 (rb sb : Nat) (s s1 : RS) : Nat -> World -> World -> Prop
 | 4, a, b => Mod none' a b
 | 6, a, b => Mod (only rb) a b /\ ((Rd a rb sb s \/ Rd a rb sb s1) -> (Rd b rb sb s \/ Rd b rb sb s1))
 | _, _, _ => True
theorem r0_other {rb sb p : Nat} {s s1 : RS} {a b : World} (h4 : p ≠ 4) (h6 : p ≠ 6) : r0 rb sb s s1 p a b := by
 unfold r0
 split
 ·exact (h4 rfl).elim
 ·exact (h6 rfl).elim
 ·trivial
section
variable {P : Program} {Γ : Sl} {σ : St} {o : Nat} {ks : List Nat} {id : Nat}
 {y0 y1 y2 y3 y4 y5 y6 y7 : TypeId} {p0 p1 p2 p3 p4 p5 p6 p7 : String} {ts0 ts1 ts2 : Array TypeId}
set_option maxHeartbeats 1000000 in
/-- a tag that is not known -/
theorem sw_set {T kf kk d0 d1 d2 d3 d4 d5 d6 d7 fU fS fSet tA tB : Nat} (hord : P.follows .mixedOrders = true) (hU : UvC P fU) (hSp : SpC P fS) (hSet : SetTagC P fSet) (hbU : bodied P fU = true) (hbS : bodied P fS = true) (hbT : bodied P fSet = true) (hf : fieldOff P T kf = some o) (hA32 : intTy P tA .u32 = true) (hB64 : intTy P tB .i64 = true) (hlay : σ.lay.ok 0 o = true) (ho : o < σ.sz)
    (hs : (ks.contains kk && [d0, d1, d2, d3, d4, d5, d6].all (fun d => Γ.free d && d != σ.s && !ks.contains d) && decide ([d0, d1, d2, d3, d4, d5, d6] : List Nat).Nodup && Γ.free d7 && d7 != σ.s) = true) :
    BlkK P Γ σ o (.region id #[⟨some d0, .move (.tmp σ.s), y0, p0, #[], none⟩, ⟨some d1, .nilCheck (.tmp d0), y1, p1, #[⟨0, .data⟩], none⟩, ⟨some d2, .fieldAddr T (.tmp d1) kf, y2, p2, #[⟨1, .data⟩], none⟩, ⟨some d3, .move (.tmp kk), y3, p3, #[], none⟩,
      ⟨some d4, .call ⟨.value (.func fU), #[.tmp Γ.b], ts0⟩, y4, p4, #[], none⟩, ⟨some d5, .convert tA tB (.tmp d4), y5, p5, #[⟨4, .data⟩], none⟩, ⟨some d6, .call ⟨.value (.func fS), #[.tmp Γ.b, .tmp d5], ts1⟩, y6, p6, #[⟨5, .data⟩, ⟨4, .chain⟩], none⟩,
      ⟨some d7, .call ⟨.value (.func fSet), #[.tmp d2, .tmp d3, .tmp d6], ts2⟩, y7, p7, #[⟨2, .data⟩, ⟨3, .data⟩, ⟨6, .data⟩, ⟨6, .chain⟩], none⟩] true) ks setF := by
  intro key B x F blk off v s a w hk0 hk1 hks hO hv hA hp hT _
  simp only [Bool.and_eq_true, List.all_eq_true, bne_iff_ne, decide_eq_true_eq, Bool.not_eq_true', List.contains_eq_mem, decide_eq_false_iff_not] at hs
  obtain ⟨⟨⟨⟨qk, hdl⟩, hnd⟩, f7⟩, n7⟩ := hs
  obtain ⟨C, t, mv, h1, h2, h3, h4⟩ := hT.mem
  have hTR : TagsR w F mv v.2 := by
    rcases h4 with ⟨e1, e2, _⟩ | ⟨r, e1, e2, e3, e4, _⟩
    · exact .inl ⟨e1, e2⟩
    · rw [e2]; exact TagsR.of_map e3 (hO.fresh r e1) e4
  have hFrb : ∀ k, F k -> ¬ only x.rb k := fun k hk e => (hO.apart k hk).1 e
  have hsd : ∀ d ∈ [d0, d1, d2, d3, d4, d5, d6], σ.s ≠ d := fun d hd => Ne.symm (hdl d hd).1.2
  have hbd : ∀ d ∈ [d0, d1, d2, d3, d4, d5, d6], Γ.b ≠ d := fun d hd => (Sl.free_spec (hdl d hd).1.1).2.1
  have hs0 : σ.s ∉ [d0, d1, d2, d3, d4, d5, d6] := fun h => hsd _ h rfl
  have hb0 : Γ.b ∉ [d0, d1, d2, d3, d4, d5, d6] := fun h => hbd _ h rfl
  have hk0' : kk ∉ [d0, d1, d2, d3, d4, d5, d6] := fun h => (hdl _ h).2 qk
  obtain ⟨u1, hu1⟩ : ∃ u, u = (rdUvarint s).1 := ⟨_, rfl⟩
  obtain ⟨s1, hs1⟩ : ∃ u, u = (rdUvarint s).2 := ⟨_, rfl⟩
  obtain ⟨sp, hsp⟩ : ∃ u, u = rdSpan u1 s1 := ⟨_, rfl⟩
  have hspF : spanF s = sp := by rw [hsp, hu1, hs1]; rfl
  have hu1r := rdUvarint_in s
  rw [<- hu1] at hu1r
  have hback : s = sp.2 -> s1 = s := fun h => by rw [hs1]; exact span_back (by rw [<- hu1, <- hs1, <- hsp]; exact h)
  have hsbrb : x.sb ≠ x.rb := (hO.apart _ hO.src).1
  have rdm : ∀ {a b : World} {q : RS}, Mod none' a b -> Rd a x.rb x.sb q -> Rd b x.rb x.sb q := fun hm h => h.mod hm (fun f => f) (fun f => f)
  refine region_rl2 (l := [_, _, _, _, _, _, _]) (tl := [_]) hord (Mod (only x.rb)) (Mod.refl w).drew (fun _ _ _ h h' => h.trans h') [d0, d1, d2, d3, d4, d5, d6]
    [fun v _ => v = .pointer (some ⟨blk, off, none⟩), fun v _ => v = .pointer (some ⟨blk, off, none⟩), fun v _ => v = .pointer (some ⟨blk, off + o, none⟩), fun v _ => v = .int .u32 key,
     fun v w' => v = .int .u32 u1 /\ (Rd w' x.rb x.sb s1 \/ Rd w' x.rb x.sb sp.2), fun v _ => v = .int .i64 u1, fun v w' => Src w' v x.sb sp.1.1 sp.1.2 /\ Rd w' x.rb x.sb sp.2]
    (rI x.rb x.sb s1 sp.2) (r0 x.rb x.sb s s1) ?_ ?_ ?_ ?_ ?_ (by simp [regFormT]) hnd (fun d hd => hA.lt (hdl d hd).1.1) (by simp) (by kernel_rfl) ⟨?_, ?_, ?_, ?_, ?_, ?_, ?_, trivial⟩ ?_
  · intro p
    by_cases p4 : p = 4
    · subst p4; exact ((Mod.refl w).drew : Mod none' w w.drew)
    by_cases p6 : p = 6
    · subst p6; exact (⟨(Mod.refl w).drew, fun h => h.imp (rdm (Mod.refl w).drew) (rdm (Mod.refl w).drew)⟩ : Mod (only x.rb) w w.drew /\ ((Rd w x.rb x.sb s \/ Rd w x.rb x.sb s1) -> (Rd w.drew x.rb x.sb s \/ Rd w.drew x.rb x.sb s1)))
    exact r0_other p4 p6
  · intro p a b c h h'
    by_cases p4 : p = 4
    · subst p4; exact Mod.trans (show Mod none' a b from h) (show Mod none' b c from h')
    by_cases p6 : p = 6
    · subst p6
      obtain ⟨g1, g2⟩ : Mod (only x.rb) a b /\ ((Rd a x.rb x.sb s \/ Rd a x.rb x.sb s1) -> (Rd b x.rb x.sb s \/ Rd b x.rb x.sb s1)) := h
      obtain ⟨g3, g4⟩ : Mod (only x.rb) b c /\ ((Rd b x.rb x.sb s \/ Rd b x.rb x.sb s1) -> (Rd c x.rb x.sb s \/ Rd c x.rb x.sb s1)) := h'
      exact (⟨g1.trans g3, fun q => g4 (g2 q)⟩ : Mod (only x.rb) a c /\ _)
    exact r0_other p4 p6
  · intro p i o' a b hio hip he hr
    have hi : i < 7 := by
      have := (List.getElem?_eq_some_iff.1 hio).1
      simpa using this
    have h7 : i = 0 \/ i = 1 \/ i = 2 \/ i = 3 \/ i = 4 \/ i = 5 \/ i = 6 := by omega
    have key1 : ∀ (hm : Mod none' a b), r0 x.rb x.sb s s1 p a b := fun hm => by
      unfold r0
      split
      · exact hm
      · exact ⟨hm.none, fun h => h.imp (rdm hm) (rdm hm)⟩
      · trivial
    rcases h7 with rfl | rfl | rfl | rfl | rfl | rfl | rfl
    · exact key1 hr
    · exact key1 hr
    · exact key1 hr
    · exact key1 hr
    · unfold r0
      split
      · exact (hip rfl).elim
      · exact ⟨hr.1, fun _ => .inr hr.2⟩
      · trivial
    · exact key1 hr
    · simp at hio
      subst hio
      unfold r0
      split
      · exact (he ⟨4, .chain⟩ (by simp) (by kernel_rfl) rfl).elim
      · exact (hip rfl).elim
      · trivial
  · intro i a b hr
    unfold rI at hr
    split at hr
    · exact hr.1
    · exact hr.1
    · exact hr.none
  · intro i j o' u wa wb hio hj hij he hg hr
    have hi : i < 7 := by
      have := (List.getElem?_eq_some_iff.1 hio).1
      simpa using this
    have hj : j < 7 := by simpa using hj
    have h7 : i = 0 \/ i = 1 \/ i = 2 \/ i = 3 \/ i = 4 \/ i = 5 \/ i = 6 := by omega
    have j7 : j = 0 \/ j = 1 \/ j = 2 \/ j = 3 \/ j = 4 \/ j = 5 \/ j = 6 := by omega
    rcases h7 with rfl | rfl | rfl | rfl | rfl | rfl | rfl
    · exact hg
    · exact hg
    · exact hg
    · exact hg
    · refine ⟨hg.1, ?_⟩
      rcases j7 with rfl | rfl | rfl | rfl | rfl | rfl | rfl
      · exact hg.2.imp (rdm hr) (rdm hr)
      · exact hg.2.imp (rdm hr) (rdm hr)
      · exact hg.2.imp (rdm hr) (rdm hr)
      · exact hg.2.imp (rdm hr) (rdm hr)
      · exact (hij rfl).elim
      · exact hg.2.imp (rdm hr) (rdm hr)
      · exact .inr hr.2
    · exact hg
    · have k1 : ∀ hm : Mod none' wa wb, Src wb u x.sb sp.1.1 sp.1.2 /\ Rd wb x.rb x.sb sp.2 := fun hm => ⟨hg.1.mod hm (fun f => f), rdm hm hg.2⟩
      rcases j7 with rfl | rfl | rfl | rfl | rfl | rfl | rfl
      · exact k1 hr
      · exact k1 hr
      · exact k1 hr
      · exact k1 hr
      · simp at hio
        subst hio
        exact (he ⟨4, .chain⟩ (by simp) (by kernel_rfl) rfl).elim
      · exact k1 hr
      · exact (hij rfl).elim
  · intro a1 w1 hr h0 hsm hd
    exact Zw (x_moveV ((hsm.get σ.s hs0).trans hp)) ⟨_, rfl, (.refl _ : Mod none' w1 w1), rfl⟩
  · intro a1 w1 hr h0 hsm hd
    have q : Act.get a1 d0 = .pointer (some ⟨blk, off, none⟩) := hd ⟨0, .data⟩ (by simp) rfl
    exact Zw (x_nilCheck (q := ⟨blk, off, none⟩) (by rw [Ze]; exact q)) ⟨_, rfl, (.refl _ : Mod none' w1 w1), rfl⟩
  · intro a1 w1 hr h0 hsm hd
    have q : Act.get a1 d1 = .pointer (some ⟨blk, off, none⟩) := hd ⟨1, .data⟩ (by simp) rfl
    exact Zw (Za hf (b := blk) (o0 := off) (by rw [Ze]; exact q)) ⟨_, rfl, (.refl _ : Mod none' w1 w1), rfl⟩
  · intro a1 w1 hr h0 hsm hd
    exact Zw (x_moveV ((hsm.get kk hk0').trans (hks kk qk))) ⟨_, rfl, (.refl _ : Mod none' w1 w1), rfl⟩
  · intro a1 w1 hr h0 hsm hd
    have hm : Mod none' w w1 := h0
    have e1 : (#[Operand.tmp Γ.b] : Array Operand).map a1.eval = #[.pointer (some ⟨x.rb, 0, none⟩)] := by simp [Ze, (hsm.get Γ.b hb0).trans hA.b]
    refine owp_call (Zy hbU rfl) (by rw [e1]; exact hU w1 x.rb x.sb s (rdm hm hA.rd)) ?_
    rintro e w2 ⟨rfl, g1, g2⟩
    rw [<- hs1] at g1
    exact ⟨_, rfl, _, rfl, (⟨g2, g1⟩ : Mod (only x.rb) w1 w2 /\ Rd w2 x.rb x.sb s1), by rw [<- hu1], .inl g1⟩
  · intro a1 w1 hr h0 hsm hd
    obtain ⟨q, _⟩ : Act.get a1 d4 = .int .u32 u1 /\ (Rd w1 x.rb x.sb s1 \/ Rd w1 x.rb x.sb sp.2) := hd ⟨4, .data⟩ (by simp) rfl
    refine Zw (x_convInt (n := u1) (k := .u32) (k' := .i64) hA32 hB64 (by rw [Ze]; exact q)) ⟨_, rfl, (.refl _ : Mod none' w1 w1), ?_⟩
    show Value.int .i64 (IntKind.i64.wrap u1) = .int .i64 u1
    rw [IntKind.wrap_i64]
    congr 1; omega
  · intro a1 w1 hr h0 hsm hd
    have q5 : Act.get a1 d5 = .int .i64 u1 := hd ⟨5, .data⟩ (by simp) rfl
    obtain ⟨_, q4⟩ : Act.get a1 d4 = .int .u32 u1 /\ (Rd w1 x.rb x.sb s1 \/ Rd w1 x.rb x.sb sp.2) := hd ⟨4, .chain⟩ (by simp) rfl
    have h6 : Mod (only x.rb) w w1 /\ ((Rd w x.rb x.sb s \/ Rd w x.rb x.sb s1) -> (Rd w1 x.rb x.sb s \/ Rd w1 x.rb x.sb s1)) := h0
    have hR : Rd w1 x.rb x.sb s1 := by
      rcases h6.2 (.inl hA.rd) with h | h
      · rcases q4 with h' | h'
        · exact h'
        · rw [hback (h.inj h')]; exact h
      · exact h
    have e1 : (#[Operand.tmp Γ.b, .tmp d5] : Array Operand).map a1.eval = #[.pointer (some ⟨x.rb, 0, none⟩), .int .i64 u1] := by simp [Ze, (hsm.get Γ.b hb0).trans hA.b, q5]
    refine owp_call (Zy hbS rfl) (by rw [e1]; exact hSp w1 x.rb x.sb u1 s1 hR) ?_
    rintro e w2 ⟨⟨u, rfl, g0⟩, g1, g2⟩
    rw [<- hsp] at g0 g1
    exact ⟨_, rfl, _, rfl, (⟨g2, g1⟩ : Mod (only x.rb) w1 w2 /\ Rd w2 x.rb x.sb sp.2), g0, g1⟩
  · intro a1 w1 hr hsm hh
    have q2 : Act.get a1 d2 = .pointer (some ⟨blk, off + o, none⟩) := hh 2 (by simp)
    have q3 : Act.get a1 d3 = .int .u32 key := hh 3 (by simp)
    obtain ⟨q6, qR⟩ : Src w1 (Act.get a1 d6) x.sb sp.1.1 sp.1.2 /\ Rd w1 x.rb x.sb sp.2 := hh 6 (by simp)
    have hblk1 := hr.some h1 (fun e => hO.rb e)
    have hTR1 : TagsR w1 F mv v.2 := hTR.mod hr hFrb (fun _ h => h)
    have ee : (#[Operand.tmp d2, .tmp d3, .tmp d6] : Array Operand).map a1.eval = #[.pointer (some ⟨blk, off + o, none⟩), .int .u32 key, Act.get a1 d6] := by simp [Ze, q2, q3]
    have hsz1 := hr.size
    have hle := hO.le
    have hlenS : sp.1.1.length <= 4294967295 := by
      rw [hsp]; unfold rdSpan
      split
      · simp
      · simp; omega
    refine wpl_call rfl (Zy hbT rfl) (by rw [ee]; exact hSet w1 blk (off + o) C t F mv v.2 key (Act.get a1 d6) sp.1.1 sp.1.2 hblk1 h3 hTR1 (fun h => (hO.apart _ h).2 rfl) (hO.fresh _ (by omega)) ⟨hk0, hk1⟩ (.inl ⟨x.sb, .inr hO.src, q6⟩) hv hlenS) ?_
    rintro e w2 ⟨r', rfl, r, hFr, hr0, hm, ⟨C', k1, k2, k3, k4⟩, hM'⟩
    have hrB : B <= r /\ r < w2.heap.size := by
      refine ⟨?_, hM'.old⟩
      rcases hr0 with hr0 | ⟨_, hr0⟩
      · rcases h4 with ⟨e1, _⟩ | ⟨r1, e1, e2, _⟩
        · rw [e1] at hr0; cases hr0
        · rw [e2] at hr0
          have : r1 = r := by simpa using hr0
          omega
      · omega
    have hrne : r ≠ blk /\ r ≠ x.rb /\ r ≠ x.sb /\ r ≠ gErr := by have := hO.blkB; have := hO.rbB; have := hO.sbB; have := hO.glB; exact ⟨by omega, by omega, by omega, by omega⟩
    have hA2 : Amb Γ x sp.2 a1 w2 := by
      have hAs : Amb Γ x sp.2 a w2 := hA.world (qR.mod hm (fun e => by rcases e with e | e; exact hO.rb e.symm; exact hrne.2.1 e.symm) (fun e => by rcases e with e | e; exact (hO.apart _ hO.src).2 e; exact hrne.2.2.1 e.symm)) ((hA.err.mod hr (Ne.symm hA.glob)).mod hm (fun e => by rcases e with e | e; exact hO.glob e.symm; exact hrne.2.2.2 e.symm))
      have gg : ∀ q, (∀ d ∈ [d0, d1, d2, d3, d4, d5, d6], q ≠ d) -> Act.get a1 q = Act.get a q := fun q hq => hsm.get q (fun h => hq _ h rfl)
      exact ⟨hsm.size.trans hAs.size, hsm.defers.trans hAs.defers, (gg _ hbd).trans hAs.b, (gg _ (fun d hd => (Sl.free_spec (hdl d hd).1.1).2.2.1)).trans hAs.ver, (gg _ (fun d hd => (Sl.free_spec (hdl d hd).1.1).2.2.2.1)).trans hAs.uns, fun f hf => (gg _ (fun d hd => (Sl.free_spec (hdl d hd).1.1).2.2.2.2 f hf)).trans (hAs.flex f hf), hAs.rd, hAs.err, hAs.glob⟩
    have hcong : ∀ (wx : World) (G : Nat -> Prop), RepL wx G σ.lay (from' C off) v.1 -> RepL wx G σ.lay (from' C' off) v.1 := fun wx G h =>
      RepL.congr σ.lay 0 o _ _ _ hlay (fun j _ hj => by simp only [from', Array.getD_eq_getD_getElem?]; rw [k4 _ (by omega)]) h
    refine ⟨_, rfl, wpList_nil ⟨(v.1, setTag v.2 key sp.1.1), sp.2, by simp only [setF, hspF], hA2.put f7 _, ⟨C', t, .map (some r), k1, by omega, k3, .inr ⟨r, hrB.1, rfl, hM', setTag_ne _ _ _, ?_⟩⟩, ?_, ⟨(hr.mono fun _ _ e => .inl e).trans (hm.mono fun i _ e => by rcases e with e | e; exact .inr (.inl e); exact .inr (.inr (by omega))), fun D td hD => ?_⟩, setTag_len _ _ _⟩⟩
    · have hl : ∀ G : Nat -> Prop, (∀ k, G k -> F k) -> RepL w G σ.lay (from' C off) v.1 -> (∀ k, G k -> k < w.heap.size -> k ≠ r) -> RepL w2 (fun k => F k /\ k ≠ r) σ.lay (from' C' off) v.1 := fun G hG hrep hne => by
        have h5 : RepL w (fun k => G k /\ k < w.heap.size) σ.lay (from' C off) v.1 := RepL.lt σ.lay _ _ hrep
        refine hcong _ _ ((h5.mod hr (fun k hk => hFrb k (hG k hk.1)) (fun _ h => h)).mod hm (fun k hk e => ?_) (fun k hk => ⟨hG k hk.1, hne k hk.1 hk.2⟩))
        rcases e with e | e
        · exact (hO.apart _ (hG k hk.1)).2 e
        · exact hne k hk.1 hk.2 e
      rcases h4 with ⟨e1, e2, e3⟩ | ⟨r1, e1, e2, e3, e4, e5⟩
      · refine hl F (fun _ h => h) e3 (fun k hk hlt e => ?_)
        rcases hr0 with hr0 | ⟨_, hr0⟩
        · rw [e1] at hr0; cases hr0
        · omega
      · refine hl (fun k => F k /\ k ≠ r1) (fun _ h => h.1) e5 (fun k hk hlt e => ?_)
        rcases hr0 with hr0 | ⟨hr0, _⟩
        · rw [e2] at hr0
          have : r1 = r := by simpa using hr0
          exact hk.2 (e.trans this.symm)
        · rw [e2] at hr0; cases hr0
    · refine (hsm.mono fun q hq => ?_).put (by simp [W, writes]) _
      simp only [List.mem_cons, List.not_mem_nil, or_false] at hq
      rcases hq with rfl | rfl | rfl | rfl | rfl | rfl | rfl <;> simp [W, writes]
    · rw [h1] at hD
      obtain ⟨rfl, rfl⟩ : C = D /\ t = td := by simpa using hD
      exact ⟨C', k1, k2, fun j hj => k4 j (by omega)⟩
end
end Go.Proofs.YtcldbjehliladaaDoor
