/-
  Tags that a message knows: they are read out of octets of their own, within a loop that asks for each tag's number.
-/
import Derived.Test.YtcldbjehliladaaDoorPRu
import Derived.Test.YtcldbjehliladaaDoorPMsgT
import Derived.Test.YtcldbjehliladaaDoorPKg
set_option linter.unusedSimpArgs false
set_option linter.unusedVariables false
namespace Go.Proofs.YtcldbjehliladaaDoor
open Go Go.RowKit
/-- the octets of a tag -/
def spanF (s : RS) : (List UInt8 × Bool) × RS := rdSpan (rdUvarint s).1 (rdUvarint s).2
/-- what a known tag's octets are read to -/
def caseF (f : FT) : FT := fun ver fl v s => match f ver fl (v.1, []) ⟨(spanF s).1.1, (spanF s).1.2, false⟩ with
 | .ok v' s' => .ok (v'.1, v.2) (spanF s).2
 | .early => .early
 | .stuck => .stuck
def setF (key : Int) : FT := fun _ _ v s => .ok (v.1, setTag v.2 key (spanF s).1.1) (spanF s).2
def swF (n : Int) (f : FT) (g : Int -> FT) : Int -> FT := fun key => if key = n then f else g key
def loopF (g : Int -> FT) (ver : Int) (fl : Bool) : Nat -> SV -> RS -> R SV
 | 0, v, s => .ok v s
 | n + 1, v, s => (g (rdUvarint s).1 ver fl v (rdUvarint s).2).then (loopF g ver fl n)
/-- all tags, into a struct that has none -/
def tagsF (g : Int -> FT) : FT := fun ver fl v s => if v.2 = [] then loopF g ver fl (rdUvarint s).1.toNat v (rdUvarint s).2 else .stuck
/-- a struct whose tags are being read: the map is younger than all that is asked of -/
structure TC (σ : St) (o B : Nat) (F : Nat -> Prop) (blk off : Nat) (v : SV) (w : World) : Prop where
 mem : ∃ C t mv, w.heap[blk]? = some (.cells C t (0, 0)) /\ off + σ.sz <= C.size /\ C[off + o]? = some mv /\
  ((mv = .map none /\ v.2 = [] /\ RepL w F σ.lay (from' C off) v.1) \/ ∃ r, B <= r /\ mv = .map (some r) /\ MapAt w F r v.2 /\ v.2 ≠ [] /\ RepL w (fun k => F k /\ k ≠ r) σ.lay (from' C off) v.1)
/-- what has turned since -/
structure StpB (x : Cx) (B blk off sz : Nat) (w w' : World) : Prop where
 mod : Mod (fun k => k = x.rb \/ k = blk \/ B <= k) w w'
 out : ∀ C t, w.heap[blk]? = some (.cells C t (0, 0)) -> ∃ C', w'.heap[blk]? = some (.cells C' t (0, 0)) /\ C'.size = C.size /\ ∀ j, j < off \/ off + sz <= j -> C'[j]? = C[j]?
theorem StpB.refl {x : Cx} {B blk off sz : Nat} (w : World) : StpB x B blk off sz w w := ⟨.refl w, fun C t h => ⟨C, h, rfl, fun _ _ => rfl⟩⟩
theorem StpB.trans {x : Cx} {B blk off sz : Nat} {a b c : World} (h : StpB x B blk off sz a b) (k : StpB x B blk off sz b c) : StpB x B blk off sz a c :=
 ⟨h.mod.trans k.mod, fun C t hc => by
  obtain ⟨C', h1, h2, h3⟩ := h.out C t hc
  obtain ⟨C'', k1, k2, k3⟩ := k.out C' t h1
  exact ⟨C'', k1, k2.trans h2, fun j hj => (k3 j hj).trans (h3 j hj)⟩⟩
theorem StpB.of_rd {x : Cx} {B blk off sz : Nat} {a b : World} (h : Mod (only x.rb) a b) (hne : blk ≠ x.rb) : StpB x B blk off sz a b :=
 ⟨h.mono fun _ _ e => .inl e, fun C t hc => ⟨C, h.some hc hne, rfl, fun _ _ => rfl⟩⟩
theorem MapAt.mod {w w' : World} {F F' S : Nat -> Prop} {r : Nat} {u : Tags} (h : MapAt w F r u) (hm : Mod S w w') (hr : ¬ S r) (hs : ∀ k, F k -> ¬ S k) (hf : ∀ k, F k -> F' k) : MapAt w' F' r u := by
 obtain ⟨es, clock, k1, k2, k3, k4, kb, k5, k6, k7, k8⟩ := h
 refine ⟨es, clock, hm.some k1 hr, k2, k3, k4, kb, k5, k6, k7, fun i hi => ?_⟩
 obtain ⟨e, nil, g1, g2, g3, g4⟩ := k8 i hi
 exact ⟨e, nil, g1, g2, g3.mod hm hs hf, g4⟩
theorem MapAt.lt {w : World} {F : Nat -> Prop} {r : Nat} {u : Tags} (h : MapAt w F r u) : MapAt w (fun k => F k /\ k < w.heap.size) r u := by
 obtain ⟨es, clock, k1, k2, k3, k4, kb, k5, k6, k7, k8⟩ := h
 refine ⟨es, clock, k1, k2, k3, k4, kb, k5, k6, k7, fun i hi => ?_⟩
 obtain ⟨e, nil, g1, g2, g3, g4⟩ := k8 i hi
 exact ⟨e, nil, g1, g2, g3.lt', g4⟩
theorem MapAt.old {w : World} {F : Nat -> Prop} {r : Nat} {u : Tags} (h : MapAt w F r u) : r < w.heap.size := by
 obtain ⟨es, clock, k1, _⟩ := h
 exact lt_of_block k1
section
variable {σ : St} {o B : Nat} {F : Nat -> Prop} {blk off : Nat} {v : SV} {w w' : World} {x : Cx}
theorem TC.mod {S : Nat -> Prop} (h : TC σ o B F blk off v w) (hm : Mod S w w') (hb : ¬ S blk) (hs : ∀ k, F k -> ¬ S k) (hS : ∀ k, B <= k -> k < w.heap.size -> ¬ S k) : TC σ o B F blk off v w' := by
 obtain ⟨C, t, mv, h1, h2, h3, h4⟩ := h.mem
 refine ⟨C, t, mv, hm.some h1 hb, h2, h3, ?_⟩
 rcases h4 with ⟨e1, e2, e3⟩ | ⟨r, e1, e2, e3, e4, e5⟩
 ·exact .inl ⟨e1, e2, e3.mod hm hs (fun _ h => h)⟩
 ·exact .inr ⟨r, e1, e2, e3.mod hm (hS r e1 e3.old) hs (fun _ h => h), e4, e5.mod hm (fun k hk => hs k hk.1) (fun _ h => h)⟩
theorem TC.cur (h : TC σ o B F blk off v w) (htg : σ.tg = some o) (hF : ∀ k, B <= k -> F k) : Cur σ F blk off v w := by
 obtain ⟨C, t, mv, h1, h2, h3, h4⟩ := h.mem
 refine ⟨C, t, h1, h2, ?_, ?_⟩
 ·rcases h4 with ⟨e1, e2, e3⟩ | ⟨r, e1, e2, e3, e4, e5⟩
  ·exact e3
  ·exact e5.mod (Mod.refl (S := none') w) (fun _ _ f => f) (fun _ h => h.1)
 ·rw [htg]
  show TagsR w F (from' C off o) v.2
  rw [get_from' h3]
  rcases h4 with ⟨e1, e2, e3⟩ | ⟨r, e1, e2, e3, e4, e5⟩
  ·exact .inl ⟨e1, e2⟩
  ·rw [e2]; exact TagsR.of_map e3 (hF r e1) e4
theorem Cur.tc (h : Cur σ F blk off v w) (htg : σ.tg = some o) (ho : o < σ.sz) (hv : v.2 = []) : TC σ o B F blk off v w := by
 obtain ⟨C, t, h1, h2, h3, h4⟩ := h.mem
 rw [htg, hv] at h4
 have hmv := h4.none_of
 have hlt : off + o < C.size := by omega
 refine ⟨C, t, .map none, h1, h2, ?_, .inl ⟨rfl, hv, h3⟩⟩
 rw [<- hmv]
 simp [from', hlt]
end
/-- what is apart while tags are read -/
structure Own (x : Cx) (B : Nat) (F : Nat -> Prop) (blk : Nat) (w : World) : Prop where
 le : B <= w.heap.size
 rbB : x.rb < B
 sbB : x.sb < B
 blkB : blk < B
 glB : gErr < B
 apart : ∀ k, F k -> k ≠ x.rb /\ k ≠ blk
 fresh : ∀ k, B <= k -> F k
 src : F x.sb
 rb : blk ≠ x.rb
 glob : blk ≠ gErr
theorem Own.later {x : Cx} {B blk : Nat} {F : Nat -> Prop} {w w' : World} (h : Own x B F blk w) (hs : w.heap.size <= w'.heap.size) : Own x B F blk w' := ⟨Nat.le_trans h.le hs, h.rbB, h.sbB, h.blkB, h.glB, h.apart, h.fresh, h.src, h.rb, h.glob⟩
/-- a piece of code that reads what one tag says -/
def BlkK (P : Program) (Γ : Sl) (σ : St) (o : Nat) (c : Code) (ks : List Nat) (g : Int -> FT) : Prop :=
 ∀ key B x F blk off v s a w, 0 <= key -> key < 4294967296 -> (∀ t ∈ ks, Act.get a t = .int .u32 key) -> Own x B F blk w -> v.2.length < 4294967295 -> Amb Γ x s a w -> Act.get a σ.s = .pointer (some ⟨blk, off, none⟩) -> TC σ o B F blk off v w ->
  g key x.ver x.flex v s ≠ .stuck ->
  c.wp P (fun e a' w' => match e with
   | .normal => ∃ v' s', g key x.ver x.flex v s = .ok v' s' /\ Amb Γ x s' a' w' /\ TC σ o B F blk off v' w' /\ SameBut (W c) a a' /\ StpB x B blk off σ.sz w w' /\ v'.2.length <= v.2.length + 1
   | .ret => g key x.ver x.flex v s = .early /\ Act.get a' Γ.res = x.ev /\ a'.defers = [] /\ StpB x B blk off σ.sz w w'
   | _ => False) a w
/-- methods of the reader -/
def UvC (P : Program) (f : FuncId) : Prop := ∀ w rb sb s, Rd w rb sb s -> Calls P f #[.pointer (some ⟨rb, 0, none⟩)] w fun e w' => e = .returned (.int .u32 (rdUvarint s).1) /\ Rd w' rb sb (rdUvarint s).2 /\ Mod (only rb) w w'
def SpC (P : Program) (f : FuncId) : Prop := ∀ w rb sb (l : Int) s, Rd w rb sb s -> Calls P f #[.pointer (some ⟨rb, 0, none⟩), .int .i64 l] w fun e w' => (∃ v, e = .returned v /\ Src w' v sb (rdSpan l s).1.1 (rdSpan l s).1.2) /\ Rd w' rb sb (rdSpan l s).2 /\ Mod (only rb) w w'
section
variable {P : Program} {Γ : Sl} {σ : St} {o : Nat} {ks : List Nat} {f : FT} {g : Int -> FT} {c1 c2 sw : Code} {id : Nat}
 {y0 y1 y2 y3 y4 y5 y6 y7 y8 y9 ya yb yc yd : TypeId} {p0 p1 p2 p3 p4 p5 p6 p7 p8 p9 : String} {e0 e1 e2 e3 e4 e5 e6 e7 e8 e9 : Array Edge} {ts0 ts1 ts2 ts3 : Array TypeId}
theorem sw_case {n : Int} {tk d0 d1 : Nat} (h1 : BlkK P Γ σ o c1 [] (fun _ => f)) (h2 : BlkK P Γ σ o c2 ks g) (hs : (ks.contains tk && Γ.free d0 && Γ.free d1 && d0 != σ.s && d1 != σ.s && !ks.contains d0 && !ks.contains d1) = true) :
  BlkK P Γ σ o (.seq (.region id #[⟨some d0, .binOp .eql ya (.tmp tk) (.const (.int .u32 n)) yb, y0, p0, e0, none⟩, ⟨some d1, .assign (.tmp d0), y1, p1, e1, none⟩] false) (.cond (.tmp d1) c1 c2)) ks (swF n f g) := by
 intro key B x F blk off v s a w hk0 hk1 hks hO hv hA hp hT hns
 simp only [Bool.and_eq_true, bne_iff_ne, Bool.not_eq_true', List.contains_eq_mem, decide_eq_true_eq, decide_eq_false_iff_not] at hs
 obtain ⟨⟨⟨⟨⟨⟨q1, q2⟩, q3⟩, q4⟩, q5⟩, q6⟩, q7⟩ := hs
 refine wp_seq (wp_region_lit (Zv rfl (x_eqlI (k := .u32) (m := key) (n := n) (by rw [Ze]; exact hks tk q1) rfl) (Zv rfl Zi (wpList_nil ?_))))
 have hA1 := (hA.put q2 (.bool (key == n))).put q3 ((a.put (some d0) (.bool (key == n))).eval (.tmp d0))
 have g1 : Act.get ((a.put (some d0) (.bool (key == n))).put (some d1) ((a.put (some d0) (.bool (key == n))).eval (.tmp d0))) d1 = .bool (key == n) := by
  rw [Zq (by rw [Zs]; exact hA.lt q3), Ze, Zq (hA.lt q2)]
 have hsb : ∀ c', (∀ t, W c' t -> W (.seq (.region id #[⟨some d0, .binOp .eql ya (.tmp tk) (.const (.int .u32 n)) yb, y0, p0, e0, none⟩, ⟨some d1, .assign (.tmp d0), y1, p1, e1, none⟩] false) (.cond (.tmp d1) c1 c2)) t) -> ∀ a', SameBut (W c') ((a.put (some d0) (.bool (key == n))).put (some d1) ((a.put (some d0) (.bool (key == n))).eval (.tmp d0))) a' ->
   SameBut (W (.seq (.region id #[⟨some d0, .binOp .eql ya (.tmp tk) (.const (.int .u32 n)) yb, y0, p0, e0, none⟩, ⟨some d1, .assign (.tmp d0), y1, p1, e1, none⟩] false) (.cond (.tmp d1) c1 c2))) a a' := fun c' hc a' h =>
  (((SameBut.refl a).put (by simp [W, writes]) _).put (by simp [W, writes]) _).trans (h.mono hc)
 have hp1 : Act.get ((a.put (some d0) (.bool (key == n))).put (some d1) ((a.put (some d0) (.bool (key == n))).eval (.tmp d0))) σ.s = .pointer (some ⟨blk, off, none⟩) := by
  rw [Zn q5, Zn q4]; exact hp
 have hks1 : ∀ t ∈ ks, Act.get ((a.put (some d0) (.bool (key == n))).put (some d1) ((a.put (some d0) (.bool (key == n))).eval (.tmp d0))) t = .int .u32 key := fun t ht => by
  rw [Zn (fun e => q7 (by rw [e]; exact ht)), Zn (fun e => q6 (by rw [e]; exact ht))]; exact hks t ht
 generalize (a.put (some d0) (.bool (key == n))).put (some d1) ((a.put (some d0) (.bool (key == n))).eval (.tmp d0)) = a1 at *
 by_cases hkn : key = n
 ·have e1 : swF n f g key = f := if_pos hkn
  rw [e1] at hns ⊢
  refine wp_cond_true (by rw [Ze, g1, hkn]; simp) (wp_mono (h1 key B x F blk off v s a1 w hk0 hk1 (fun t ht => by simp at ht) hO hv hA1 hp1 hT hns) ?_)
  intro e a2 w2 h
  cases e with
  | normal => obtain ⟨v', s', r1, r2, r3, r4, r5, r6⟩ := h; exact ⟨v', s', r1, r2, r3, hsb _ (fun t ht => by simp only [W, writes, List.mem_append] at *; exact .inr (.inl ht)) _ r4, r5, r6⟩
  | ret => exact h
  | _ => exact h.elim
 ·have e1 : swF n f g key = g key := if_neg hkn
  rw [e1] at hns ⊢
  refine wp_cond_false (by rw [Ze, g1]; simp [hkn]) (wp_mono (h2 key B x F blk off v s a1 w hk0 hk1 hks1 hO hv hA1 hp1 hT hns) ?_)
  intro e a2 w2 h
  cases e with
  | normal => obtain ⟨v', s', r1, r2, r3, r4, r5, r6⟩ := h; exact ⟨v', s', r1, r2, r3, hsb _ (fun t ht => by simp only [W, writes, List.mem_append] at *; exact .inr (.inr ht)) _ r4, r5, r6⟩
  | ret => exact h
  | _ => exact h.elim
set_option maxHeartbeats 1000000 in
/-- the loop over all tags -/
theorem blk_tags {fU c0 ci k0 kk k1 c1 c2 j0 j1 i0 i1 i2 i3 i4 b0 b1 b2 : Nat} (hU : UvC P fU) (hbd : bodied P fU = true) (hsw : BlkK P Γ σ o sw [k1, kk] g) (htg : σ.tg = some o) (ho : o < σ.sz)
  (hs : (Γ.free c0 && Γ.free ci && Γ.free k0 && Γ.free kk && Γ.free k1 && Γ.free c1 && Γ.free c2 && Γ.free j0 && Γ.free j1 && kk != k1 && !([c1, c2, k0, kk, k1, j0, j1] ++ writes sw).contains ci && !([c0, ci, c1, c2, k0, kk, k1, j0, j1] ++ writes sw).contains σ.s) = true) :
  Blk P Γ σ (.seq (.region i0 #[⟨some c0, .call ⟨.value (.func fU), #[.tmp Γ.b], ts0⟩, y0, p0, e0, none⟩, ⟨some ci, .assign (.tmp c0), y1, p1, e1, none⟩] false)
   (.block b0 (.loop (.seq (.seq (.region i1 #[⟨some c1, .move (.tmp ci), y2, p2, e2, none⟩, ⟨some c2, .binOp .gtr ya (.tmp c1) (.const (.int .u32 0)) yb, y3, p3, e3, none⟩] false) (.cond (.tmp c2) .skip (.exit b0)))
    (.seq (.block b1 (.seq (.region i2 #[⟨some k0, .call ⟨.value (.func fU), #[.tmp Γ.b], ts1⟩, y4, p4, e4, none⟩, ⟨some kk, .assign (.tmp k0), y5, p5, e5, none⟩] false) (.seq (.region i3 #[⟨some k1, .move (.tmp kk), y6, p6, e6, none⟩] false) (.block b2 sw))))
     (.region i4 #[⟨some j0, .move (.tmp ci), y7, p7, e7, none⟩, ⟨some j1, .binOp .sub yc (.tmp j0) (.const (.int .u32 1)) yd, y8, p8, e8, none⟩, ⟨some ci, .assign (.tmp j1), y9, p9, e9, none⟩] false)))))) (tagsF g) := by
 intro x F blk off v s a w hA hp hC hS hns
 simp only [Bool.and_eq_true, bne_iff_ne, Bool.not_eq_true', List.contains_eq_mem, decide_eq_false_iff_not, List.mem_append, List.mem_cons, List.not_mem_nil, or_false, not_or] at hs
 obtain ⟨⟨⟨⟨⟨⟨⟨⟨⟨⟨⟨f0, fi⟩, fk0⟩, fkk⟩, fk1⟩, fc1⟩, fc2⟩, fj0⟩, fj1⟩, nk⟩, ⟨⟨n1, n2, n3, n4, n5, n6, n7⟩, nw⟩⟩, ⟨⟨m1, m2, m3, m4, m5, m6, m7, m8, m9⟩, mw⟩⟩ := hs
 have hv2 : v.2 = [] := by
  cases h : decide (v.2 = []) with
  | true => exact of_decide_eq_true h
  | false => exact (hns (if_neg (of_decide_eq_false h))).elim
 have e0 : tagsF g x.ver x.flex v s = loopF g x.ver x.flex (rdUvarint s).1.toNat v (rdUvarint s).2 := if_pos hv2
 rw [e0] at hns ⊢
 obtain ⟨R0, hR0⟩ : ∃ R0, R0 = loopF g x.ver x.flex (rdUvarint s).1.toNat v (rdUvarint s).2 := ⟨_, rfl⟩
 rw [<- hR0] at hns ⊢
 obtain ⟨B, hB⟩ : ∃ B, B = w.heap.size := ⟨_, rfl⟩
 have hcl : blk < w.heap.size := by obtain ⟨C, t, h, _⟩ := hC.mem; exact lt_of_block h
 have hgl : gErr < w.heap.size := World.block_lt_of_cell? _ _ hA.err.1
 have hO : Own x B F blk w := ⟨by omega, by have := hA.rd.1; omega, by have := hS.old; omega, by omega, by omega, hS.apart, fun k hk => hS.fresh k (by omega), hS.src, hS.rb, hS.glob⟩
 have hT : TC σ o B F blk off v w := hC.tc htg ho hv2
 have hin := rdUvarint_in s
 have er : ∀ (a : Act) , Act.get a Γ.b = .pointer (some ⟨x.rb, 0, none⟩) -> (#[Operand.tmp Γ.b] : Array Operand).map a.eval = #[.pointer (some ⟨x.rb, 0, none⟩)] := fun a h => by simp [Ze, h]
 have hrbk : ∀ k, F k -> ¬ only x.rb k := fun k hk e => (hO.apart k hk).1 e
 refine wp_seq (wp_region_lit (wpl_call rfl (Zy hbd rfl) (by rw [er _ hA.b]; exact hU w x.rb x.sb s hA.rd) ?_))
 rintro e w1 ⟨rfl, r1, m1'⟩
 refine ⟨_, rfl, Zv rfl Zi (wpList_nil ?_)⟩
 have hE1 := hA.err.mod m1' (Ne.symm hA.glob)
 have hA1 := ((hA.world r1 hE1).put f0 (.int .u32 (rdUvarint s).1)).put fi ((a.put (some c0) (.int .u32 (rdUvarint s).1)).eval (.tmp c0))
 have gi : Act.get ((a.put (some c0) (.int .u32 (rdUvarint s).1)).put (some ci) ((a.put (some c0) (.int .u32 (rdUvarint s).1)).eval (.tmp c0))) ci = .int .u32 ((rdUvarint s).1.toNat : Nat) := by
  rw [Zq (by rw [Zs]; exact hA.lt fi), Ze, Zq (hA.lt f0)]
  congr 1; omega
 have gp : Act.get ((a.put (some c0) (.int .u32 (rdUvarint s).1)).put (some ci) ((a.put (some c0) (.int .u32 (rdUvarint s).1)).eval (.tmp c0))) σ.s = .pointer (some ⟨blk, off, none⟩) := by
  rw [Zn (fun e => m2 e.symm), Zn (fun e => m1 e.symm)]; exact hp
 obtain ⟨Wc, hWc⟩ : ∃ Wc : Nat -> Prop, Wc = fun t => t = c0 \/ t = ci \/ t = c1 \/ t = c2 \/ t = k0 \/ t = kk \/ t = k1 \/ t = j0 \/ t = j1 \/ t ∈ writes sw := ⟨_, rfl⟩
 have hsb1 : SameBut Wc a ((a.put (some c0) (.int .u32 (rdUvarint s).1)).put (some ci) ((a.put (some c0) (.int .u32 (rdUvarint s).1)).eval (.tmp c0))) := by
  subst hWc
  exact ((SameBut.refl a).put (.inl rfl) _).put (.inr (.inl rfl)) _
 generalize (a.put (some c0) (.int .u32 (rdUvarint s).1)).put (some ci) ((a.put (some c0) (.int .u32 (rdUvarint s).1)).eval (.tmp c0)) = a1 at *
 have hT1 : TC σ o B F blk off v w1 := hT.mod m1' (fun e => hO.rb e) hrbk (fun k hk _ e => by have e' : k = x.rb := e; have := hO.rbB; omega)
 have hst1 : StpB x B blk off σ.sz w w1 := .of_rd m1' hO.rb
 have fin : ∀ w', StpB x B blk off σ.sz w w' -> Stp x blk off σ.sz w w' := fun w' h => ⟨h.mod.mono (fun i hi e => by rcases e with e | e | e; exact .inl e; exact .inr e; omega), h.out⟩
 refine wp_mono (Q := fun e a' w' => match e with
   | .normal => ∃ v' s', R0 = .ok v' s' /\ Amb Γ x s' a' w' /\ TC σ o B F blk off v' w' /\ SameBut Wc a a' /\ StpB x B blk off σ.sz w w'
   | .ret => R0 = .early /\ Act.get a' Γ.res = x.ev /\ a'.defers = [] /\ StpB x B blk off σ.sz w w'
   | _ => False) ?_ ?_
 ·refine wp_for
   (I := fun m a' w' => ∃ v' s', loopF g x.ver x.flex m v' s' = R0 /\ Amb Γ x s' a' w' /\ Act.get a' σ.s = .pointer (some ⟨blk, off, none⟩) /\ Act.get a' ci = .int .u32 (m : Nat) /\ TC σ o B F blk off v' w' /\ SameBut Wc a a' /\ StpB x B blk off σ.sz w w' /\ v'.2.length + m <= 4294967295)
   (J := fun m a' w' => ∃ v' s', loopF g x.ver x.flex (m + 1) v' s' = R0 /\ Amb Γ x s' a' w' /\ Act.get a' σ.s = .pointer (some ⟨blk, off, none⟩) /\ Act.get a' ci = .int .u32 ((m + 1 : Nat) : Int) /\ TC σ o B F blk off v' w' /\ SameBut Wc a a' /\ StpB x B blk off σ.sz w w' /\ v'.2.length + (m + 1) <= 4294967295)
   (K := fun m a' w' => ∃ v' s', loopF g x.ver x.flex m v' s' = R0 /\ Amb Γ x s' a' w' /\ Act.get a' σ.s = .pointer (some ⟨blk, off, none⟩) /\ Act.get a' ci = .int .u32 ((m + 1 : Nat) : Int) /\ TC σ o B F blk off v' w' /\ SameBut Wc a a' /\ StpB x B blk off σ.sz w w' /\ v'.2.length + m <= 4294967295)
   (rdUvarint s).1.toNat ?_ ?_ ?_ ?_
  ·exact ⟨v, _, hR0.symm, hA1, gp, gi, hT1, hsb1, hst1, by rw [hv2]; simp; omega⟩
  ·rintro m a2 w2 ⟨v', s', h1, h2, h3, h4, h5, h6, h7, h8⟩
   refine wp_region_lit (Zv rfl Zm (Zv rfl (x_gtr (k := .u32) (m := (m : Nat)) (n := 0) (by rw [Ze, Zq (h2.lt fc1), Ze, h4]) rfl) (wpList_nil ⟨rfl, ?_⟩)))
   rw [Zq (by rw [Zs]; exact h2.lt fc2)]
   have hA2 := (h2.put fc1 (a2.eval (.tmp ci))).put fc2 (.bool (decide ((0 : Int) < (m : Nat))))
   have hsb2 : SameBut Wc a ((a2.put (some c1) (a2.eval (.tmp ci))).put (some c2) (.bool (decide ((0 : Int) < (m : Nat))))) := by
    subst hWc
    exact (h6.put (by simp) _).put (by simp) _
   cases m with
   | zero => exact .inr ⟨rfl, v', s', h1.symm, hA2, h5, hsb2, h7⟩
   | succ m =>
    refine .inl ⟨m, rfl, by congr 1; exact decide_eq_true (by omega), v', s', h1, hA2, ?_, ?_, h5, hsb2, h7, h8⟩
    ·rw [Zn (fun e => m4 e.symm), Zn (fun e => m3 e.symm)]; exact h3
    ·rw [Zn (fun e => n2 e.symm), Zn (fun e => n1 e.symm)]; exact h4
  ·rintro m a2 w2 ⟨v', s', h1, h2, h3, h4, h5, h6, h7, h8⟩
   have hO2 := hO.later h7.mod.size
   refine wp_seq (wp_region_lit (wpl_call rfl (Zy hbd rfl) (by rw [er _ h2.b]; exact hU w2 x.rb x.sb s' h2.rd) ?_))
   rintro e w3 ⟨rfl, r3, m3'⟩
   refine ⟨_, rfl, Zv rfl Zi (wpList_nil ?_)⟩
   refine wp_seq (wp_region_lit (Zv rfl Zm (wpList_nil ?_)))
   have hE3 := h2.err.mod m3' (Ne.symm h2.glob)
   have hin3 := rdUvarint_in s'
   obtain ⟨key, hkey⟩ : ∃ key, key = (rdUvarint s').1 := ⟨_, rfl⟩
   rw [<- hkey] at hin3 ⊢
   have hA3 := (((h2.world r3 hE3).put fk0 (.int .u32 key)).put fkk ((a2.put (some k0) (.int .u32 key)).eval (.tmp k0))).put fk1 (((a2.put (some k0) (.int .u32 key)).put (some kk) ((a2.put (some k0) (.int .u32 key)).eval (.tmp k0))).eval (.tmp kk))
   have u2 : Act.get (((a2.put (some k0) (.int .u32 key)).put (some kk) ((a2.put (some k0) (.int .u32 key)).eval (.tmp k0))).put (some k1) (((a2.put (some k0) (.int .u32 key)).put (some kk) ((a2.put (some k0) (.int .u32 key)).eval (.tmp k0))).eval (.tmp kk))) kk = .int .u32 key := by
    rw [Zn (Ne.symm nk), Zq (by rw [Zs]; exact h2.lt fkk), Ze, Zq (h2.lt fk0)]
   have u1 : Act.get (((a2.put (some k0) (.int .u32 key)).put (some kk) ((a2.put (some k0) (.int .u32 key)).eval (.tmp k0))).put (some k1) (((a2.put (some k0) (.int .u32 key)).put (some kk) ((a2.put (some k0) (.int .u32 key)).eval (.tmp k0))).eval (.tmp kk))) k1 = .int .u32 key := by
    rw [Zq (by simp only [Zs]; exact h2.lt fk1), Ze, Zq (by rw [Zs]; exact h2.lt fkk), Ze, Zq (h2.lt fk0)]
   have u3 : Act.get (((a2.put (some k0) (.int .u32 key)).put (some kk) ((a2.put (some k0) (.int .u32 key)).eval (.tmp k0))).put (some k1) (((a2.put (some k0) (.int .u32 key)).put (some kk) ((a2.put (some k0) (.int .u32 key)).eval (.tmp k0))).eval (.tmp kk))) σ.s = .pointer (some ⟨blk, off, none⟩) := by
    rw [Zn (fun e => m7 e.symm), Zn (fun e => m6 e.symm), Zn (fun e => m5 e.symm)]; exact h3
   have u4 : Act.get (((a2.put (some k0) (.int .u32 key)).put (some kk) ((a2.put (some k0) (.int .u32 key)).eval (.tmp k0))).put (some k1) (((a2.put (some k0) (.int .u32 key)).put (some kk) ((a2.put (some k0) (.int .u32 key)).eval (.tmp k0))).eval (.tmp kk))) ci = .int .u32 ((m + 1 : Nat) : Int) := by
    rw [Zn (fun e => n5 e.symm), Zn (fun e => n4 e.symm), Zn (fun e => n3 e.symm)]; exact h4
   have hsb3 : SameBut Wc a (((a2.put (some k0) (.int .u32 key)).put (some kk) ((a2.put (some k0) (.int .u32 key)).eval (.tmp k0))).put (some k1) (((a2.put (some k0) (.int .u32 key)).put (some kk) ((a2.put (some k0) (.int .u32 key)).eval (.tmp k0))).eval (.tmp kk))) := by
    subst hWc
    exact ((h6.put (by simp) _).put (by simp) _).put (by simp) _
   generalize ((a2.put (some k0) (.int .u32 key)).put (some kk) ((a2.put (some k0) (.int .u32 key)).eval (.tmp k0))).put (some k1) (((a2.put (some k0) (.int .u32 key)).put (some kk) ((a2.put (some k0) (.int .u32 key)).eval (.tmp k0))).eval (.tmp kk)) = a3 at *
   have hT3 : TC σ o B F blk off v' w3 := h5.mod m3' (fun e => hO.rb e) hrbk (fun k hk _ e => by have e' : k = x.rb := e; have := hO.rbB; omega)
   have h1' : (g key x.ver x.flex v' (rdUvarint s').2).then (loopF g x.ver x.flex m) = R0 := by rw [<- h1, hkey]; rfl
   have hns3 : g key x.ver x.flex v' (rdUvarint s').2 ≠ .stuck := fun e => hns (by rw [<- h1', e]; rfl)
   refine wp_block (wp_mono (hsw key B x F blk off v' _ a3 w3 hin3.1 hin3.2 (fun t ht => by simp only [List.mem_cons, List.not_mem_nil, or_false] at ht; rcases ht with rfl | rfl; exact u1; exact u2) (hO2.later m3'.size) (by omega) hA3 u3 hT3 hns3) ?_)
   have hst3 := h7.trans (StpB.of_rd (x := x) (B := B) (blk := blk) (off := off) (sz := σ.sz) m3' hO.rb)
   intro e a4 w4 h
   cases e with
   | normal =>
    obtain ⟨v4, s4, q1, q2, q3, q4, q5, q6⟩ := h
    refine ⟨v4, s4, ?_, q2, (q4.get _ mw).trans u3, (q4.get _ nw).trans u4, q3, ?_, hst3.trans q5, by omega⟩
    ·rw [<- h1', q1]; rfl
    ·refine hsb3.trans (q4.mono fun t ht => ?_)
     subst hWc
     simp only [W] at ht
     simp [ht]
   | ret => exact ⟨by rw [<- h1', h.1]; rfl, h.2.1, h.2.2.1, hst3.trans h.2.2.2⟩
   | _ => exact h.elim
  ·rintro m a2 w2 ⟨v', s', h1, h2, h3, h4, h5, h6, h7, h8⟩
   refine wp_region_lit (Zv rfl Zm (Zv rfl (x_sub (k := .u32) (m := ((m + 1 : Nat) : Int)) (n := 1) (by rw [Ze, Zq (h2.lt fj0), Ze, h4]) rfl) (Zv rfl Zi (wpList_nil ⟨rfl, v', s', h1, ((h2.put fj0 _).put fj1 _).put fi _, ?_, ?_, h5, ?_, h7, h8⟩))))
   ·rw [Zn (fun e => m2 e.symm), Zn (fun e => m9 e.symm), Zn (fun e => m8 e.symm)]; exact h3
   ·rw [Zq (by simp only [Zs]; exact h2.lt fi), Ze, Zq (by rw [Zs]; exact h2.lt fj1)]
    rw [show IntKind.u32.wrap (((m + 1 : Nat) : Int) - 1) = (m : Int) from by simp only [IntKind.wrap, IntKind.bits, IntKind.signed]; simp; omega]
   ·subst hWc
    exact ((h6.put (by simp) _).put (by simp) _).put (by simp) _
 ·intro e a2 w2 h
  cases e with
  | normal =>
   obtain ⟨v', s', q1, q2, q3, q4, q5⟩ := h
   refine ⟨v', s', q1, q2, q3.cur htg hO.fresh, q4.mono fun t ht => ?_, fin _ q5⟩
   subst hWc
   simp only [W, writes, List.mem_append]
   rcases ht with rfl | rfl | rfl | rfl | rfl | rfl | rfl | rfl | rfl | ht <;> simp_all
  | ret => exact ⟨h.1, h.2.1, h.2.2.1, fin _ h.2.2.2⟩
  | _ => exact h.elim
end
end Go.Proofs.YtcldbjehliladaaDoor
