/-
  Rules for the code that writes a message: what a piece of such code puts behind what was there.
-/
import Derived.Test.YtmehfgiadapekaaGreatPYb
import Derived.Test.YtmehfgiadapekaaGreatPRg
set_option linter.unusedSimpArgs false
set_option linter.unusedVariables false
namespace Go.Proofs.YtmehfgiadapekaaGreat
open Go Go.RowKit
/-- the slots of a walk that writes: how many, the version's, whether it is flexible -/
structure Wl where
 N : Nat
 ver : Nat
 flex : Nat
/-- what stays in such a walk: from which block on memory is its own -/
structure Wx where
 base : Nat
 ver : Int
 flex : Bool
structure WA (Γ : Wl) (x : Wx) (out : List UInt8) (a : Act) (w : World) : Prop where
 size : a.tmps.size = Γ.N
 defers : a.defers = []
 dst : OwnB w x.base (Act.get a 1) out
 ver : Act.get a Γ.ver = .int .i16 x.ver
 flex : Act.get a Γ.flex = .bool x.flex
 base : x.base <= w.heap.size
/-- a slot that may be written -/
def Wl.free (Γ : Wl) (t : Nat) : Bool := decide (t < Γ.N) && t != 1 && t != Γ.ver && t != Γ.flex
theorem Wl.free_spec {Γ : Wl} {t : Nat} (h : Γ.free t = true) : t < Γ.N /\ t ≠ 1 /\ t ≠ Γ.ver /\ t ≠ Γ.flex := by
 simpa [Wl.free, and_assoc] using h
/-- what was written lies in a slot that nothing else uses -/
def Wl.ok (Γ : Wl) : Bool := decide (1 < Γ.N) && Γ.ver != 1 && Γ.flex != 1
section
variable {Γ : Wl} {x : Wx} {out out' : List UInt8} {a : Act} {w w' : World}
theorem WA.put (h : WA Γ x out a w) {t : Nat} (ht : Γ.free t = true) (v : Value) : WA Γ x out (a.put (some t) v) w := by
 obtain ⟨h1, h2, h3, h4⟩ := Wl.free_spec ht
 exact ⟨(Zs _ _ _).trans h.size, (Zd _ _ _).trans h.defers, by rw [Zn h2]; exact h.dst, (Zn h3).trans h.ver, (Zn h4).trans h.flex, h.base⟩
theorem WA.setD (h : WA Γ x out a w) (hok : Γ.ok = true) {v : Value} (hv : OwnB w' x.base v out') (hb : x.base <= w'.heap.size) : WA Γ x out' (a.put (some 1) v) w' := by
 simp only [Wl.ok, Bool.and_eq_true, decide_eq_true_eq, bne_iff_ne] at hok
 exact ⟨(Zs _ _ _).trans h.size, (Zd _ _ _).trans h.defers, by rw [Zq (by rw [h.size]; exact hok.1.1)]; exact hv, (Zn (Ne.symm hok.1.2)).trans h.ver, (Zn (Ne.symm hok.2)).trans h.flex, hb⟩
theorem WA.lt (h : WA Γ x out a w) {t : Nat} (ht : Γ.free t = true) : t < a.tmps.size := by rw [h.size]; exact (Wl.free_spec ht).1
end
abbrev Pre := Wx -> Act -> World -> List UInt8 -> Prop
/-- a piece of code that writes what is told ahead of it -/
def Emit (P : Program) (Γ : Wl) (ok : OkV) (c : Code) (pre : Pre) : Prop :=
 ∀ x bs out a w, ok x.ver x.flex -> WA Γ x out a w -> pre x a w bs -> out.length + bs.length <= 4294967296 ->
  c.wp P (fun e a' w' => e = .normal /\ WA Γ x (out ++ bs) a' w' /\ SameBut (W c) a a' /\ Mod (fun k => x.base <= k) w w') a w
/-- what is told hangs by these slots, and by memory that is not one's own -/
def Stable (pre : Pre) (rs : List Nat) : Prop := ∀ x a a' w w' bs, (∀ r ∈ rs, Act.get a' r = Act.get a r) -> Mod (fun k => x.base <= k) w w' -> pre x a w bs -> pre x a' w' bs
/-- slots that a piece of code leaves -/
def leaves (c : Code) (rs : List Nat) : Bool := rs.all fun r => !(writes c).contains r
theorem leaves_spec {c : Code} {rs : List Nat} (h : leaves c rs = true) {a a' : Act} (hs : SameBut (W c) a a') : ∀ r ∈ rs, Act.get a' r = Act.get a r := by
 intro r hr
 have := List.all_eq_true.1 h r hr
 exact hs.get r (by simpa [W] using this)
/-- a test on the version, or on flexibility -/
def TstW (P : Program) (Γ : Wl) (c : Code) (t : Nat) (p : Int -> Bool -> Bool) : Prop :=
 ∀ x out a w, WA Γ x out a w -> c.wp P (fun e a' w' => e = .normal /\ w' = w /\ WA Γ x out a' w /\ Act.get a' t = .bool (p x.ver x.flex) /\ SameBut (W c) a a') a w
section
variable {P : Program} {Γ : Wl} {ok ok' : OkV} {id id' i0 i1 i2 i3 b0 b1 : Nat} {c c0 c1 c2 : Code} {pre p1 p2 : Pre} {rs : List Nat} {q : Int -> Bool -> Bool}
 {y1 y2 y3 y4 y5 y6 y7 y8 y9 yg yh yg' yh' : TypeId} {s1 s2 s3 s4 s5 s6 s7 s8 s9 : String} {e1 e2 e3 e4 e5 e6 e7 e8 e9 : Array Edge} {ts : Array TypeId} {u t t1 t2 t3 t4 t5 t6 tv : Nat} {k : Int}
theorem tstw_flex (hs : Γ.free t = true) : TstW P Γ (.region id #[⟨some t, .move (.tmp Γ.flex), y1, s1, e1, none⟩] false) t (fun _ f => f) := by
 intro x out a w hA
 refine wp_region_lit (Zv rfl Zm (wpList_nil ⟨rfl, rfl, hA.put hs _, ?_, ?_⟩))
 ·rw [Zq (hA.lt hs), Ze, hA.flex]
 ·exact (SameBut.refl a).put (by simp [W, writes]) _
theorem emit_mono (h : Emit P Γ ok c p1) (hm : ∀ x a w bs, ok x.ver x.flex -> p2 x a w bs -> p1 x a w bs) : Emit P Γ ok c p2 := fun x bs out a w ho hA hp hl => h x bs out a w ho hA (hm x a w bs ho hp) hl
theorem emit_skip (h : ∀ x a w bs, ok x.ver x.flex -> pre x a w bs -> bs = []) : Emit P Γ ok .skip pre := by
 intro x bs out a w ho hA hp hl
 have := h x a w bs ho hp
 subst this
 exact wp_skip ⟨rfl, by rw [List.append_nil]; exact hA, .refl a, .refl w⟩
/-- one piece after another -/
theorem emit_seq (h1 : Emit P Γ ok c1 p1) (h2 : Emit P Γ ok c2 p2) (hs : Stable p2 rs) (hl : leaves c1 rs = true) : Emit P Γ ok (.seq c1 c2) (fun x a w bs => ∃ d1 d2, bs = d1 ++ d2 /\ p1 x a w d1 /\ p2 x a w d2) := by
 rintro x bs out a w ho hA ⟨d1, d2, rfl, q1, q2⟩ hln
 simp only [List.length_append] at hln
 refine wp_seq (wp_mono (h1 x d1 out a w ho hA q1 (by omega)) ?_)
 rintro e a1 w1 ⟨rfl, hA1, hsb1, hm1⟩
 refine wp_mono (h2 x d2 (out ++ d1) a1 w1 ho hA1 (hs x a a1 w w1 d2 (leaves_spec hl hsb1) hm1 q2) (by simp; omega)) ?_
 rintro e a2 w2 ⟨rfl, hA2, hsb2, hm2⟩
 exact ⟨rfl, by rw [<- List.append_assoc]; exact hA2, (hsb1.mono fun t ht => by simp only [W, writes, List.mem_append] at *; exact .inl ht).trans (hsb2.mono fun t ht => by simp only [W, writes, List.mem_append] at *; exact .inr ht), hm1.trans hm2⟩
/-- a test parts the way -/
theorem emit_cond (h0 : TstW P Γ c0 t q) (h1 : Emit P Γ (fun v l => ok v l /\ q v l = true) c1 pre) (h2 : Emit P Γ (fun v l => ok v l /\ q v l = false) c2 pre) (hs : Stable pre rs) (hl : leaves c0 rs = true) : Emit P Γ ok (.seq c0 (.cond (.tmp t) c1 c2)) pre := by
 intro x bs out a w ho hA hp hln
 refine wp_seq (wp_mono (h0 x out a w hA) ?_)
 rintro e a1 w1 ⟨rfl, rfl, hA1, ht, hsb1⟩
 have hp1 := hs x a a1 w1 w1 bs (leaves_spec hl hsb1) (.refl w1) hp
 have hW0 := hsb1.mono (W' := W (.seq c0 (.cond (.tmp t) c1 c2))) fun t ht => by simp only [W, writes, List.mem_append] at *; exact .inl ht
 cases hq : q x.ver x.flex with
 | true =>
  refine wp_cond_true (by rw [Ze, ht, hq]) (wp_mono (h1 x bs out a1 w1 ⟨ho, hq⟩ hA1 hp1 hln) ?_)
  rintro e a2 w2 ⟨rfl, g1, g2, g3⟩
  exact ⟨rfl, g1, hW0.trans (g2.mono fun t ht => by simp only [W, writes, List.mem_append] at *; exact .inr (.inl ht)), g3⟩
 | false =>
  refine wp_cond_false (by rw [Ze, ht, hq]) (wp_mono (h2 x bs out a1 w1 ⟨ho, hq⟩ hA1 hp1 hln) ?_)
  rintro e a2 w2 ⟨rfl, g1, g2, g3⟩
  exact ⟨rfl, g1, hW0.trans (g2.mono fun t ht => by simp only [W, writes, List.mem_append] at *; exact .inr (.inr ht)), g3⟩
/-- a value that lies in a slot is to be written -/
def preV (tv : Nat) (ty : Ty) (E : Int -> Bool -> Tr -> List UInt8) : Pre := fun x a w bs => ∃ F t, RepV w F ty (Act.get a tv) t /\ (∀ k, F k -> k < x.base) /\ bs = E x.ver x.flex t
theorem RepV.mod {w w' : World} {F S : Nat -> Prop} {ty : Ty} {v : Value} {t : Tr} (h : RepV w F ty v t) (hm : Mod S w w') (hs : ∀ k, F k -> ¬ S k) : RepV w' F ty v t := by
 rcases h with ⟨h1, h2, h3⟩ | ⟨rfl, cs, h1, h2, h3, h4⟩
 ·exact .inl ⟨h1, h2, h3.mod hm hs (fun _ h => h)⟩
 ·exact .inr ⟨rfl, cs, h1, h2, h3, h4⟩
theorem preV_stable {ty : Ty} {E : Int -> Bool -> Tr -> List UInt8} : Stable (preV tv ty E) [tv] := by
 rintro x a a' w w' bs hr hm ⟨F, t, h1, h2, h3⟩
 refine ⟨F, t, ?_, h2, h3⟩
 rw [hr tv (by simp)]
 exact h1.mod hm (fun k hk e => by have := h2 k hk; omega)
/-- a function that puts a value behind octets -/
def AppV (P : Program) (f : FuncId) (ty : Ty) (E : Tr -> List UInt8) : Prop := ∀ w F base dv out v t, OwnB w base dv out -> base <= w.heap.size -> RepV w F ty v t -> (∀ k, F k -> k < base) -> out.length + (E t).length <= 4294967296 -> PutC P f #[dv, v] w base dv out (E t)
theorem emit_call {f : Nat} {ty : Ty} {E' : Tr -> List UInt8} {E : Int -> Bool -> Tr -> List UInt8} (hc : AppV P f ty E') (hb : bodied P f = true) (hs : (Γ.ok && Γ.free t1 && Γ.free t2 && Γ.free t3 && t1 != t2 && tv != t1) = true) (hE : ∀ v l t, ok v l -> E v l t = E' t) :
  Emit P Γ ok (.region id #[⟨some t1, .move (.tmp 1), y1, s1, e1, none⟩, ⟨some t2, .move (.tmp tv), y2, s2, e2, none⟩, ⟨some t3, .call ⟨.value (.func f), #[.tmp t1, .tmp t2], ts⟩, y3, s3, e3, none⟩, ⟨some 1, .assign (.tmp t3), y4, s4, e4, none⟩] false) (preV tv ty E) := by
 rintro x bs out a w ho hA ⟨F, t, hr, hF, rfl⟩ hl
 simp only [Bool.and_eq_true, bne_iff_ne] at hs
 obtain ⟨⟨⟨⟨⟨hok, f1⟩, f2⟩, f3⟩, n12⟩, nv1⟩ := hs
 have h1 := Wl.free_spec f1
 have h2 := Wl.free_spec f2
 rw [hE _ _ _ ho] at hl ⊢
 refine wp_region_lit (Zv rfl Zm (Zv rfl Zm (wpl_call rfl (Zy hb rfl) (R := fun e w' => ∃ v, e = .returned v /\ OwnB w' x.base v (out ++ E' t) /\ Fine (Act.get a 1) v w w') ?_ ?_)))
 ·rw [show ∀ a : Act, (#[Operand.tmp t1, .tmp t2] : Array Operand).map a.eval = #[Act.get a t1, Act.get a t2] from fun a => by simp [Ze]]
  rw [Zn (Ne.symm n12), Zq (hA.lt f1), Zq (by rw [Zs]; exact hA.lt f2), Ze, Ze, Zn (Ne.symm nv1)]
  exact (hc w F x.base _ out _ t hA.dst hA.base hr hF hl).out
 rintro e w' ⟨v', rfl, k1, k2⟩
 refine ⟨_, rfl, Zv rfl Zi (wpList_nil ⟨rfl, ?_, ?_, k2.low hA.dst⟩)⟩
 ·refine (((hA.put f1 _).put f2 _).put f3 _).setD hok (w' := w') ?_ (by have := k2.size; have := hA.base; omega)
  rw [Ze, Zq (by simp only [Zs]; exact hA.lt f3)]
  exact k1
 ·exact ((((SameBut.refl a).put (by simp [W, writes]) _).put (by simp [W, writes]) _).put (by simp [W, writes]) _).put (by simp [W, writes]) _
/-- a kind of a field that lies in one cell -/
def Ty.plain : Ty -> Bool
 | .struct _ _ _ => false
 | .uuid => false
 | _ => true
theorem rep_one {w : World} {F : Nat -> Prop} {ty : Ty} {c : Nat -> Value} {t : Tr} (h : ty.plain = true) (hr : Rep w F ty c t) : (c 0 ≠ undef /\ (c 0).oneCell' = true) /\ RepV w F ty (c 0) t := by
 have key : ty.size = 1 -> (c 0 ≠ undef /\ (c 0).oneCell' = true) -> Rep w F ty (fun _ => c 0) t -> (c 0 ≠ undef /\ (c 0).oneCell' = true) /\ RepV w F ty (c 0) t := fun h1 h2 h3 => ⟨h2, .inl ⟨h1, h2.2, h3⟩⟩
 cases ty with
 | int k => refine key rfl ?_ (by simp only [Rep] at hr ⊢; exact hr); simp only [Rep] at hr; obtain ⟨n, hn, _⟩ := hr; rw [hn]; exact ⟨by simp [undef], rfl⟩
 | bool => refine key rfl ?_ (by simp only [Rep] at hr ⊢; exact hr); simp only [Rep] at hr; obtain ⟨b, hb, _⟩ := hr; rw [hb]; exact ⟨by simp [undef], rfl⟩
 | float => refine key rfl ?_ (by simp only [Rep] at hr ⊢; exact hr); simp only [Rep] at hr; obtain ⟨n, hn, _⟩ := hr; rw [hn]; exact ⟨by simp [undef], rfl⟩
 | str => refine key rfl ?_ (by simp only [Rep] at hr ⊢; exact hr); simp only [Rep] at hr; obtain ⟨n, hn, _⟩ := hr; rw [hn]; exact ⟨by simp [undef], rfl⟩
 | pstr =>
  refine key rfl ?_ (by simp only [Rep] at hr ⊢; exact hr)
  simp only [Rep] at hr
  obtain ⟨o, ho, _⟩ := hr
  refine ⟨?_, pstr_one ho⟩
  cases o with
  | none => have e : c 0 = .pointer none := ho; rw [e]; simp [undef]
  | some bs => obtain ⟨k, t, _, e, _⟩ := ho; rw [e]; simp [undef]
 | bytes =>
  refine key rfl ?_ (by simp only [Rep] at hr ⊢; exact hr)
  simp only [Rep] at hr
  obtain ⟨bs, nl, ho, _⟩ := hr
  refine ⟨?_, oct_one ho⟩
  obtain ⟨ao, cap, e, _⟩ := oct_slice ho
  rw [e]; simp [undef]
 | list e sz =>
  refine key rfl ?_ (by simp only [Rep] at hr ⊢; exact hr)
  simp only [Rep] at hr
  rcases hr with ⟨e, _⟩ | ⟨l, f, ⟨k, cap, C, tc, _, e, _⟩, _⟩ <;> (rw [e]; exact ⟨by simp [undef], rfl⟩)
 | pstruct lay tg sz =>
  refine key rfl ?_ (by simp only [Rep] at hr ⊢; exact hr)
  simp only [Rep] at hr
  rcases hr with ⟨e, _⟩ | ⟨k, C, ty, vs, u, _, e, _⟩ <;> (rw [e]; exact ⟨by simp [undef], rfl⟩)
 | uuid => simp [Ty.plain] at h
 | struct lay tg sz => simp [Ty.plain] at h
/-- a field of a struct is to be written -/
def preD (σ : St) (i : Nat) (E : Int -> Bool -> Tr -> List UInt8) : Pre := fun x a w bs => ∃ F blk off v, Act.get a σ.s = .pointer (some ⟨blk, off, none⟩) /\ Cur σ F blk off v w /\ (∀ k, F k -> k < x.base) /\ blk < x.base /\ bs = E x.ver x.flex (v.1.getD i .nul)
theorem emit_leaf {σ : St} {T kf o i ys : Nat} {ty : Ty} {E : Int -> Bool -> Tr -> List UInt8} (h : Emit P Γ ok c (preV tv ty E)) (hs : (Γ.free t1 && Γ.free t2 && Γ.free t3 && Γ.free t4 && Γ.free tv) = true) (hf : fieldOff P T kf = some o) (ho1 : one P ys = true) (hat : σ.lay.at i = some (o, ty)) (hpl : ty.plain = true) :
  Emit P Γ ok (.seq (.region id #[⟨some t1, .move (.tmp σ.s), y1, s1, e1, none⟩, ⟨some t2, .nilCheck (.tmp t1), y2, s2, e2, none⟩, ⟨some t3, .fieldAddr T (.tmp t2) kf, y3, s3, e3, none⟩, ⟨some t4, .load ys (.tmp t3), y4, s4, e4, none⟩, ⟨some tv, .assign (.tmp t4), y5, s5, e5, none⟩] false) c) (preD σ i E) := by
 rintro x bs out a w ho hA ⟨F, blk, off, v, hp, hC, hF, hbk, rfl⟩ hl
 simp only [Bool.and_eq_true] at hs
 obtain ⟨⟨⟨⟨f1, f2⟩, f3⟩, f4⟩, fv⟩ := hs
 obtain ⟨C, tC, hC1, hC2, hC3, _⟩ := hC.mem
 obtain ⟨z, hz, hrep⟩ := RepL.get _ _ _ _ _ _ hat hC3
 have hzd : v.1.getD i .nul = z := by rw [List.getD_eq_getElem?_getD, hz]; rfl
 rw [hzd] at hl ⊢
 obtain ⟨hnu, hrv⟩ : (from' C off o ≠ undef /\ (from' C off o).oneCell' = true) /\ RepV w F ty (from' C off o) z := rep_one hpl hrep
 have hcell : w.cell? ⟨blk, off + o, none⟩ = some (from' C off o) := by
  rw [Zc hC1]
  simp only [from', Array.getD_eq_getD_getElem?] at hnu ⊢
  cases hc : C[off + o]? with
  | none => rw [hc] at hnu; exact (hnu.1 rfl).elim
  | some q => rfl
 refine wp_seq (wp_region_lit (Zv rfl Zm (Zv rfl (x_nilCheck (q := ⟨blk, off, none⟩) ?_) (Zv rfl (Za hf (b := blk) (o0 := off) ?_) (Zv rfl (Zl ho1 (b := blk) (o := off + o) (v := from' C off o) ?_ hcell) (Zv rfl Zi (wpList_nil ?_)))))))
 ·rw [Ze, Zq (hA.lt f1), Ze, hp]
 ·rw [Ze, Zq (by rw [Zs]; exact hA.lt f2)]
 ·rw [Ze, Zq (by simp only [Zs]; exact hA.lt f3)]
 refine wp_mono (h x _ out _ w ho (((((hA.put f1 _).put f2 _).put f3 _).put f4 _).put fv _) ⟨F, z, ?_, hF, rfl⟩ hl) ?_
 ·rw [Zq (by simp only [Zs]; exact hA.lt fv), Ze, Zq (by simp only [Zs]; exact hA.lt f4)]
  exact hrv
 rintro e a2 w2 ⟨rfl, g1, g2, g3⟩
 refine ⟨rfl, g1, ?_, g3⟩
 refine SameBut.trans ?_ (g2.mono fun t ht => by simp only [W, writes, List.mem_append] at *; exact .inr ht)
 exact (((((SameBut.refl a).put (by simp [W, writes]) _).put (by simp [W, writes]) _).put (by simp [W, writes]) _).put (by simp [W, writes]) _).put (by simp [W, writes]) _
theorem hadW_of {k fr to nl tg d o : Int} {sub : List FD} {v : Int} (h1 : tg < 0) (h2 : fr <= v) (h3 : to < 0 \/ v <= to) : hadW (.mk k fr to nl tg d o sub) v = true := by
 show (decide (tg < 0) && (decide (fr <= v) && (decide (to < 0) || decide (v <= to)))) = true
 simp only [Bool.and_eq_true, Bool.or_eq_true, decide_eq_true_eq]
 exact ⟨h1, h2, h3⟩
/-- a field, if the version has it -/
def preH (σ : St) (i : Nat) (f : FD) : Pre := preD σ i (fun ver fl t => if hadW f ver = true then encW f ver fl t else [])
theorem emit_had {σ : St} {i : Nat} {f : FD} {E : Int -> Bool -> Tr -> List UInt8} (h : Emit P Γ ok c (preD σ i E)) (hh : ∀ v l, ok v l -> hadW f v = true) (hE : ∀ v l t, ok v l -> encW f v l t = E v l t) : Emit P Γ ok c (preH σ i f) := by
 refine emit_mono h ?_
 rintro x a w bs ho ⟨F, blk, off, v, h1, h2, h3, h4, h5⟩
 refine ⟨F, blk, off, v, h1, h2, h3, h4, ?_⟩
 simp only [hh _ _ ho, if_true, hE _ _ _ ho] at h5
 exact h5
/-- what is left of a struct is to be written: fields, tags -/
def preS (σ : St) (i : Nat) (fs : List FD) : Pre := fun x a w bs => ∃ F blk off v, Act.get a σ.s = .pointer (some ⟨blk, off, none⟩) /\ Cur σ F blk off v w /\ (∀ k, F k -> k < x.base) /\ blk < x.base /\ bs = encsW fs x.ver x.flex (v.1.drop i) ++ (if x.flex then tagsE v.2 else [])
theorem preS_stable {σ : St} {i : Nat} {fs : List FD} : Stable (preS σ i fs) [σ.s] := by
 rintro x a a' w w' bs hr hm ⟨F, blk, off, v, h1, h2, h3, h4, h5⟩
 exact ⟨F, blk, off, v, (hr σ.s (by simp)).trans h1, h2.later hm (fun e => by omega) (fun k hk e => by have := h3 k hk; omega), h3, h4, h5⟩
theorem preS_split {σ : St} {i o : Nat} {f : FD} {fs : List FD} {ty : Ty} (hat : σ.lay.at i = some (o, ty)) {x : Wx} {a : Act} {w : World} {bs : List UInt8} (h : preS σ i (f :: fs) x a w bs) : ∃ d1 d2, bs = d1 ++ d2 /\ preH σ i f x a w d1 /\ preS σ (i + 1) fs x a w d2 := by
 obtain ⟨F, blk, off, v, h1, h2, h3, h4, h5⟩ := h
 obtain ⟨C, tC, hC1, hC2, hC3, _⟩ := h2.mem
 obtain ⟨z, hz, _⟩ := RepL.get _ _ _ _ _ _ hat hC3
 obtain ⟨hi, hzi⟩ := List.getElem?_eq_some_iff.1 hz
 have hd : v.1.drop i = z :: v.1.drop (i + 1) := by rw [List.drop_eq_getElem_cons hi, hzi]
 have hzd : v.1.getD i .nul = z := by rw [List.getD_eq_getElem?_getD, hz]; rfl
 refine ⟨if hadW f x.ver = true then encW f x.ver x.flex z else [], encsW fs x.ver x.flex (v.1.drop (i + 1)) ++ (if x.flex then tagsE v.2 else []), ?_, ⟨F, blk, off, v, h1, h2, h3, h4, by rw [hzd]⟩, ⟨F, blk, off, v, h1, h2, h3, h4, rfl⟩⟩
 rw [h5, hd]
 simp only [encsW, List.append_assoc]
theorem emit_fields {σ : St} {i o : Nat} {f : FD} {fs : List FD} {ty : Ty} (hat : σ.lay.at i = some (o, ty)) (h1 : Emit P Γ ok c1 (preH σ i f)) (h2 : Emit P Γ ok c2 (preS σ (i + 1) fs)) (hl : leaves c1 [σ.s] = true) : Emit P Γ ok (.seq c1 c2) (preS σ i (f :: fs)) :=
 emit_mono (emit_seq h1 h2 preS_stable hl) fun x a w bs _ hp => preS_split hat hp
end
theorem taglen_c {w : World} {F : Nat -> Prop} {blk off : Nat} {mv : Value} {u : Tags} (hcell : w.cell? ⟨blk, off, none⟩ = some mv) (hT : TagsR w F mv u) :
  Calls Tryz.prog 52 #[.pointer (some ⟨blk, off, none⟩)] w fun e w' => e = .returned (.int .i64 u.length) /\ w = w' := by
 obtain ⟨hF0, h1M, hM, hSM⟩ := tagTypes
 refine calls_of_wp Tryz.func52 rfl ?_
 rw [Tryz.ntmps52]
 refine wp_act (fun a : Act => Act.get a 0 = .pointer (some ⟨blk, off, none⟩) /\ a.tmps.size = 8 /\ a.defers = []) ⟨by rw [Zj _ _ _ (by simp)]; rfl, by simp, rfl⟩ ?_
 rintro a ⟨a0, aN, ad⟩
 refine wp_seq (wp_region_lit (Zv rfl Zi (wpList_nil ?_)))
 have hlen : ∀ a' : Act, Act.get a' 6 = mv -> (execOp a'.eval ⟨some 7, .call ⟨.builtin .len, #[.tmp 6], #[53]⟩, 3, "api.go:383", #[⟨3, .data⟩], none⟩).run Tryz.prog w = .ok (.value (.int .i64 u.length)) w := by
  intro a' h6
  rcases hT with ⟨h1, h2⟩ | ⟨r, es, clock, h1, h2, h3, h4, hl, h5, kb, k1, k2, k3, k4⟩
  ·subst h2
   exact x_lenMap0 hM rfl (by rw [Ze, h6, h1])
  ·have := x_lenMap (P := Tryz.prog) (ρ := a'.eval) (w := w) (d := some 7) (ty := 3) (p := "api.go:383") (af := #[⟨3, .data⟩]) (g := none) (x := .tmp 6) (ts := #[53]) hM rfl (by rw [Ze, h6, h2]) h3
   rw [<- k2, k1.length_eq] at this
   exact this
 refine wp_seq (wp_region_lit (Zv rfl Zm (Zv rfl (x_nilCheck (q := ⟨blk, off, none⟩) ?_) (Zv rfl (Za hF0 (b := blk) (o0 := off) ?_) (Zv rfl (Zl h1M (b := blk) (o := off + 0) (v := mv) ?_ hcell) (Zv rfl (hlen _ ?_) (Zv rfl Zi (wpList_nil (wp_ret ?_)))))))))
 ·simp (disch := first | omega | simp only [Zs]; omega) only [Zo, Ze, Zn, Zq, a0]
 ·simp (disch := first | omega | simp only [Zs]; omega) only [Zo, Ze, Zn, Zq]
 ·simp (disch := first | omega | simp only [Zs]; omega) only [Zo, Ze, Zn, Zq]
 ·simp (disch := first | omega | simp only [Zs]; omega) only [Zo, Ze, Zn, Zq]
 refine bodyPost_ret (results_tmp rfl _ _ _) ?_ ⟨?_, rfl⟩
 ·simp only [Zd]; exact ad
 ·rw [show ∀ (a : Act), a.tmps.getD 2 undef = Act.get a 2 from fun _ => rfl]
  simp (disch := first | omega | simp only [Zs]; omega) only [Zo, Ze, Zn, Zq]
theorem own_ne {w : World} {base bx : Nat} {v : Value} {bs : List UInt8} {C : Array Value} {T : Nat} {fr : Nat × Nat} (h : OwnB w base v bs) (hb : w.heap[bx]? = some (.cells C T fr)) (hT : T ≠ 5) : v.ownBlock ≠ some bx := by
 intro e
 rcases h.2 with ⟨h1, _⟩ | ⟨g, cap, cur, h1, h2, h3, _⟩
 ·rw [h1] at e; simp [Value.ownBlock] at e
 ·rw [h1] at e
  obtain rfl : g = bx := by simpa [Value.ownBlock] using e
  rw [hb] at h3
  simp at h3
  exact hT h3.2.1
theorem own_one {w : World} {base : Nat} {v : Value} {bs : List UInt8} (h : OwnB w base v bs) : v.oneCell' = true := by
 obtain ⟨ao, cap, e⟩ := h.slice
 rw [e]; rfl
/-- the box is set to what was put behind its octets -/
theorem box_step {w w1 : World} {base bx : Nat} {dv v1 : Value} {out out1 : List UInt8} (hbx : w.heap[bx]? = some (.cells #[dv] 22 (0, 0))) (hown : OwnB w base dv out) (h1 : OwnB w1 base v1 out1) (hf : Fine dv v1 w w1) :
  w1.heap[bx]? = some (.cells #[dv] 22 (0, 0)) /\ (w1.setCell ⟨bx, 0, none⟩ v1).heap[bx]? = some (.cells #[v1] 22 (0, 0)) /\ OwnB (w1.setCell ⟨bx, 0, none⟩ v1) base v1 out1 /\ Mod (fun k => dv.ownBlock = some k \/ k = bx) w (w1.setCell ⟨bx, 0, none⟩ v1) := by
 have hne : ¬ dv.ownBlock = some bx := own_ne hown hbx (by decide)
 have hb1 := hf.mod.some hbx hne
 have hm : Mod (only bx) w1 (w1.setCell ⟨bx, 0, none⟩ v1) := (Mod.refl w1).put _ _
 have hne1 : ¬ v1.ownBlock = some bx := own_ne h1 hb1 (by decide)
 refine ⟨hb1, ?_, ownsRow_mod h1 hm (fun k hk e => hne1 (by rw [hk]; exact congrArg some e)), hf.mod.trans' hm (fun i _ e => .inl e) (fun i _ e => .inr e)⟩
 rw [heap_setCell_same hb1]; rfl
theorem box_types : one Tryz.prog 22 = true /\ sized Tryz.prog 22 1 = true := ⟨by kernel_rfl, by kernel_rfl⟩
/-- one tag is put behind octets that lie in a box -/
theorem apclo_c {w : World} {F : Nat -> Prop} {base bx : Nat} {dv val : Value} {out bs : List UInt8} {key : Int} {nl : Bool} (hbx : w.heap[bx]? = some (.cells #[dv] 22 (0, 0))) (hown : OwnB w base dv out) (hbase : base <= w.heap.size) (hk : 0 <= key /\ key < 4294967296) (ho : Oct w F val bs nl) (hbl : bs.length <= 4294967295) (hF : ∀ k, F k -> k ≠ bx /\ dv.ownBlock ≠ some k)
  (hl : out.length + (tagE (key, bs)).length <= 4294967296) : Calls Tryz.prog 80 #[.int .u32 key, val, .pointer (some ⟨bx, 0, none⟩)] w fun e w' => (∃ r, e = .returned r) /\
   ∃ dv', w'.heap[bx]? = some (.cells #[dv'] 22 (0, 0)) /\ OwnB w' base dv' (out ++ tagE (key, bs)) /\ Mod (fun k => dv.ownBlock = some k \/ k = bx) w w' /\ ∀ k, dv'.ownBlock = some k -> dv.ownBlock = some k \/ w.heap.size <= k := by
 obtain ⟨h1S, hsS⟩ := box_types
 simp only [tagE, List.length_append] at hl
 have ho' := ho.lt'
 have hbw := lt_of_block hbx
 refine calls_of_wp Tryz.func80 rfl ?_
 rw [Tryz.ntmps80]
 refine wp_act (fun a : Act => Act.get a 0 = .int .u32 key /\ Act.get a 1 = val /\ Act.get a 2 = .pointer (some ⟨bx, 0, none⟩) /\ a.tmps.size = 16 /\ a.defers = []) ⟨by rw [Zj _ _ _ (by simp)]; rfl, by rw [Zj _ _ _ (by simp)]; rfl, by rw [Zj _ _ _ (by simp)]; rfl, by simp, rfl⟩ ?_
 rintro a ⟨a0, a1, a2, aN, ad⟩
 -- the key
 refine wp_seq (wp_region_lit (Zv rfl (Zl h1S (b := bx) (o := 0) (v := dv) ?_ (by rw [Zc hbx]; rfl)) (Zv rfl Zm (wpl_call rfl (Zy (by kernel_rfl) rfl) (R := fun e w' => ∃ v, e = .returned v /\ OwnB w' base v (out ++ uvE key.toNat) /\ Fine dv v w w') ?_ ?_))))
 ·simp (disch := first | omega | simp only [Zs]; omega) only [Zo, Ze, Zn, Zq, a2]
 ·rw [show ∀ a : Act, (#[Operand.tmp 5, .tmp 6] : Array Operand).map a.eval = #[Act.get a 5, Act.get a 6] from fun a => by simp [Ze]]
  simp (disch := first | omega | simp only [Zs]; omega) only [Zo, Ze, Zn, Zq, a0]
  have h := app_uv (n := key.toNat) (by omega) hown hbase (by omega)
  rw [show ((key.toNat : Nat) : Int) = key by omega] at h
  exact h.out
 rintro e w1 ⟨v1, rfl, o1, f1⟩
 obtain ⟨g1, g2, g3, g4⟩ := box_step hbx hown o1 f1
 refine ⟨_, rfl, wpl_skip rfl (x_store1 hsS (b := bx) (o := 0) (v := v1) (u := dv) ?_ ?_ (own_one o1) (by rw [Zc g1]; rfl) (Zz g1)) (wpList_nil ?_)⟩
 ·simp (disch := first | omega | simp only [Zs]; omega) only [Zo, Ze, Zn, Zq, a2]
 ·simp (disch := first | omega | simp only [Zs]; omega) only [Zo, Ze, Zn, Zq]
 generalize w1.setCell ⟨bx, 0, none⟩ v1 = w2 at *
 refine wp_act (fun a : Act => Act.get a 1 = val /\ Act.get a 2 = .pointer (some ⟨bx, 0, none⟩) /\ a.tmps.size = 16 /\ a.defers = []) ⟨?_, ?_, ?_, ?_⟩ ?_
 ·simp (disch := first | omega | simp only [Zs]; omega) only [Zo, Ze, Zn, Zq, a1]
 ·simp (disch := first | omega | simp only [Zs]; omega) only [Zo, Ze, Zn, Zq, a2]
 ·simp only [Zs]; exact aN
 ·simp only [Zd]; exact ad
 clear a0 a1 a2 aN ad
 rintro a ⟨a1, a2, aN, ad⟩
 have hF2 : ∀ k, F k /\ k < w.heap.size -> ¬ (dv.ownBlock = some k \/ k = bx) := fun k hk e => by rcases e with e | e; exact (hF k hk.1).2 e; exact (hF k hk.1).1 e
 have oc2 : Oct w2 (fun k => F k /\ k < w.heap.size) val bs nl := ho'.mod g4 hF2 (fun _ h => h)
 have hs2 := g4.size
 obtain ⟨vo, vc, hvs, _⟩ := oct_slice oc2
 -- how many octets
 refine wp_seq (wp_region_lit (Zv rfl (Zl h1S (b := bx) (o := 0) (v := v1) ?_ (by rw [Zc g2]; rfl)) (Zv rfl Zm (Zv rfl (x_len (n := bs.length) (cap := vc) (ao := vo) (by kernel_rfl) rfl ?_) (Zv rfl (x_convInt (n := (bs.length : Nat)) (k := .i64) (k' := .u32) (by kernel_rfl) (by kernel_rfl) ?_)
  (wpl_call rfl (Zy (by kernel_rfl) rfl) (R := fun e w' => ∃ v, e = .returned v /\ OwnB w' base v ((out ++ uvE key.toNat) ++ uvE (bs.length % 4294967296)) /\ Fine v1 v w2 w') ?_ ?_))))))
 ·simp (disch := first | omega | simp only [Zs]; omega) only [Zo, Ze, Zn, Zq, a2]
 ·simp (disch := first | omega | simp only [Zs]; omega) only [Zo, Ze, Zn, Zq, a1]
  exact hvs
 ·simp (disch := first | omega | simp only [Zs]; omega) only [Zo, Ze, Zn, Zq]
 ·rw [show ∀ a : Act, (#[Operand.tmp 8, .tmp 11] : Array Operand).map a.eval = #[Act.get a 8, Act.get a 11] from fun a => by simp [Ze]]
  simp (disch := first | omega | simp only [Zs]; omega) only [Zo, Ze, Zn, Zq]
  rw [show IntKind.u32.wrap ((bs.length : Nat) : Int) = ((bs.length % 4294967296 : Nat) : Int) by simp only [IntKind.wrap, IntKind.bits, IntKind.signed]; simp]
  exact (app_uv (n := bs.length % 4294967296) (by omega) g3 (by omega) (by simp only [List.length_append]; omega)).out
 rintro e w3 ⟨v3, rfl, o3, f3⟩
 obtain ⟨k1, k2, k3, k4⟩ := box_step g2 g3 o3 f3
 refine ⟨_, rfl, wpl_skip rfl (x_store1 hsS (b := bx) (o := 0) (v := v3) (u := v1) ?_ ?_ (own_one o3) (by rw [Zc k1]; rfl) (Zz k1)) (wpList_nil ?_)⟩
 ·simp (disch := first | omega | simp only [Zs]; omega) only [Zo, Ze, Zn, Zq, a2]
 ·simp (disch := first | omega | simp only [Zs]; omega) only [Zo, Ze, Zn, Zq]
 generalize w3.setCell ⟨bx, 0, none⟩ v3 = w4 at *
 refine wp_act (fun a : Act => Act.get a 1 = val /\ Act.get a 2 = .pointer (some ⟨bx, 0, none⟩) /\ a.tmps.size = 16 /\ a.defers = []) ⟨?_, ?_, ?_, ?_⟩ ?_
 ·simp (disch := first | omega | simp only [Zs]; omega) only [Zo, Ze, Zn, Zq, a1]
 ·simp (disch := first | omega | simp only [Zs]; omega) only [Zo, Ze, Zn, Zq, a2]
 ·simp only [Zs]; exact aN
 ·simp only [Zd]; exact ad
 clear a1 a2 aN ad
 rintro a ⟨a1, a2, aN, ad⟩
 have hown1 : ∀ k, v1.ownBlock = some k -> dv.ownBlock = some k \/ w.heap.size <= k := f1.own
 have hs4 := k4.size
 have hF4 : ∀ k, F k /\ k < w.heap.size -> ¬ (v1.ownBlock = some k \/ k = bx) := fun k hk e => by
  rcases e with e | e
  ·rcases f1.own k e with h | h
   ·exact (hF k hk.1).2 h
   ·omega
  ·exact (hF k hk.1).1 e
 have oc4 : Oct w4 (fun k => F k /\ k < w.heap.size) val bs nl := oc2.mod k4 hF4 (fun _ h => h)
 -- the octets
 refine wp_region_lit (Zv rfl (Zl h1S (b := bx) (o := 0) (v := v3) ?_ (by rw [Zc k2]; rfl)) (Zv rfl Zm (wpl_octsF (base := base) (v := v3) (xv := val) (cs := bs) octs_info ?_ ?_ k3 (OctI.of_oct oc4) (by simp only [List.length_append]; omega) (by omega) ?_)))
 ·simp (disch := first | omega | simp only [Zs]; omega) only [Zo, Ze, Zn, Zq, a2]
 ·simp (disch := first | omega | simp only [Zs]; omega) only [Zo, Ze, Zn, Zq]
 ·simp (disch := first | omega | simp only [Zs]; omega) only [Zo, Ze, Zn, Zq, a1]
 intro v5 w5 o5 f5
 obtain ⟨q1, q2, q3, q4⟩ := box_step k2 k3 o5 f5
 refine wpl_skip rfl (x_store1 hsS (b := bx) (o := 0) (v := v5) (u := v3) ?_ ?_ (own_one o5) (by rw [Zc q1]; rfl) (Zz q1)) (wpList_nil ?_)
 ·simp (disch := first | omega | simp only [Zs]; omega) only [Zo, Ze, Zn, Zq, a2]
 ·simp (disch := first | omega | simp only [Zs]; omega) only [Zo, Ze, Zn, Zq]
 have hv3 : ∀ k, v3.ownBlock = some k -> dv.ownBlock = some k \/ w.heap.size <= k := fun k e => by
  rcases f3.own k e with h | h
  ·exact f1.own k h
  ·exact .inr (by omega)
 refine bodyPost_end (v := .tuple #[]) (by simp [results, Tryz.f80]) ?_ ⟨⟨_, rfl⟩, v5, q2, ?_, ?_, fun k e => ?_⟩
 ·simp only [Zd]; exact ad
 ·simp only [tagE]
  simpa only [List.append_assoc] using q3
 ·refine (g4.trans' k4 (fun _ _ h => h) (fun i hi e => ?_)).trans' q4 (fun _ _ h => h) (fun i hi e => ?_)
  ·rcases e with e | e
   ·rcases f1.own i e with h | h
    ·exact .inl h
    ·omega
   ·exact .inr e
  ·rcases e with e | e
   ·rcases hv3 i e with h | h
    ·exact .inl h
    ·omega
   ·exact .inr e
 ·rcases f5.own k e with h | h
  ·exact hv3 k h
  ·exact .inr (by omega)
/-- tags are put behind octets -/
theorem appeach_c {w : World} {F : Nat -> Prop} {base blk off : Nat} {mv dv : Value} {u : Tags} {out : List UInt8} (hcell : w.cell? ⟨blk, off, none⟩ = some mv) (hT : TagsR w F mv u) (hF : ∀ k, F k -> k < base) (hblk : blk < base) (hown : OwnB w base dv out) (hbase : base <= w.heap.size)
  (hl : out.length + (u.flatMap tagE).length <= 4294967296) : Calls Tryz.prog 53 #[.pointer (some ⟨blk, off, none⟩), dv] w fun e w' => ∃ v, e = .returned v /\ OwnB w' base v (out ++ u.flatMap tagE) /\ Mod (fun k => base <= k) w w' := by
 obtain ⟨h1S, hsS⟩ := box_types
 refine calls_of_wp Tryz.func53 rfl ?_
 rw [Tryz.ntmps53]
 refine wp_act (fun a : Act => Act.get a 0 = .pointer (some ⟨blk, off, none⟩) /\ Act.get a 1 = dv /\ a.tmps.size = 9 /\ a.defers = []) ⟨by rw [Zj _ _ _ (by simp)]; rfl, by rw [Zj _ _ _ (by simp)]; rfl, by simp, rfl⟩ ?_
 rintro a ⟨a0, a1, aN, ad⟩
 refine wp_seq (wp_region_lit (Zv rfl x_box (Zv rfl Zi (wpList_nil ?_))))
 rw [show (a.eval (.tmp 1)).cells = #[dv] from by rw [Ze, a1]; exact one_cells (own_one hown)]
 have b3 := Zh w (.cells #[dv] 22)
 have m0 : Mod none' w (w.alloc (.cells #[dv] 22)) := (Mod.refl w).alloc _
 have hsz : (w.alloc (.cells #[dv] 22)).heap.size = w.heap.size + 1 := by simp
 generalize w.alloc (.cells #[dv] 22) = w1 at *
 obtain ⟨bx, hbx⟩ : ∃ x, x = w.heap.size := ⟨_, rfl⟩
 rw [<- hbx] at b3 ⊢
 refine wp_act (fun a : Act => Act.get a 0 = .pointer (some ⟨blk, off, none⟩) /\ Act.get a 3 = .pointer (some ⟨bx, 0, none⟩) /\ a.tmps.size = 9 /\ a.defers = []) ⟨?_, ?_, ?_, ?_⟩ ?_
 ·simp (disch := first | omega | simp only [Zs]; omega) only [Zo, Ze, Zn, Zq, a0]
 ·simp (disch := first | omega | simp only [Zs]; omega) only [Zo, Ze, Zn, Zq]
 ·simp only [Zs]; exact aN
 ·simp only [Zd]; exact ad
 clear a0 a1 aN ad
 rintro a ⟨a0, a3, aN, ad⟩
 have hcell1 : w1.cell? ⟨blk, off, none⟩ = some mv := by
  have hb : blk < w.heap.size := World.block_lt_of_cell? _ _ hcell
  rw [World.cell?_of_block (m0.block _ hb (fun f => f))]; exact hcell
 have hT1 : TagsR w1 F mv u := hT.mod m0 (fun _ _ f => f) (fun _ h => h)
 have hown1 : OwnB w1 base dv out := hown.mod m0 (fun _ _ f => f)
 have hkeys : ∀ p ∈ u, 0 <= p.1 /\ p.1 < 4294967296 /\ p.2.length <= 4294967295 := by
  rcases hT with ⟨_, h⟩ | ⟨r, es, cl, _, _, _, h1, h2, h3, _⟩
  ·rw [h]; simp
  ·exact h3
 refine wp_seq (wp_region_lit (Zv rfl Zm (Zv rfl x_makeFunc (wpl_call rfl (Zy (by kernel_rfl) rfl)
  (R := fun e w' => (∃ r, e = .returned r) /\ (∃ B, w1.heap.size <= B /\ B <= w'.heap.size /\ ∃ dv', w'.heap[bx]? = some (.cells #[dv'] 22 (0, 0)) /\ OwnB w' base dv' (out ++ u.flatMap tagE) /\ ∀ k, dv'.ownBlock = some k -> k < w1.heap.size \/ B <= k) /\ Mod (fun k => base <= k /\ k < w1.heap.size) w1 w') ?_ ?_))))
 ·rw [show ∀ a : Act, (#[Operand.tmp 5, .tmp 6] : Array Operand).map a.eval = #[Act.get a 5, Act.get a 6] from fun a => by simp [Ze]]
  simp (disch := first | omega | simp only [Zs]; omega) only [Zo, Ze, Zn, Zq, a0]
  rw [show (#[Operand.tmp 3] : Array Operand).map (Act.eval (a.put (some 5) (.pointer (some ⟨blk, off, none⟩)))) = #[.pointer (some ⟨bx, 0, none⟩)] from by
   simp only [List.map_toArray, List.map_cons, List.map_nil]
   simp (disch := first | omega | simp only [Zs]; omega) only [Zo, Ze, Zn, Zq, a3]]
  refine each_spec w1 blk off mv u F 80 #[.pointer (some ⟨bx, 0, none⟩)] (fun k => base <= k /\ k < w1.heap.size)
   (fun B pre w' => ∃ dv', w'.heap[bx]? = some (.cells #[dv'] 22 (0, 0)) /\ OwnB w' base dv' (out ++ pre.flatMap tagE) /\ ∀ k, dv'.ownBlock = some k -> k < w1.heap.size \/ B <= k) hcell1 hT1 (fun h => by have := h.1; omega) (fun k hk h => by have := hF k hk; have := h.1; omega) (fun k h => h.2) (by kernel_rfl) ?_ ?_
  ·intro B w' h1 h2 hm
   refine ⟨dv, hm.some b3 (fun f => f), ?_, fun k hk => .inl (World.ownsRow.lt hown1 k hk).2⟩
   simp only [List.flatMap_nil, List.append_nil]
   exact hown1.mod hm (fun _ _ f => f)
  ·rintro B pre p suf w2 val nl hu hB hBw ⟨dv', g1, g2, g3⟩ hoct hkey
   have hlu : (out ++ pre.flatMap tagE).length + (tagE (p.1, p.2)).length <= 4294967296 := by
    rw [hu] at hl
    show (out ++ pre.flatMap tagE).length + (tagE p).length <= 4294967296
    simp only [List.flatMap_append, List.flatMap_cons, List.length_append] at hl ⊢
    omega
   refine (apclo_c (F := F) g1 g2 (by omega) ⟨hkey.1, hkey.2.1⟩ hoct hkey.2.2 (fun k hk => ⟨by have := hF k hk; omega, fun e => by have := hF k hk; have := (World.ownsRow.lt g2 k e).1; omega⟩) hlu).mono ?_
   rintro e w3 ⟨hr, dv2, k1, k2, k3, k4⟩
   refine ⟨hr, ⟨dv2, k1, ?_, fun k e => ?_⟩, k3.mono fun k _ e => ?_⟩
   ·simp only [List.flatMap_append, List.flatMap_cons, List.flatMap_nil, List.append_nil]
    rw [<- List.append_assoc]; exact k2
   ·rcases k4 k e with h | h
    ·exact g3 k h
    ·exact .inr (by omega)
   ·rcases e with e | e
    ·have := (World.ownsRow.lt g2 k e).1
     rcases g3 k e with h | h
     ·exact .inl ⟨this, h⟩
     ·exact .inr h
    ·exact .inl ⟨by omega, by omega⟩
 rintro e w2 ⟨⟨r, rfl⟩, ⟨B, h1, h2, dv', g1, g2, g3⟩, hm⟩
 refine ⟨r, rfl, wpList_nil ?_⟩
 refine wp_seq (wp_region_lit (Zv rfl (Zl h1S (b := bx) (o := 0) (v := dv') ?_ (by rw [Zc g1]; rfl)) (Zv rfl Zi (wpList_nil (wp_ret ?_)))))
 ·simp (disch := first | omega | simp only [Zs]; omega) only [Zo, Ze, Zn, Zq, a3]
 refine bodyPost_ret (results_tmp rfl _ _ _) ?_ ⟨_, rfl, ?_, m0.none.trans (hm.mono fun k _ e => e.1)⟩
 ·simp only [Zd]; exact ad
 ·rw [show ∀ (a : Act), a.tmps.getD 4 undef = Act.get a 4 from fun _ => rfl]
  simp (disch := first | omega | simp only [Zs]; omega) only [Zo, Ze, Zn, Zq]
  exact g2
section
variable {P : Program} {Γ : Wl} {ok ok' : OkV} {id id' i0 i1 i2 i3 b0 b1 : Nat} {c c0 c1 c2 : Code} {pre p1 p2 : Pre} {rs : List Nat} {q : Int -> Bool -> Bool}
 {y1 y2 y3 y4 y5 y6 y7 y8 y9 yg yh yg' yh' z1 z2 z3 z4 z5 z6 : TypeId} {s1 s2 s3 s4 s5 s6 s7 s8 s9 r1 r2 r3 r4 r5 r6 : String} {e1 e2 e3 e4 e5 e6 e7 e8 e9 f1 f2 f3 f4 f5 f6 : Array Edge} {ts ts' ts1 ts2 : Array TypeId} {u t t1 t2 t3 t4 t5 t6 t7 t8 t9 tv : Nat} {k : Int} {d1 d2 d3 d4 d5 : Nat}
theorem cur_tags {σ : St} {F : Nat -> Prop} {blk off o : Nat} {v : SV} {w : World} (hC : Cur σ F blk off v w) (htg : σ.tg = some o) : ∃ mv, w.cell? ⟨blk, off + o, none⟩ = some mv /\ TagsR w F mv v.2 := by
 obtain ⟨C, tC, hC1, hC2, _, hC4⟩ := hC.mem
 rw [htg] at hC4
 obtain ⟨mv, hmv⟩ : ∃ mv, mv = from' C off o := ⟨_, rfl⟩
 replace hC4 : TagsR w F mv v.2 := by rw [hmv]; exact hC4
 refine ⟨mv, ?_, hC4⟩
 have hnu : mv ≠ undef := by rcases hC4 with ⟨h, _⟩ | ⟨r, _, _, _, h, _⟩ <;> (rw [h]; simp [undef])
 rw [Zc hC1]
 simp only [from', Array.getD_eq_getD_getElem?] at hmv
 cases hc : C[off + o]? with
 | none => rw [hc] at hmv; exact (hnu hmv).elim
 | some q => rw [hc] at hmv; simp at hmv; rw [hmv]
/-- what is made of a struct's tags is to be written -/
def preT (σ : St) (E : Tags -> List UInt8) : Pre := fun x a w bs => ∃ F blk off v, Act.get a σ.s = .pointer (some ⟨blk, off, none⟩) /\ Cur σ F blk off v w /\ (∀ k, F k -> k < x.base) /\ blk < x.base /\ bs = E v.2
theorem preT_stable {σ : St} {E : Tags -> List UInt8} : Stable (preT σ E) [σ.s] := by
 rintro x a a' w w' bs hr hm ⟨F, blk, off, v, h1, h2, h3, h4, h5⟩
 exact ⟨F, blk, off, v, (hr σ.s (by simp)).trans h1, h2.later hm (fun e => by omega) (fun k hk e => by have := h3 k hk; omega), h3, h4, h5⟩
theorem emit_tagn {σ : St} {T kf o yc yc' : Nat} (hok : Γ.ok = true) (hs : (Γ.free t1 && Γ.free t2 && Γ.free t3 && Γ.free t4 && Γ.free t5 && Γ.free t6 && Γ.free t7 && Γ.free t8) = true) (hn : [t1, t2, t3, t4, t5, t6, t7].Nodup /\ t1 ≠ σ.s)
  (htg : σ.tg = some o) (hf : fieldOff Tryz.prog T kf = some o) (hc1 : intTy Tryz.prog yc .i64 = true) (hc2 : intTy Tryz.prog yc' .u32 = true) :
  Emit Tryz.prog Γ ok (.region i1 #[⟨some t1, .move (.tmp 1), y2, s2, e2, none⟩, ⟨some t2, .move (.tmp σ.s), y3, s3, e3, none⟩, ⟨some t3, .nilCheck (.tmp t2), y4, s4, e4, none⟩, ⟨some t4, .fieldAddr T (.tmp t3) kf, y5, s5, e5, none⟩, ⟨some t5, .call ⟨.value (.func 52), #[.tmp t4], ts⟩, y6, s6, e6, none⟩,
     ⟨some t6, .convert yc yc' (.tmp t5), y7, s7, e7, none⟩, ⟨some t7, .binOp .add yg (.const (.int .u32 0)) (.tmp t6) yh, y8, s8, e8, none⟩, ⟨some t8, .call ⟨.value (.func 51), #[.tmp t1, .tmp t7], ts'⟩, y9, s9, e9, none⟩, ⟨some 1, .assign (.tmp t8), z1, r1, f1, none⟩] false) (preT σ (fun u => uvE (u.length % 4294967296))) := by
 simp only [Bool.and_eq_true] at hs
 obtain ⟨⟨⟨⟨⟨⟨⟨g1, g2⟩, g3⟩, g4⟩, g5⟩, g6⟩, g7⟩, g8⟩ := hs
 obtain ⟨nt, ns⟩ := hn
 simp only [List.nodup_cons, List.mem_cons, List.not_mem_nil, or_false, not_or, not_false_eq_true, List.nodup_nil, and_true] at nt
 obtain ⟨⟨n12, n13, n14, n15, n16, n17⟩, _⟩ := nt
 rintro x bs out a w ho hA ⟨F, blk, off, v, hp, hC, hF, hbk, rfl⟩ hl
 obtain ⟨mv, hcell, hT⟩ := cur_tags hC htg
 have L : ∀ {t}, Γ.free t = true -> t < a.tmps.size := fun h => hA.lt h
 refine wp_region_lit (Zv rfl Zm (Zv rfl Zm (Zv rfl (x_nilCheck (q := ⟨blk, off, none⟩) ?_) (Zv rfl (Za hf (b := blk) (o0 := off) ?_) (wpl_call rfl (Zy (by kernel_rfl) rfl) (R := fun e w' => e = .returned (.int .i64 v.2.length) /\ w = w') ?_ ?_)))))
 ·rw [Ze, Zq (by rw [Zs]; exact L g2), Ze, Zn ns, hp]
 ·rw [Ze, Zq (by simp only [Zs]; exact L g3)]
 ·rw [show ∀ a : Act, (#[Operand.tmp t4] : Array Operand).map a.eval = #[Act.get a t4] from fun a => by simp [Ze], Zq (by simp only [Zs]; exact L g4)]
  exact taglen_c hcell hT
 rintro e w' ⟨rfl, rfl⟩
 refine ⟨_, rfl, Zv rfl (x_convInt (n := (v.2.length : Nat)) (k := .i64) (k' := .u32) hc1 hc2 ?_) (Zv rfl (x_add (k := .u32) (m := 0) (n := ((v.2.length % 4294967296 : Nat) : Int)) rfl ?_) (wpl_call rfl (Zy (by kernel_rfl) rfl) (R := fun e w' => ∃ z, e = .returned z /\ OwnB w' x.base z (out ++ uvE (v.2.length % 4294967296)) /\ Fine (Act.get a 1) z w w') ?_ ?_))⟩
 ·rw [Ze, Zq (by simp only [Zs]; exact L g5)]
 ·rw [Ze, Zq (by simp only [Zs]; exact L g6)]
  congr 1
 ·rw [show ∀ a : Act, (#[Operand.tmp t1, .tmp t7] : Array Operand).map a.eval = #[Act.get a t1, Act.get a t7] from fun a => by simp [Ze]]
  rw [Zq (by simp only [Zs]; exact L g7), Zn (Ne.symm n17), Zn (Ne.symm n16), Zn (Ne.symm n15), Zn (Ne.symm n14), Zn (Ne.symm n13), Zn (Ne.symm n12), Zq (L g1), Ze]
  rw [show IntKind.u32.wrap (0 + ((v.2.length % 4294967296 : Nat) : Int)) = ((v.2.length % 4294967296 : Nat) : Int) by simp only [IntKind.wrap, IntKind.bits, IntKind.signed]; simp]
  exact (app_uv (n := v.2.length % 4294967296) (by omega) hA.dst hA.base (by omega)).out
 rintro e w1 ⟨v1, rfl, o1, fn1⟩
 refine ⟨_, rfl, Zv rfl Zi (wpList_nil ⟨rfl, ?_, ?_, fn1.low hA.dst⟩)⟩
 ·refine ((((((((hA.put g1 _).put g2 _).put g3 _).put g4 _).put g5 _).put g6 _).put g7 _).put g8 _).setD hok (w' := w1) ?_ (by have := fn1.size; have := hA.base; omega)
  rw [Ze, Zq (by simp only [Zs]; exact L g8)]
  exact o1
 ·exact (((((((((SameBut.refl a).put (by simp [W, writes]) _).put (by simp [W, writes]) _).put (by simp [W, writes]) _).put (by simp [W, writes]) _).put (by simp [W, writes]) _).put (by simp [W, writes]) _).put (by simp [W, writes]) _).put (by simp [W, writes]) _).put (by simp [W, writes]) _
theorem emit_tage {σ : St} {T kf o : Nat} (hok : Γ.ok = true) (hs : (Γ.free d1 && Γ.free d2 && Γ.free d3 && Γ.free d4 && Γ.free d5) = true) (hn : [d1, d2, d3, d4].Nodup) (htg : σ.tg = some o) (hf : fieldOff Tryz.prog T kf = some o) :
  Emit Tryz.prog Γ ok (.region i2 #[⟨some d1, .move (.tmp σ.s), z2, r2, f2, none⟩, ⟨some d2, .nilCheck (.tmp d1), z3, r3, f3, none⟩, ⟨some d3, .fieldAddr T (.tmp d2) kf, z4, r4, f4, none⟩, ⟨some d4, .move (.tmp 1), z5, r5, f5, none⟩, ⟨some d5, .call ⟨.value (.func 53), #[.tmp d3, .tmp d4], ts1⟩, z6, r6, f6, none⟩, ⟨some 1, .assign (.tmp d5), yg', s1, e1, none⟩] false) (preT σ (fun u => u.flatMap tagE)) := by
 simp only [Bool.and_eq_true] at hs
 obtain ⟨⟨⟨⟨g1, g2⟩, g3⟩, g4⟩, g5⟩ := hs
 simp only [List.nodup_cons, List.mem_cons, List.not_mem_nil, or_false, not_or, not_false_eq_true, List.nodup_nil, and_true] at hn
 obtain ⟨⟨n12, n13, n14⟩, ⟨n23, n24⟩, n34⟩ := hn
 rintro x bs out a w ho hA ⟨F, blk, off, v, hp, hC, hF, hbk, rfl⟩ hl
 obtain ⟨mv, hcell, hT⟩ := cur_tags hC htg
 have L : ∀ {t}, Γ.free t = true -> t < a.tmps.size := fun h => hA.lt h
 have F1 : ∀ {t}, Γ.free t = true -> t ≠ 1 := fun h => (Wl.free_spec h).2.1
 refine wp_region_lit (Zv rfl Zm (Zv rfl (x_nilCheck (q := ⟨blk, off, none⟩) ?_) (Zv rfl (Za hf (b := blk) (o0 := off) ?_) (Zv rfl Zm (wpl_call rfl (Zy (by kernel_rfl) rfl) (R := fun e w' => ∃ z, e = .returned z /\ OwnB w' x.base z (out ++ v.2.flatMap tagE) /\ Mod (fun k => x.base <= k) w w') ?_ ?_)))))
 ·rw [Ze, Zq (L g1), Ze, hp]
 ·rw [Ze, Zq (by simp only [Zs]; exact L g2)]
 ·rw [show ∀ a : Act, (#[Operand.tmp d3, .tmp d4] : Array Operand).map a.eval = #[Act.get a d3, Act.get a d4] from fun a => by simp [Ze]]
  rw [Zn (Ne.symm n34), Zq (by simp only [Zs]; exact L g3), Zq (by simp only [Zs]; exact L g4), Ze, Zn (F1 g3), Zn (F1 g2), Zn (F1 g1)]
  exact appeach_c hcell hT hF hbk hA.dst hA.base hl
 rintro e w1 ⟨v1, rfl, o1, fn1⟩
 refine ⟨_, rfl, Zv rfl Zi (wpList_nil ⟨rfl, ?_, ?_, fn1⟩)⟩
 ·refine (((((hA.put g1 _).put g2 _).put g3 _).put g4 _).put g5 _).setD hok (w' := w1) ?_ (by have := fn1.size; have := hA.base; omega)
  rw [Ze, Zq (by simp only [Zs]; exact L g5)]
  exact o1
 ·exact ((((((SameBut.refl a).put (by simp [W, writes]) _).put (by simp [W, writes]) _).put (by simp [W, writes]) _).put (by simp [W, writes]) _).put (by simp [W, writes]) _).put (by simp [W, writes]) _
/-- the tags of a struct, of a message that is flexible -/
theorem emit_tags {σ : St} {i : Nat} (h1 : Emit P Γ (fun v l => ok v l /\ l = true) c1 (preT σ (fun u => uvE (u.length % 4294967296)))) (h2 : Emit P Γ (fun v l => ok v l /\ l = true) c2 (preT σ (fun u => u.flatMap tagE))) (hs : Γ.free t = true) (hn : (t != σ.s) = true) (hl : leaves c1 [σ.s] = true) :
  Emit P Γ ok (.seq (.region i0 #[⟨some t, .move (.tmp Γ.flex), y1, s1, e1, none⟩] false) (.cond (.tmp t) (.seq c1 c2) .skip)) (preS σ i []) := by
 refine emit_cond (rs := [σ.s]) (tstw_flex hs) (emit_mono (emit_seq h1 h2 preT_stable hl) ?_) (emit_skip ?_) preS_stable ?_
 ·rintro x a w bs ⟨ho, hfl⟩ ⟨F, blk, off, v, q1, q2, q3, q4, q5⟩
  have hfl' : x.flex = true := hfl
  refine ⟨_, _, ?_, ⟨F, blk, off, v, q1, q2, q3, q4, rfl⟩, ⟨F, blk, off, v, q1, q2, q3, q4, rfl⟩⟩
  rw [q5, hfl']; simp [encsW, tagsE]
 ·rintro x a w bs ⟨ho, hfl⟩ ⟨F, blk, off, v, h1, h2, h3, h4, h5⟩
  have hfl' : x.flex = false := hfl
  simpa [hfl', encsW] using h5
 ·have : t ≠ σ.s := by simpa using hn
  simp [leaves, writes, Ne.symm this]
/-- a slice value is a list of such things -/
def ListV (w : World) (F : Nat -> Prop) (e : Ty) (sz : Nat) (v : Value) (l : List Tr) : Prop := (v = .slice none 0 0 /\ l = []) \/ ∃ f, RowsAt w F v l.length sz f /\ l.length <= 4294967295 /\ ∀ i (h : i < l.length), Rep w F e (f i) l[i]
theorem ListV.mod {w w' : World} {F S : Nat -> Prop} {e : Ty} {sz : Nat} {v : Value} {l : List Tr} (h : ListV w F e sz v l) (hm : Mod S w w') (hs : ∀ k, F k -> ¬ S k) : ListV w' F e sz v l := by
 rcases h with h | ⟨f, h1, h2, h3⟩
 ·exact .inl h
 ·exact .inr ⟨f, h1.mod hm hs (fun _ h => h), h2, fun i hi => (h3 i hi).mod hm hs (fun _ h => h)⟩
theorem ListV.shape {w : World} {F : Nat -> Prop} {e : Ty} {sz : Nat} {v : Value} {l : List Tr} (h : ListV w F e sz v l) : ∃ ao cap, v = .slice ao l.length cap /\ l.length <= 4294967295 /\ (ao = none -> l = []) := by
 rcases h with ⟨rfl, rfl⟩ | ⟨f, ⟨k, cap, C, tc, _, e, _⟩, h2, _⟩
 ·exact ⟨none, 0, rfl, by simp, fun _ => rfl⟩
 ·exact ⟨_, cap, e, h2, fun h => by cases h⟩
/-- the things of a list are to be written -/
def preR (tv : Nat) (e : Ty) (sz : Nat) (E : Int -> Bool -> Tr -> List UInt8) : Pre := fun x a w bs => ∃ F l, ListV w F e sz (Act.get a tv) l /\ (∀ k, F k -> k < x.base) /\ bs = l.flatMap (E x.ver x.flex)
theorem preR_stable {e : Ty} {sz : Nat} {E : Int -> Bool -> Tr -> List UInt8} : Stable (preR tv e sz E) [tv] := by
 rintro x a a' w w' bs hr hm ⟨F, l, h1, h2, h3⟩
 refine ⟨F, l, ?_, h2, h3⟩
 rw [hr tv (by simp)]
 exact h1.mod hm (fun k hk e => by have := h2 k hk; omega)
/-- a thing of a list is to be written -/
def preE (tv tI : Nat) (e : Ty) (sz : Nat) (E : Int -> Bool -> Tr -> List UInt8) : Pre := fun x a w bs => ∃ (F : Nat -> Prop) (l : List Tr) (f : Nat -> Nat -> Value) (j : Nat), RowsAt w F (Act.get a tv) l.length sz f /\ ∃ hj : j < l.length, Rep w F e (f j) l[j] /\ (∀ k, F k -> k < x.base) /\ Act.get a tI = .int .i64 (j : Nat) /\ bs = E x.ver x.flex l[j]
theorem WA.same {Γ : Wl} {x : Wx} {out : List UInt8} {a b : Act} {w : World} {S : List Nat} (h : WA Γ x out a w) (hs : SameBut (fun t => t ∈ S) a b) (hf : S.all Γ.free = true) : WA Γ x out b w := by
 have hn : ∀ r, (∀ t ∈ S, t ≠ r) -> Act.get b r = Act.get a r := fun r hr => hs.get r (fun hm => hr r hm rfl)
 have hf' : ∀ t ∈ S, t ≠ 1 /\ t ≠ Γ.ver /\ t ≠ Γ.flex := fun t ht => (Wl.free_spec (List.all_eq_true.1 hf t ht)).2
 exact ⟨hs.size.trans h.size, hs.defers.trans h.defers, by rw [hn 1 (fun t ht => (hf' t ht).1)]; exact h.dst, (hn _ (fun t ht => (hf' t ht).2.1)).trans h.ver, (hn _ (fun t ht => (hf' t ht).2.2)).trans h.flex, h.base⟩
theorem emit_loop {LT sz : Nat} {e : Ty} {E : Int -> Bool -> Tr -> List UInt8} {tA tn ti tc td tE tI : Nat} {cb : Code} (h : Emit P Γ ok cb (preE tv tI e sz E))
  (hI : (elemSize P LT).isSome = true) (hts : ts[0]? = some LT)
  (hs : (Γ.free tv && Γ.free tA && Γ.free tn && Γ.free ti && Γ.free tc && Γ.free td && Γ.free tE && Γ.free tI && ([tA, tn, ti, tc, td, tE, tI].all fun t => t != tv) && [tA, tn, ti, tc, td, tE, tI].all (fun t => !(writes cb).contains t) && !(writes cb).contains tv && tn != ti && tn != tc && tn != td && tn != tE && tn != tI && tc != ti && tc != td && ti != td && tE != ti && tI != ti) = true) :
  Emit P Γ ok (.seq (.region i0 #[⟨some tA, .move (.tmp tv), y1, s1, e1, none⟩, ⟨some tn, .call ⟨.builtin .len, #[.tmp tA], ts⟩, y2, s2, e2, none⟩, ⟨some ti, .move (.const (.int .i64 0)), y3, s3, e3, none⟩] false)
   (.block b0 (.loop (.seq (.region i1 #[⟨some tc, .binOp .lss yg (.tmp ti) (.tmp tn) yh, y4, s4, e4, none⟩] false) (.seq (.cond (.tmp tc) .skip (.exit b0))
    (.seq (.block b1 (.seq (.region i2 #[⟨some tE, .move (.tmp ti), y5, s5, e5, none⟩, ⟨some tI, .assign (.tmp tE), y6, s6, e6, none⟩] false) cb)) (.region i3 #[⟨some td, .binOp .add yg' (.tmp ti) (.const (.int .i64 1)) yh', y7, s7, e7, none⟩, ⟨some ti, .move (.tmp td), y8, s8, e8, none⟩] false)))))))
   (preR tv e sz E) := by
 rintro x bs out a w ho hA ⟨F, l, hL, hF, rfl⟩ hl
 simp only [Bool.and_eq_true, Bool.not_eq_true', bne_iff_ne, List.all_cons, List.all_nil, and_true] at hs
 obtain ⟨⟨⟨⟨⟨⟨⟨⟨⟨⟨⟨⟨⟨⟨⟨⟨⟨⟨⟨⟨gv, gA⟩, gn⟩, gi⟩, gc⟩, gd⟩, gE⟩, gI⟩, vA, vn, vi, vc, vd, vE, vI⟩, wA, wn, wi, wc, wd, wE, wI⟩, wv⟩, nni⟩, nnc⟩, nnd⟩, nnE⟩, nnI⟩, nci⟩, ncd⟩, nid⟩, nEi⟩, nIi⟩ := hs
 obtain ⟨ao, cap, hv, hln, hnil⟩ := hL.shape
 have L : ∀ {t}, Γ.free t = true -> t < a.tmps.size := fun h => hA.lt h
 refine wp_seq (wp_region_lit (Zv rfl Zm (Zv rfl (x_len (n := l.length) (cap := cap) (ao := ao) hI hts ?_) (Zv rfl Zm (wpList_nil ?_)))))
 ·rw [Ze, Zq (L gA), Ze, hv]
 obtain ⟨a0, ha0⟩ : ∃ a0, a0 = ((a.put (some tA) (a.eval (.tmp tv))).put (some tn) (.int .i64 l.length)).put (some ti) (.int .i64 0) := ⟨_, rfl⟩
 have hA0 : WA Γ x out a0 w := by rw [ha0]; exact ((hA.put gA _).put gn _).put gi _
 have k0 : Act.get a0 tn = .int .i64 (l.length : Nat) := by rw [ha0, Zn (Ne.symm nni), Zq (by rw [Zs]; exact L gn)]
 have k1 : Act.get a0 ti = .int .i64 0 := by rw [ha0, Zq (by simp only [Zs]; exact L gi)]
 have k2 : Act.get a0 tv = Act.get a tv := by rw [ha0, Zn vi, Zn vn, Zn vA]
 have ksz : a0.tmps.size = a.tmps.size := by rw [ha0]; simp only [Zs]
 have hsb0 : SameBut (fun t => t ∈ [tA, tn, ti]) a a0 := by rw [ha0]; exact (((SameBut.refl a).put (by simp) _).put (by simp) _).put (by simp) _
 rw [show ((a.put (some tA) (a.eval (.tmp tv))).put (some tn) (.int .i64 l.length)).put (some ti) (Act.eval ((a.put (some tA) (a.eval (.tmp tv))).put (some tn) (.int .i64 l.length)) (.const (.int .i64 0))) = a0 from ha0.symm]
 clear ha0
 simp only [Exit.then]
 have hin : ∀ {t : Nat} {l' : List Nat}, l'.contains t = false -> ¬ t ∈ l' := fun h hm => by rw [List.contains_iff_mem.2 hm] at h; cases h
 refine wp_block (wp_range (S := [tc, ti, td, tE, tI] ++ writes cb) (fun i a' w' => WA Γ x (out ++ (l.take i).flatMap (E x.ver x.flex)) a' w' /\ Mod (fun k => x.base <= k) w w') ?_ k0 (by omega) k1 ⟨?_, .refl w⟩ ?_ ?_ ?_)
 ·have f1 : tn ≠ 1 := (Wl.free_spec gn).2.1
  have g : ([tc, ti, td, tE, tI] ++ writes cb).contains tn = false := by
   rw [Bool.eq_false_iff]; intro hc
   have := List.contains_iff_mem.1 hc
   simp only [List.mem_append, List.mem_cons, List.not_mem_nil, or_false] at this
   rcases this with h | h
   ·rcases h with h | h | h | h | h
    ·exact nnc h
    ·exact nni h
    ·exact nnd h
    ·exact nnE h
    ·exact nnI h
   ·exact hin wn h
  simp only [Bool.and_eq_true, Bool.not_eq_true', bne_iff_ne, decide_eq_true_eq]
  exact ⟨⟨⟨⟨⟨⟨⟨⟨⟨by simp, by simp⟩, by simp⟩, g⟩, nci⟩, ncd⟩, nid⟩, by rw [ksz]; exact L gc⟩, by rw [ksz]; exact L gi⟩, by rw [ksz]; exact L gd⟩
 ·simpa using hA0
 ·rintro i b b' w' hsb ⟨h1, h2⟩
  exact ⟨h1.same hsb (by simp [gc, gi, gd]), h2⟩
 ·rintro i b w' hi hsb hti ⟨hW, hm⟩
  have hbs := hsb.size
  have Lb : ∀ {t}, Γ.free t = true -> t < b.tmps.size := fun h => by rw [hbs, ksz]; exact L h
  have vin : ¬ tv ∈ [tc, ti, td, tE, tI] ++ writes cb := by
   intro hm
   simp only [List.mem_append, List.mem_cons, List.not_mem_nil, or_false] at hm
   rcases hm with h | h
   ·rcases h with h | h | h | h | h
    ·exact vc h.symm
    ·exact vi h.symm
    ·exact vd h.symm
    ·exact vE h.symm
    ·exact vI h.symm
   ·exact hin wv h
  refine wp_seq (wp_region_lit (Zv rfl Zm (Zv rfl Zi (wpList_nil ?_))))
  simp only [Exit.then]
  have q1 : Act.get ((b.put (some tE) (b.eval (.tmp ti))).put (some tI) (Act.eval (b.put (some tE) (b.eval (.tmp ti))) (.tmp tE))) tI = .int .i64 (i : Nat) := by
   rw [Zq (by rw [Zs]; exact Lb gI), Ze, Zq (Lb gE), Ze, hti]
  have q2 : Act.get ((b.put (some tE) (b.eval (.tmp ti))).put (some tI) (Act.eval (b.put (some tE) (b.eval (.tmp ti))) (.tmp tE))) tv = Act.get a tv := by
   rw [Zn vI, Zn vE, hsb.get _ vin, k2]
  have q3 : Act.get ((b.put (some tE) (b.eval (.tmp ti))).put (some tI) (Act.eval (b.put (some tE) (b.eval (.tmp ti))) (.tmp tE))) ti = .int .i64 (i : Nat) := by
   rw [Zn nIi, Zn nEi, hti]
  have q4 := (hW.put gE (b.eval (.tmp ti))).put gI (Act.eval (b.put (some tE) (b.eval (.tmp ti))) (.tmp tE))
  have q5 : SameBut (fun t => t ∈ [tc, ti, td, tE, tI] ++ writes cb) a0 ((b.put (some tE) (b.eval (.tmp ti))).put (some tI) (Act.eval (b.put (some tE) (b.eval (.tmp ti))) (.tmp tE))) := (hsb.put (by simp) _).put (by simp) _
  generalize (b.put (some tE) (b.eval (.tmp ti))).put (some tI) (Act.eval (b.put (some tE) (b.eval (.tmp ti))) (.tmp tE)) = b2 at *
  have hL' := hL.mod hm (fun k hk e => by have := hF k hk; omega)
  rcases hL' with ⟨_, h0⟩ | ⟨f, r1, r2, r3⟩
  ·rw [h0] at hi; simp at hi
  have htk : l.take (i + 1) = l.take i ++ [l[i]] := List.take_succ_eq_append_getElem hi
  have hlen : (out ++ (l.take i).flatMap (E x.ver x.flex)).length + (E x.ver x.flex l[i]).length <= 4294967296 := by
   have hd : l = l.take (i + 1) ++ l.drop (i + 1) := (List.take_append_drop _ _).symm
   rw [hd, htk] at hl
   simp only [List.flatMap_append, List.flatMap_cons, List.flatMap_nil, List.append_nil, List.length_append] at hl ⊢
   omega
  refine wp_mono (h x _ _ b2 w' ho q4 ⟨F, l, f, i, by rw [q2]; exact r1, hi, r3 i hi, hF, q1, rfl⟩ hlen) ?_
  rintro e' a2 w2 ⟨rfl, g1, g2, g3⟩
  refine Round.next ⟨?_, ?_, ?_, hm.trans g3⟩
  ·exact q5.trans (g2.mono fun t ht => List.mem_append_right _ ht)
  ·rw [g2.get ti (hin wi)]; exact q3
  ·rw [htk, List.flatMap_append, <- List.append_assoc]
   simpa using g1
 ·rintro b w' hsb ⟨hW, hm⟩
  rw [List.take_length] at hW
  refine ⟨rfl, hW, ?_, hm⟩
  refine (hsb0.mono fun t ht => ?_).trans (hsb.mono fun t ht => ?_)
  ·simp only [W, writes, List.mem_append] at *
   left; simp only [List.mem_cons, List.not_mem_nil, or_false] at ht
   rcases ht with rfl | rfl | rfl <;> simp
  ·simp only [W, writes, List.mem_append, List.mem_cons, List.not_mem_nil, or_false] at *
   rcases ht with (rfl | rfl | rfl | rfl | rfl) | ht <;> simp [*]
/-- how many things there are is to be written -/
def preC (tv : Nat) (nl : Bool) : Pre := fun x a w bs => ∃ (ao : Option Addr) (n cap : Nat), Act.get a tv = .slice ao n cap /\ n <= 4294967295 /\ bs = if (nl && ao.isNone) = true then nulE x.flex 4 else cntE x.flex n 4
/-- a function that puts a count behind octets -/
def CntC (P : Program) (f : FuncId) (fl : Bool) : Prop := ∀ w base dv out (n : Nat), OwnB w base dv out -> base <= w.heap.size -> out.length + (cntE fl n 4).length <= 4294967296 -> PutC P f #[dv, .int .i64 n] w base dv out (cntE fl n 4)
theorem emit_cnt {f LT : Nat} {fl : Bool} (hc : CntC P f fl) (hb : bodied P f = true) (hI : (elemSize P LT).isSome = true) (hts : ts[0]? = some LT) (hs : (Γ.ok && Γ.free t1 && Γ.free t2 && Γ.free t3 && Γ.free t4 && t1 != t2 && t1 != t3 && tv != t1) = true) (ho : ∀ v l, ok v l -> l = fl) :
  Emit P Γ ok (.region id #[⟨some t1, .move (.tmp 1), y1, s1, e1, none⟩, ⟨some t2, .move (.tmp tv), y2, s2, e2, none⟩, ⟨some t3, .call ⟨.builtin .len, #[.tmp t2], ts⟩, y3, s3, e3, none⟩, ⟨some t4, .call ⟨.value (.func f), #[.tmp t1, .tmp t3], ts'⟩, y4, s4, e4, none⟩, ⟨some 1, .assign (.tmp t4), y5, s5, e5, none⟩] false) (preC tv false) := by
 rintro x bs out a w hok' hA ⟨ao, n, cap, hv, hn, rfl⟩ hl
 simp only [Bool.and_eq_true, bne_iff_ne] at hs
 obtain ⟨⟨⟨⟨⟨⟨⟨hok, f1⟩, f2⟩, f3⟩, f4⟩, n12⟩, n13⟩, nv1⟩ := hs
 have e := ho _ _ hok'
 simp only [Bool.false_and, Bool.false_eq_true, if_false, e] at hl ⊢
 refine wp_region_lit (Zv rfl Zm (Zv rfl Zm (Zv rfl (x_len (n := n) (cap := cap) (ao := ao) hI hts ?_) (wpl_call rfl (Zy hb rfl) (R := fun e w' => ∃ z, e = .returned z /\ OwnB w' x.base z (out ++ cntE fl n 4) /\ Fine (Act.get a 1) z w w') ?_ ?_))))
 ·rw [Ze, Zq (by rw [Zs]; exact hA.lt f2), Ze, Zn (Ne.symm nv1), hv]
 ·rw [show ∀ a : Act, (#[Operand.tmp t1, .tmp t3] : Array Operand).map a.eval = #[Act.get a t1, Act.get a t3] from fun a => by simp [Ze]]
  rw [Zq (by simp only [Zs]; exact hA.lt f3), Zn (Ne.symm n13), Zn (Ne.symm n12), Zq (hA.lt f1), Ze]
  exact (hc w x.base _ out n hA.dst hA.base hl).out
 rintro e w' ⟨v', rfl, k1, k2⟩
 refine ⟨_, rfl, Zv rfl Zi (wpList_nil ⟨rfl, ?_, ?_, k2.low hA.dst⟩)⟩
 ·refine ((((hA.put f1 _).put f2 _).put f3 _).put f4 _).setD hok (w' := w') ?_ (by have := k2.size; have := hA.base; omega)
  rw [Ze, Zq (by simp only [Zs]; exact hA.lt f4)]
  exact k1
 ·exact (((((SameBut.refl a).put (by simp [W, writes]) _).put (by simp [W, writes]) _).put (by simp [W, writes]) _).put (by simp [W, writes]) _).put (by simp [W, writes]) _
theorem preC_stable {nl : Bool} : Stable (preC tv nl) [tv] := by
 rintro x a a' w w' bs hr hm ⟨ao, n, cap, h1, h2, h3⟩
 exact ⟨ao, n, cap, (hr tv (by simp)).trans h1, h2, h3⟩
/-- a list: its count, its things -/
def listE (nl : Bool) (E : Int -> Bool -> Tr -> List UInt8) : Int -> Bool -> Tr -> List UInt8 := fun ver fl x => if (nl && x.Z) = true then nulE fl 4 else cntE fl x.L.length 4 ++ x.L.flatMap (E ver fl)
theorem emit_list {e : Ty} {sz : Nat} {nl : Bool} {E : Int -> Bool -> Tr -> List UInt8} (h1 : Emit P Γ ok c1 (preC tv nl)) (h2 : Emit P Γ ok c2 (preR tv e sz E)) (hl : leaves c1 [tv] = true) : Emit P Γ ok (.seq c1 c2) (preV tv (.list e sz) (listE nl E)) := by
 refine emit_mono (emit_seq h1 h2 preR_stable hl) ?_
 rintro x a w bs ho ⟨F, t, hr, hF, rfl⟩
 rcases hr with ⟨_, _, hr⟩ | ⟨h, _⟩
 ·simp only [Rep] at hr
  rcases hr with ⟨hv, rfl⟩ | ⟨l, f, hR, hb, hel, rfl⟩
  ·refine ⟨if nl = true then nulE x.flex 4 else cntE x.flex 0 4, [], ?_, ⟨none, 0, 0, hv, by omega, by simp⟩, ⟨F, [], .inl ⟨hv, rfl⟩, hF, rfl⟩⟩
   simp only [listE, Tr.Z_nul, Tr.L_nul, Bool.and_true, List.flatMap_nil, List.append_nil, List.length_nil]
  ·obtain ⟨k, cap, C, tc, q1, q2, q3⟩ := hR
   refine ⟨cntE x.flex l.length 4, l.flatMap (E x.ver x.flex), ?_, ⟨_, l.length, cap, q2, hb, by simp⟩, ⟨F, l, .inr ⟨f, ⟨k, cap, C, tc, q1, q2, q3⟩, hb, hel⟩, hF, rfl⟩⟩
   simp only [listE, Tr.Z_list, Tr.L_list, Bool.and_false, Bool.false_eq_true, if_false]
 ·cases h
/-- what is written of a struct -/
def structW (fs : List FD) : Int -> Bool -> Tr -> List UInt8 := fun ver fl x => encsW fs ver fl x.L ++ (if fl then tagsE x.U else [])
/-- a thing of a list that is a struct -/
theorem emit_els {LT tI sz : Nat} {σe : St} {fs : List FD} (h : Emit P Γ ok c (preS σe 0 fs)) (hz : elemSize P LT = some sz) (hsz : σe.sz = sz) (hoke : (Ty.struct σe.lay σe.tg σe.sz).ok = true) (hs : (Γ.free t1 && Γ.free t2 && Γ.free t3 && Γ.free σe.s && t1 != t2 && tI != t1) = true) :
  Emit P Γ ok (.seq (.region id #[⟨some t1, .move (.tmp tv), y1, s1, e1, none⟩, ⟨some t2, .move (.tmp tI), y2, s2, e2, none⟩, ⟨some t3, .indexAddr LT (.tmp t1) (.tmp t2), y3, s3, e3, none⟩, ⟨some σe.s, .assign (.tmp t3), y5, s5, e5, none⟩] false) c) (preE tv tI (.struct σe.lay σe.tg σe.sz) sz (structW fs)) := by
 rintro x bs out a w ho hA ⟨F, l, f, j, hR, hj, hrep, hF, hI, rfl⟩ hl
 simp only [Bool.and_eq_true, bne_iff_ne] at hs
 obtain ⟨⟨⟨⟨⟨f1, f2⟩, f3⟩, fw⟩, n12⟩, nI1⟩ := hs
 obtain ⟨k, cap, C, tc, q1, q2, q3, q4, q5, q6, q7⟩ := hR
 obtain ⟨vs, u, hpart⟩ : ∃ vs u, l[j] = .part vs u := by simp only [Rep] at hrep; obtain ⟨vs, u, _, _, h⟩ := hrep; exact ⟨vs, u, h⟩
 have hC : Cur σe F k (0 + j * sz) (vs, u) w := cur_row q5 q6 q3 hj hsz hoke q7 (by rw [<- hpart]; exact hrep) (.refl w)
 refine wp_seq (wp_region_lit (Zv rfl Zm (Zv rfl Zm (Zv rfl (Zx (b := k) (o := 0) (n := l.length) (cap := cap) (i := j) (sz := sz) (k := .i64) hz ?_ ?_ hj) (Zv rfl Zi (wpList_nil ?_))))))
 ·rw [Ze, Zn (Ne.symm n12), Zq (hA.lt f1), Ze, q2]
 ·rw [Ze, Zq (by rw [Zs]; exact hA.lt f2), Ze, Zn (Ne.symm nI1), hI]
 have hb : structW fs x.ver x.flex l[j] = encsW fs x.ver x.flex ((vs, u) : SV).1 ++ (if x.flex then tagsE ((vs, u) : SV).2 else []) := by rw [hpart]; rfl
 refine wp_mono (h x _ out _ w ho ((((hA.put f1 _).put f2 _).put f3 _).put fw _) ⟨F, k, 0 + j * sz, (vs, u), ?_, hC, hF, hF _ q1, by rw [hb]; rfl⟩ hl) ?_
 ·rw [Zq (by simp only [Zs]; exact hA.lt fw), Ze, Zq (by simp only [Zs]; exact hA.lt f3)]
 rintro e a2 w2 ⟨rfl, g1, g2, g3⟩
 refine ⟨rfl, g1, ?_, g3⟩
 refine SameBut.trans ?_ (g2.mono fun t ht => by simp only [W, writes, List.mem_append] at *; exact .inr ht)
 exact ((((SameBut.refl a).put (by simp [W, writes]) _).put (by simp [W, writes]) _).put (by simp [W, writes]) _).put (by simp [W, writes]) _
/-- code that writes what is left, and ends -/
def EmitW (P : Program) (Γ : Wl) (ok : OkV) (r : Nat) (c : Code) (pre : Pre) : Prop :=
 ∀ x bs out a w, ok x.ver x.flex -> WA Γ x out a w -> pre x a w bs -> out.length + bs.length <= 4294967296 ->
  c.wp P (fun e a' w' => e = .ret /\ a'.defers = [] /\ OwnB w' x.base (Act.get a' r) (out ++ bs) /\ Mod (fun k => x.base <= k) w w') a w
theorem emitw_seq {r : Nat} (h1 : Emit P Γ ok c1 p1) (h2 : EmitW P Γ ok r c2 p2) (hs : Stable p2 rs) (hl : leaves c1 rs = true) : EmitW P Γ ok r (.seq c1 c2) (fun x a w bs => ∃ d1 d2, bs = d1 ++ d2 /\ p1 x a w d1 /\ p2 x a w d2) := by
 rintro x bs out a w ho hA ⟨d1, d2, rfl, q1, q2⟩ hln
 simp only [List.length_append] at hln
 refine wp_seq (wp_mono (h1 x d1 out a w ho hA q1 (by omega)) ?_)
 rintro e a1 w1 ⟨rfl, hA1, hsb1, hm1⟩
 refine wp_mono (h2 x d2 (out ++ d1) a1 w1 ho hA1 (hs x a a1 w w1 d2 (leaves_spec hl hsb1) hm1 q2) (by simp; omega)) ?_
 rintro e a2 w2 ⟨rfl, h3, h4, h5⟩
 exact ⟨rfl, h3, by rw [<- List.append_assoc]; exact h4, hm1.trans h5⟩
theorem emitw_mono {r : Nat} (h : EmitW P Γ ok r c p1) (hm : ∀ x a w bs, ok x.ver x.flex -> p2 x a w bs -> p1 x a w bs) : EmitW P Γ ok r c p2 := fun x bs out a w ho hA hp hl => h x bs out a w ho hA (hm x a w bs ho hp) hl
theorem emitw_fields {σ : St} {i o r : Nat} {f : FD} {fs : List FD} {ty : Ty} (hat : σ.lay.at i = some (o, ty)) (h1 : Emit P Γ ok c1 (preH σ i f)) (h2 : EmitW P Γ ok r c2 (preS σ (i + 1) fs)) (hl : leaves c1 [σ.s] = true) : EmitW P Γ ok r (.seq c1 c2) (preS σ i (f :: fs)) :=
 emitw_mono (emitw_seq h1 h2 preS_stable hl) fun x a w bs _ hp => preS_split hat hp
def preN : Pre := fun _ _ _ bs => bs = []
theorem emitw_end {r : Nat} (hs : (Γ.free t && Γ.free r) = true) : EmitW P Γ ok r (.seq (.region id #[⟨some t, .move (.tmp 1), y1, s1, e1, none⟩, ⟨some r, .assign (.tmp t), y2, s2, e2, none⟩] false) .ret) preN := by
 rintro x bs out a w ho hA rfl hl
 simp only [Bool.and_eq_true] at hs
 refine wp_seq (wp_region_lit (Zv rfl Zm (Zv rfl Zi (wpList_nil (wp_ret ⟨rfl, ?_, ?_, .refl w⟩)))))
 ·simp only [Zd]; exact hA.defers
 ·rw [Zq (by simp only [Zs]; exact hA.lt hs.2), Ze, Zq (hA.lt hs.1), List.append_nil]
  exact hA.dst
theorem emitw_tags {σ : St} {i r : Nat} (h1 : Emit P Γ ok c1 (preS σ i [])) (h2 : EmitW P Γ ok r c2 preN) : EmitW P Γ ok r (.seq c1 c2) (preS σ i []) :=
 emitw_mono (emitw_seq (rs := []) h1 h2 (fun _ _ _ _ _ _ _ _ h => h) rfl) fun x a w bs _ hp => ⟨bs, [], by simp, hp, rfl⟩
end
/-- AppendTo of a message -/
def AppToC (P : Program) (fid : FuncId) (σ : St) (flexible : Int -> Bool) (ok : OkV) (fs : List FD) : Prop := ∀ w F blk v ver base dv out, Cur σ F blk 0 v w -> v.1[0]? = some (.num ver) -> ok ver (flexible ver) -> (∀ k, F k -> k < base) -> blk < base -> OwnB w base dv out -> base <= w.heap.size ->
 out.length + (encP fs ver (flexible ver) (v.1.drop 1, v.2)).length <= 4294967296 -> Calls P fid #[.pointer (some ⟨blk, 0, none⟩), dv] w fun e w' => ∃ z, e = .returned z /\ OwnB w' base z (out ++ encP fs ver (flexible ver) (v.1.drop 1, v.2)) /\ Mod (fun k => base <= k) w w'
section
variable {P : Program} {σ : St} {fn : Func} {fid T : Nat} {i0 i1 i2 i3 i4 m N : Nat} {rest : Code} {kf : Int} {fs : List FD} {ok : OkV}
 {y0 y10 y11 y12 y13 y14 y20 y30 y31 y32 y40 yg yg' ys : TypeId} {p0 p10 p11 p12 p13 p14 p20 p30 p31 p32 p40 : String} {e0 e10 e11 e12 e13 e14 e20 e30 e31 e32 e40 : Array Edge}
def wlOf (N : Nat) : Wl := ⟨N, 5, 6⟩
theorem app_top (hf : P.funcs[fid]? = some fn) (hN : fn.ntmps = N) (hres : fn.results = #[.tmp 4]) (h16 : one P ys = true) (hver : fieldOff P T 0 = some 0) (hlay : σ.lay.at 0 = some (0, .int .i16)) (hs : σ.s = 0) (hm : 7 <= m) (hmN : m + 8 <= N)
  (hbody : fn.body = some (.seq (.region i0 #[⟨some 4, .assign (.const (.slice none 0 0)), y0, p0, e0, none⟩] false)
   (.seq (.region i1 #[⟨some m, .move (.tmp 0), y10, p10, e10, none⟩, ⟨some (m + 1), .nilCheck (.tmp m), y11, p11, e11, none⟩, ⟨some (m + 2), .fieldAddr T (.tmp (m + 1)) 0, y12, p12, e12, none⟩, ⟨some (m + 3), .load ys (.tmp (m + 2)), y13, p13, e13, none⟩, ⟨some 5, .assign (.tmp (m + 3)), y14, p14, e14, none⟩] false)
   (.seq (.region i2 #[⟨some (m + 4), .move (.tmp 5), y20, p20, e20, none⟩] false)
   (.seq (.region i3 #[⟨some (m + 5), .move (.tmp 5), y30, p30, e30, none⟩, ⟨some (m + 6), .binOp .geq yg (.tmp (m + 5)) (.const (.int .i16 kf)) yg', y31, p31, e31, none⟩, ⟨some 6, .assign (.tmp (m + 6)), y32, p32, e32, none⟩] false)
   (.seq (.region i4 #[⟨some (m + 7), .move (.tmp 6), y40, p40, e40, none⟩] false) rest))))))
  (hrest : EmitW P (wlOf N) ok 4 rest (preS σ 1 fs)) : AppToC P fid σ (fun ver => decide (kf <= ver)) ok fs := by
 intro w F blk v ver base dv out hC hv0 hok hF hbk hown hbase hl
 refine calls_of_wp hf hbody ?_
 rw [hN]
 refine wp_act (fun a : Act => Act.get a 0 = .pointer (some ⟨blk, 0, none⟩) /\ Act.get a 1 = dv /\ a.tmps.size = N /\ a.defers = []) ⟨by rw [Zj _ _ _ (by simp)]; rfl, by rw [Zj _ _ _ (by simp)]; rfl, by simp; omega, rfl⟩ ?_
 rintro a ⟨a0, a1, aN, ad⟩
 obtain ⟨C, tC, hC1, hC2, hC3, hC4⟩ := hC.mem
 have hvcell : w.cell? ⟨blk, 0 + 0, none⟩ = some (.int .i16 ver) := by
  obtain ⟨u, hu, hrep⟩ := RepL.get _ 0 0 _ _ _ hlay hC3
  rw [hv0] at hu
  obtain rfl : Tr.num ver = u := by simpa using hu
  simp only [Rep] at hrep
  obtain ⟨n, hn, _, hnum⟩ := hrep
  obtain rfl : ver = n := by simpa [Tr.num] using hnum
  rw [Zc hC1]
  simp only [from', Nat.add_zero, Array.getD_eq_getD_getElem?] at hn
  cases hc : C[0]? with
  | none => rw [hc] at hn; simp [undef] at hn
  | some q => rw [hc] at hn; simpa using hn
 refine wp_seq (wp_region_lit (Zv rfl Zi (wpList_nil ?_)))
 refine wp_seq (wp_region_lit (Zv rfl Zm (Zv rfl (x_nilCheck (q := ⟨blk, 0, none⟩) ?_) (Zv rfl (Za hver (b := blk) (o0 := 0) ?_) (Zv rfl (Zl h16 (b := blk) (o := 0 + 0) (v := .int .i16 ver) ?_ hvcell) (Zv rfl Zi (wpList_nil ?_)))))))
 ·simp (disch := first | omega | simp only [Zs]; omega) only [Zo, Ze, Zn, Zq, a0]
 ·simp (disch := first | omega | simp only [Zs]; omega) only [Zo, Ze, Zn, Zq]
 ·simp (disch := first | omega | simp only [Zs]; omega) only [Zo, Ze, Zn, Zq]
 refine wp_seq (wp_region_lit (Zv rfl Zm (wpList_nil ?_)))
 refine wp_seq (wp_region_lit (Zv rfl Zm (Zv rfl (x_geq (k := .i16) (m := ver) (n := kf) ?_ rfl) (Zv rfl Zi (wpList_nil ?_)))))
 ·simp (disch := first | omega | simp only [Zs]; omega) only [Zo, Ze, Zn, Zq]
 refine wp_seq (wp_region_lit (Zv rfl Zm (wpList_nil ?_)))
 refine wp_act (fun a : Act => Act.get a 0 = .pointer (some ⟨blk, 0, none⟩) /\ Act.get a 1 = dv /\ Act.get a 5 = .int .i16 ver /\ Act.get a 6 = .bool (decide (kf <= ver)) /\ a.tmps.size = N /\ a.defers = []) ⟨?_, ?_, ?_, ?_, ?_, ?_⟩ ?_
 ·simp (disch := first | omega | simp only [Zs]; omega) only [Zo, Ze, Zn, Zq, a0]
 ·simp (disch := first | omega | simp only [Zs]; omega) only [Zo, Ze, Zn, Zq, a1]
 ·simp (disch := first | omega | simp only [Zs]; omega) only [Zo, Ze, Zn, Zq]
 ·simp (disch := first | omega | simp only [Zs]; omega) only [Zo, Ze, Zn, Zq]
 ·simp only [Zs]; exact aN
 ·simp only [Zd]; exact ad
 clear a0 a1 aN ad
 rintro a ⟨a0, a1, a5, a6, aN, ad⟩
 simp only [Exit.then]
 refine wp_mono (hrest ⟨base, ver, decide (kf <= ver)⟩ _ out a w hok ⟨aN, ad, by rw [a1]; exact hown, a5, a6, hbase⟩ ⟨F, blk, 0, v, by rw [hs]; exact a0, hC, hF, hbk, rfl⟩ hl) ?_
 rintro e a2 w2 ⟨rfl, h1, h2, h3⟩
 exact bodyPost_ret (results_tmp hres _ _ _) h1 ⟨_, rfl, h2, h3⟩
end
end Go.Proofs.YtmehfgiadapekaaGreat
