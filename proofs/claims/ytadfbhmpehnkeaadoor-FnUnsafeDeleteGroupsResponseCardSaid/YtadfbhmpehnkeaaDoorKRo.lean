/-
  Rules for the code that reads a message's parts: a list as a field. No program in it.
-/
import Derived.Test.YtadfbhmpehnkeaaDoorKRn
set_option linter.unusedSimpArgs false
set_option linter.unusedVariables false
namespace Go.Proofs.YtadfbhmpehnkeaaDoor
open Go Go.RowKit

/-- whether a field is null -/
def isNul : Option Tr → Bool
  | some (.mk n s b l u) => n == 0 && s.isEmpty && b && l.isEmpty && u.isEmpty
  | none => false
theorem isNul_spec {o : Option Tr} (h : isNul o = true) : o = some .nul := by
  cases o with
  | none => simp [isNul] at h
  | some t =>
    cases t with
    | mk n s b l u =>
      simp [isNul] at h
      obtain ⟨⟨⟨⟨h1, h2⟩, h3⟩, h4⟩, h5⟩ := h
      subst h1; subst h2; subst h3; subst h4; subst h5
      rfl

def tailR (i : Nat) (e0 : Bool) (n : Int) (ef : RS → R Tr) (v : SV) (s : RS) : R SV :=
  if s.bad then .early else (elemsR ef n.toNat s).then fun ts s2 => .ok (v.1.set i (if 0 < n then .list ts false else if e0 then .list [] false else .nul), v.2) s2
/-- a list as a field -/
def listF (i : Nat) (rdl : Int → Bool → RS → Tr × RS) (nv : Int → Int → Bool) (ef : EF) : FT := fun ver fl v s =>
  if isNul v.1[i]? then tailR i (nv ver (rdl ver fl s).1.N) (rdl ver fl s).1.N (ef ver fl) v (rdl ver fl s).2 else .stuck

/-- a slice without elements: nil, or not -/
def EmptyV (e0 : Bool) (val : Value) (w : World) (F : Nat → Prop) : Prop :=
  (e0 = false ∧ val = .slice none 0 0) ∨ (e0 = true ∧ ∃ k t, F k ∧ val = .slice (some ⟨k, 0, none⟩) 0 0 ∧ w.heap[k]? = some (.cells #[] t (0, 0)))
theorem EmptyV.shape {e0 : Bool} {val : Value} {w : World} {F : Nat → Prop} (h : EmptyV e0 val w F) : ∃ ao, val = .slice ao 0 0 := by
  rcases h with ⟨_, h⟩ | ⟨_, k, t, _, h, _⟩ <;> exact ⟨_, h⟩
theorem EmptyV.mod {e0 : Bool} {val : Value} {w w' : World} {F S : Nat → Prop} (h : EmptyV e0 val w F) (hm : Mod S w w') (hs : ∀ k, F k → ¬ S k) : EmptyV e0 val w' F := by
  rcases h with h | ⟨h1, k, t, h2, h3, h4⟩
  · exact .inl h
  · exact .inr ⟨h1, k, t, h2, h3, hm.some h4 (hs k h2)⟩

/-- the piece 'if version < k || l == 0 { a = []T{} }' -/
def NulC (P : Program) (Γ : Sl) (c : Code) (sa sl : Nat) (nv : Int → Int → Bool) : Prop := ∀ x s a w n (F : Nat → Prop), Amb Γ x s a w → Act.get a sl = .int .i32 n → Act.get a sa = .slice none 0 0 → (∀ k, w.heap.size ≤ k → F k) →
  c.wp P (fun e a' w' => e = .normal ∧ Amb Γ x s a' w' ∧ Mod none' w w' ∧ SameBut (W c) a a' ∧ EmptyV (nv x.ver n) (Act.get a' sa) w' F) a w

theorem Stp.of_mod {x : Cx} {blk off sz : Nat} {S : Nat → Prop} {a b : World} (h : Mod S a b) (hs : ∀ k, k < a.heap.size → S k → k = x.rb) (hne : blk ≠ x.rb) : Stp x blk off sz a b :=
  ⟨h.mono fun i hi e => .inl (hs i hi e), fun C t hc => ⟨C, (h.mono fun i hi e => hs i hi e).some hc hne, rfl, fun _ _ => rfl⟩⟩

section
variable {P : Program} {Γ : Sl} {σ σ' : St} {f g : FT} {id id' id1 id2 id3 id4 id5 : Nat} {ty ety : Ty} {rdl : Int → Bool → RS → Tr × RS} {sa sl si sv sz b0 b1 : Nat} {z : Nat → Value} {ef : EF} {nv : Int → Int → Bool}
  {y1 y2 y3 y4 y5 y6 y7 y8 y9 y10 y11 y12 y13 y14 y15 : TypeId} {p1 p2 p3 p4 p5 p6 p7 p8 p9 p10 p11 p12 p13 p14 p15 : String} {e1 e2 e3 e4 e5 e6 e7 e8 e9 e10 e11 e12 e13 e14 e15 : Array Edge} {ts ts1 ts2 : Array TypeId} {t1 t2 t3 t4 t5 t6 t7 t8 t9 t10 : Nat} {yg yh ym yn : TypeId}
  {co cc cg cL cl cn : Code} {i o k T LT : Nat}

theorem list_tail (hat : σ.lay.at i = some (o, .list ety sz)) (hok : σ.okAt i o (.list ety sz) = true) (hf : fieldOff P T k = some o) (hsz : sized P LT 1 = true)
    (ho : OkC P Γ co) (hc : CutC P Γ cc sa) (hg : GrowC P Γ cg sa sl sz z) (hL : LoopC P Γ cL sa sl ety sz z ef)
    (hs : (Γ.free t1 && Γ.free t2 && Γ.free t3 && Γ.free t4 && Γ.free t5 && Γ.free sv && t2 != sv && t3 != t2 && t4 != t3 && t5 != t3 && t1 != σ.s && t2 != σ.s && t3 != σ.s && t4 != σ.s && t5 != σ.s && sv != σ.s &&
      !(writes co).contains σ.s && !(writes cc).contains σ.s && !(writes cg).contains σ.s && !(writes cL).contains σ.s && !(writes co).contains sa && !(writes co).contains sl && !(writes cc).contains sl && !(writes cg).contains sl && !(writes cL).contains sa) = true)
    {x : Cx} {F : Nat → Prop} {blk off : Nat} {v : SV} {s : RS} {a : Act} {w : World} {n : Int} {e0 : Bool} (hA : Amb Γ x s a w) (hp : Act.get a σ.s = .pointer (some ⟨blk, off, none⟩)) (hC : Cur σ F blk off v w) (hS : Sep x F blk w)
    (hvl : Act.get a sl = .int .i32 n) (hn : n ≤ 2147483647) (hE : EmptyV e0 (Act.get a sa) w F) (hns : tailR i e0 n (ef x.ver x.flex) v s ≠ .stuck) :
    (Code.seq co (.seq cc (.seq cg (.seq cL (.seq (.region id1 #[⟨some t1, .move (.tmp sa), y1, p1, e1, none⟩, ⟨some sv, .assign (.tmp t1), y2, p2, e2, none⟩] false)
      (.region id2 #[⟨some t2, .move (.tmp σ.s), y3, p3, e3, none⟩, ⟨some t3, .move (.tmp sv), y4, p4, e4, none⟩, ⟨some t4, .nilCheck (.tmp t2), y5, p5, e5, none⟩, ⟨some t5, .fieldAddr T (.tmp t4) k, y6, p6, e6, none⟩, ⟨none, .store LT (.tmp t5) (.tmp t3), y7, p7, e7, none⟩] false)))))).wp P
    (fun e a' w' => match e with
      | .normal => ∃ v' s', tailR i e0 n (ef x.ver x.flex) v s = .ok v' s' ∧ Amb Γ x s' a' w' ∧ Cur σ F blk off v' w' ∧ SameBut (fun t => W co t ∨ W cc t ∨ W cg t ∨ W cL t ∨ t = t1 ∨ t = sv ∨ t = t2 ∨ t = t3 ∨ t = t4 ∨ t = t5) a a' ∧ Stp x blk off σ.sz w w'
      | .ret => tailR i e0 n (ef x.ver x.flex) v s = .early ∧ Act.get a' Γ.res = x.ev ∧ a'.defers = [] ∧ Stp x blk off σ.sz w w'
      | _ => False) a w := by
  simp only [Bool.and_eq_true, bne_iff_ne, Bool.not_eq_true', List.contains_eq_mem, decide_eq_false_iff_not] at hs
  obtain ⟨⟨⟨⟨⟨⟨⟨⟨⟨⟨⟨⟨⟨⟨⟨⟨⟨⟨⟨⟨⟨⟨⟨⟨f1, f2⟩, f3⟩, f4⟩, f5⟩, fv⟩, n2v⟩, n32⟩, n43⟩, n53⟩, m1⟩, m2⟩, m3⟩, m4⟩, m5⟩, mv⟩, wo⟩, wc⟩, wg⟩, wL⟩, woa⟩, wol⟩, wcl⟩, wgl⟩, wLa⟩ := hs
  -- is it all right?
  refine wp_seq (wp_mono (ho x s a w hA) ?_)
  intro e a1 w1 h
  cases e with
  | ret =>
    obtain ⟨hb, rfl, hr, hd⟩ := h
    exact ⟨by simp [tailR, hb], hr, hd, .refl _⟩
  | normal =>
    obtain ⟨hbad, rfl, hA1, hsb1⟩ := h
    have etail : tailR i e0 n (ef x.ver x.flex) v s = (elemsR (ef x.ver x.flex) n.toNat s).then fun ts s2 => .ok (v.1.set i (if 0 < n then .list ts false else if e0 then .list [] false else .nul), v.2) s2 := by simp [tailR, hbad]
    rw [etail] at hns ⊢
    have hns1 : elemsR (ef x.ver x.flex) n.toNat s ≠ .stuck := fun e => hns (by simp [e, R.then])
    -- a = a[:0]
    obtain ⟨ao, hao⟩ := hE.shape
    refine wp_seq (wp_mono (hc x s a1 w1 ao 0 0 hA1 ((hsb1.get _ woa).trans hao)) ?_)
    rintro e a2 w2 ⟨rfl, rfl, hA2, hva2, hsb2⟩
    -- new elements
    have hvl2 : Act.get a2 sl = .int .i32 n := by rw [hsb2.get _ wcl, hsb1.get _ wol, hvl]
    refine wp_seq (wp_mono (hg x s a2 w2 ao n hA2 hva2 hvl2 hn) ?_)
    rintro e a3 w3 ⟨rfl, hA3, hsb3, hm3, hrow⟩
    have hvl3 : Act.get a3 sl = .int .i32 n := (hsb3.get _ wgl).trans hvl2
    have hS3 := hS.later hm3.size
    have hC0 : Cur σ (fun b => F b ∧ b < w2.heap.size) blk off v w3 := hC.lt.later hm3 (fun f => f) (fun _ _ f => f)
    have hblk : blk < w2.heap.size := by obtain ⟨C, t, h, _⟩ := hC.mem; exact lt_of_block h
    -- the loop
    obtain ⟨kk, hkk⟩ : ∃ kk, kk = w2.heap.size := ⟨_, rfl⟩
    obtain ⟨cap, hcap⟩ : ∃ cap, 0 < n → Act.get a3 sa = .slice (some ⟨kk, 0, none⟩) n.toNat cap ∧ cap ≤ maxLen ∧ kk < w3.heap.size ∧ Row w3 (fun b => F b ∧ b ≠ kk) kk cap sz ety z n.toNat [] := by
      rcases hrow with ⟨h0, _⟩ | ⟨h0, cap, q1, q2, q3, C, t, q4, q5, q6⟩
      · exact ⟨0, fun h => by omega⟩
      · exact ⟨cap, fun _ => ⟨by rw [hkk]; exact q1, q3, by rw [hkk]; exact lt_of_block q4, by simp, q2, C, t, by rw [hkk]; exact q4, q5, fun i hi => by simp at hi, fun i _ hi j hj => q6 i hi j hj⟩⟩
    have hSin : 0 < n → Sep x (fun b => F b ∧ b ≠ kk) kk w3 := fun h0 => by
      have hk3 := (hcap h0).2.2.1
      have hgl : gErr < w2.heap.size := World.block_lt_of_cell? _ _ hA2.err
      have hrb : x.rb < w2.heap.size := hA2.rd.1
      have hold := hS.old
      have hsz3 := hm3.size
      exact ⟨fun b hb => ⟨(hS.apart b hb.1).1, hb.2⟩, fun b hb => ⟨hS.fresh b (by omega), by omega⟩, ⟨hS.src, by omega⟩, by omega, by omega, by omega⟩
    refine wp_seq (wp_mono (hL x (fun b => F b ∧ b ≠ kk) kk cap n s a3 w3 () hA3 hvl3 hn (fun h0 => ⟨(hcap h0).1, (hcap h0).2.2.2⟩) hSin hns1) ?_)
    have hstp : ∀ w4, Mod (fun b => b = x.rb ∨ (0 < n ∧ b = kk)) w3 w4 → Stp x blk off σ.sz w2 w4 := fun w4 hm4 =>
      Stp.of_mod (hm3.none.trans hm4) (fun k hk e => by rcases e with e | ⟨_, e⟩; exact e; omega) hS.rb
    intro e a4 w4 h4
    cases e with
    | ret => exact ⟨by simp [h4.1, R.then], h4.2.1, h4.2.2.1, hstp w4 h4.2.2.2⟩
    | normal =>
      obtain ⟨ts, s', e4, hA4, hr4, hsb4, hm4⟩ := h4
      have hC4 : Cur σ F blk off v w4 := (hC0.later hm4 (fun e => by rcases e with e | ⟨_, e⟩; exact hS.rb e; omega) (fun b hb e => by rcases e with e | ⟨_, e⟩; exact (hS.apart b hb.1).1 e; have := hb.2; omega)).weaken (fun b hb => hb.1)
      have hS4 := hS3.later hm4.size
      have hsa4 : Act.get a4 sa = Act.get a3 sa := hsb4.get _ wLa
      have hV : RepV w4 F (.list ety sz) (Act.get a4 sa) (if 0 < n then .list ts false else if e0 then .list [] false else .nul) := by
        by_cases h0 : 0 < n
        · rw [if_pos h0]
          obtain ⟨hr, hl⟩ := hr4 h0
          obtain ⟨C, tc, q1, q2, q3, q4⟩ := hr.mem
          rw [hsa4, (hcap h0).1]
          refine .inl ⟨rfl, rfl, ?_⟩
          simp only [Rep]
          refine .inr ⟨ts, fun i j => from' C (i * sz) j, ⟨kk, cap, C, tc, hS.fresh _ (by omega), by rw [hl], by rw [hl]; exact hr.room, (hcap h0).2.1, q1, q2, fun i hi j hj => ?_⟩, by omega, fun i hi => ?_, rfl⟩
          · have := Nat.mul_le_mul_right sz (show i + 1 ≤ cap by have := hr.room; omega)
            rw [Nat.add_mul] at this
            simp [from', show i * sz + j < C.size by omega]
          · exact Rep.mod (Mod.refl (S := none') w4) (fun _ _ f => f) (fun b hb => hb.1) _ _ _ (q3 i hi)
        · rw [if_neg h0]
          rcases hrow with ⟨_, rfl, hva3⟩ | ⟨h0', _⟩
          · have hE4 : EmptyV e0 (Act.get a4 sa) w4 F := by
              rw [hsa4, hva3, ← hao]
              exact hE.mod hm4 (fun b hb e => by rcases e with e | ⟨e, _⟩; exact (hS.apart b hb).1 e; exact h0 e)
            rcases hE4 with ⟨rfl, hv⟩ | ⟨rfl, k', t, hk', hv, hb⟩
            · rw [hv]; exact .inl ⟨rfl, rfl, by simp only [Rep]; exact .inl ⟨trivial, rfl⟩⟩
            · rw [hv]
              refine .inl ⟨rfl, rfl, ?_⟩
              simp only [Rep]
              exact .inr ⟨[], fun _ _ => undef, ⟨k', 0, #[], t, hk', rfl, Nat.le_refl _, by simp [maxLen], hb, by simp, fun i hi => by simp at hi⟩, by simp, fun i hi => by simp at hi, rfl⟩
          · exact (h0 h0').elim
      refine wp_seq (wp_region_lit (wpl_val rfl x_move (wpl_val rfl x_assign (wpList_nil ?_))))
      have hA5 := (hA4.put f1 (a4.eval (.tmp sa))).put fv (Act.eval (a4.put (some t1) (a4.eval (.tmp sa))) (.tmp t1))
      have hg5 : Act.get ((a4.put (some t1) (a4.eval (.tmp sa))).put (some sv) (Act.eval (a4.put (some t1) (a4.eval (.tmp sa))) (.tmp t1))) sv = Act.get a4 sa := by
        rw [Act.get_put_eq (by rw [Act.size_put]; exact hA4.lt fv), eval_tmp, Act.get_put_eq (hA4.lt f1), eval_tmp]
      have hp5 : Act.get ((a4.put (some t1) (a4.eval (.tmp sa))).put (some sv) (Act.eval (a4.put (some t1) (a4.eval (.tmp sa))) (.tmp t1))) σ.s = .pointer (some ⟨blk, off, none⟩) := by
        rw [Act.get_put_ne mv, Act.get_put_ne m1, hsb4.get _ wL, hsb3.get _ wg, hsb2.get _ wc, hsb1.get _ wo, hp]
      have hsb5 : SameBut (fun t => t = t1 ∨ t = sv) a4 ((a4.put (some t1) (a4.eval (.tmp sa))).put (some sv) (Act.eval (a4.put (some t1) (a4.eval (.tmp sa))) (.tmp t1))) := ((SameBut.refl a4).put (.inl rfl) _).put (.inr rfl) _
      generalize ((a4.put (some t1) (a4.eval (.tmp sa))).put (some sv) (Act.eval (a4.put (some t1) (a4.eval (.tmp sa))) (.tmp t1))) = a5 at *
      refine wp_mono (put_region (tv := sv) (ty := .list ety sz) (i := i) hat hok hf hsz (by simp [f2, f3, f4, f5, n2v, n32, n43, n53, m2, m3, m4, m5]) hA5 hp5 hC4 hS4 (by rw [hg5]; exact hV)) ?_
      rintro e a6 w6 ⟨rfl, hA6, hC6, hsb6, hst6⟩
      refine ⟨_, s', by simp only [e4, R.then], hA6, hC6, ?_, (hstp w4 hm4).trans hst6⟩
      refine (hsb1.mono fun t ht => .inl ht).trans ((hsb2.mono fun t ht => .inr (.inl ht)).trans ((hsb3.mono fun t ht => .inr (.inr (.inl ht))).trans ((hsb4.mono fun t ht => .inr (.inr (.inr (.inl ht)))).trans ((hsb5.mono fun t ht => ?_).trans (hsb6.mono fun t ht => ?_)))))
      · rcases ht with rfl | rfl <;> simp
      · rcases ht with rfl | rfl | rfl | rfl <;> simp
    | _ => exact h4.elim
  | _ => exact h.elim
end
end Go.Proofs.YtadfbhmpehnkeaaDoor
