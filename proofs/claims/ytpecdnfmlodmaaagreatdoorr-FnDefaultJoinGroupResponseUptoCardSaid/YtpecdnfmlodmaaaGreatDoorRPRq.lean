/-
  Rules for the code that reads a message's parts: lists as fields; parts within; 16 octets. No program in it.
-/
import Derived.Test.YtpecdnfmlodmaaaGreatDoorRPRp
set_option linter.unusedSimpArgs false
set_option linter.unusedVariables false
namespace Go.Proofs.YtpecdnfmlodmaaaGreatDoorR
open Go Go.RowKit
section
variable {P : Program} {Γ : Sl} {σ σ' : St} {f g : FT} {id id' id1 id2 id3 id4 id5 : Nat} {ty ety : Ty} {rd rdl : Int -> Bool -> RS -> Tr × RS} {sa sl si sv sz b0 b1 : Nat} {z : Nat -> Value} {ef : EF} {nv : Int -> Int -> Bool}
 {y1 y2 y3 y4 y5 y6 y7 y8 y9 y10 y11 y12 y13 y14 y15 : TypeId} {p1 p2 p3 p4 p5 p6 p7 p8 p9 p10 p11 p12 p13 p14 p15 : String} {e1 e2 e3 e4 e5 e6 e7 e8 e9 e10 e11 e12 e13 e14 e15 : Array Edge} {ts ts1 ts2 : Array TypeId} {t1 t2 t3 t4 t5 t6 t7 t8 t9 t10 t11 t12 : Nat} {yg yh ym yn : TypeId}
 {c c2 co cc cg cL cl cn : Code} {i o k T LT tv tw yt : Nat}
theorem get_int {x : Cx} {a' : Act} {w w' : World} {t : Nat} {u : Tr} {kd : IntKind} (hV : ∀ F : Nat -> Prop, F x.sb -> (∀ k, w.heap.size <= k -> F k) -> RepV w' F (.int kd) (Act.get a' t) u) : ∃ n, Act.get a' t = .int kd n /\ fits kd n /\ u.N = n := by
 rcases hV (fun _ => True) trivial (fun _ _ => trivial) with ⟨_, _, h⟩ | ⟨h, _⟩
 ·simp only [Rep] at h
  obtain ⟨n, h1, h2, h3⟩ := h
  exact ⟨n, h1, h2, by rw [h3]; rfl⟩
 ·cases h
/-- a list as a field -/
theorem blk_list (hat : σ.lay.at i = some (o, .list ety sz)) (hok : σ.okAt i o (.list ety sz) = true) (hf : fieldOff P T k = some o) (h1 : one P LT = true) (hsz : sized P LT 1 = true)
  (hl : Get P Γ cl sl (.int .i32) rdl) (ho : OkC P Γ co) (hc : CutC P Γ cc sa) (hg : GrowC P Γ cg sa sl sz z) (hL : LoopC P Γ cL sa sl ety sz z ef)
  (hs : (Γ.free t1 && Γ.free t2 && Γ.free t3 && Γ.free t4 && Γ.free t5 && Γ.free sv && Γ.free sa && Γ.free sl && t1 != σ.s && t2 != σ.s && t3 != σ.s && t4 != σ.s && t5 != σ.s && sv != σ.s && sa != σ.s && sl != σ.s && sl != sa) = true)
  (hs2 : (Γ.free t6 && Γ.free t7 && Γ.free t8 && Γ.free t9 && Γ.free t10 && Γ.free sv && t7 != sv && t8 != t7 && t9 != t8 && t10 != t8 && t6 != σ.s && t7 != σ.s && t8 != σ.s && t9 != σ.s && t10 != σ.s && sv != σ.s &&
   !(writes co).contains σ.s && !(writes cc).contains σ.s && !(writes cg).contains σ.s && !(writes cL).contains σ.s && !(writes co).contains sa && !(writes co).contains sl && !(writes cc).contains sl && !(writes cg).contains sl && !(writes cL).contains sa) = true)
  (hs3 : (!(writes cl).contains σ.s && !(writes cl).contains sa) = true) :
  Blk P Γ σ (.seq (.region id1 #[⟨some t1, .move (.tmp σ.s), y1, p1, e1, none⟩, ⟨some t2, .nilCheck (.tmp t1), y2, p2, e2, none⟩, ⟨some t3, .fieldAddr T (.tmp t2) k, y3, p3, e3, none⟩, ⟨some t4, .load LT (.tmp t3), y4, p4, e4, none⟩, ⟨some sv, .assign (.tmp t4), y5, p5, e5, none⟩] false)
   (.seq (.region id2 #[⟨some t5, .move (.tmp sv), y6, p6, e6, none⟩, ⟨some sa, .assign (.tmp t5), y7, p7, e7, none⟩] false) (.seq (.region id3 #[⟨some sl, .assign (.const (.int .i32 0)), y8, p8, e8, none⟩] false)
   (.seq cl (.seq co (.seq cc (.seq cg (.seq cL (.seq (.region id4 #[⟨some t6, .move (.tmp sa), y9, p9, e9, none⟩, ⟨some sv, .assign (.tmp t6), y10, p10, e10, none⟩] false)
   (.region id5 #[⟨some t7, .move (.tmp σ.s), y11, p11, e11, none⟩, ⟨some t8, .move (.tmp sv), y12, p12, e12, none⟩, ⟨some t9, .nilCheck (.tmp t7), y13, p13, e13, none⟩, ⟨some t10, .fieldAddr T (.tmp t9) k, y14, p14, e14, none⟩, ⟨none, .store LT (.tmp t10) (.tmp t8), y15, p15, e15, none⟩] false))))))))))
   (listF i rdl (fun _ _ => false) ef) := by
 intro x F blk off v s a w hA hp hC hS hns
 simp only [Bool.and_eq_true, Bool.not_eq_true', List.contains_eq_mem, decide_eq_false_iff_not] at hs3
 by_cases hnul : isNul v.1[i]? = true
 ·have e0 : listF i rdl (fun _ _ => false) ef x.ver x.flex v s = tailR i false (rdl x.ver x.flex s).1.N (ef x.ver x.flex) v (rdl x.ver x.flex s).2 := by simp only [listF, hnul, if_true]
  rw [e0] at hns ⊢
  refine list_head hat hok hf h1 hs hA hp hC hnul (fun a1 hA1 hp1 hva1 hsb1 => ?_)
  refine wp_seq (wp_mono (hl x s a1 w hA1) ?_)
  rintro e a2 w2 ⟨rfl, hA2, hV, hsb2, hmod⟩
  obtain ⟨n, hn1, hn2, hn3⟩ := get_int hV
  have hfit : n <= 2147483647 := by simp [fits, IntKind.min, IntKind.max, IntKind.signed, IntKind.bits] at hn2; omega
  rw [hn3] at hns ⊢
  have hva2 : Act.get a2 sa = .slice none 0 0 := (hsb2.get _ hs3.2).trans hva1
  refine wp_mono (list_tail hat hok hf hsz ho hc hg hL hs2 hA2 ((hsb2.get _ hs3.1).trans hp1) (hC.later hmod hS.rb (fun k hk => (hS.apart k hk).1)) (hS.later hmod.size) hn1 hfit (.inl ⟨rfl, hva2⟩) hns) ?_
  intro e a3 w3 h
  cases e with
  | normal =>
   obtain ⟨v', s', q1, q2, q3, q4, q5⟩ := h
   refine ⟨v', s', q1, q2, q3, (hsb1.mono fun t ht => ?_).trans ((hsb2.mono fun t ht => ?_).trans (q4.mono fun t ht => ?_)), (Stp.of_rd hmod hS.rb).trans q5⟩
   ·rcases ht with rfl | rfl | rfl | rfl | rfl | rfl | rfl | rfl <;> simp [W, writes]
   ·have : t ∈ writes cl := ht
    simp [W, writes, this]
   ·rcases ht with ht | ht | ht | ht | ht | ht | ht | ht | ht | ht
    all_goals first | (subst ht; simp [W, writes]; done) | (have ht' : t ∈ writes _ := ht; simp [W, writes, ht'])
  | ret => exact ⟨h.1, h.2.1, h.2.2.1, (Stp.of_rd hmod hS.rb).trans h.2.2.2⟩
  | _ => exact h.elim
 ·exact (hns (by simp [listF, hnul])).elim
end
end Go.Proofs.YtpecdnfmlodmaaaGreatDoorR
