/-
  Rules for the code that reads a message's parts: values handed on, lists, tags, parts within, 16 octets. No program in it but for the reading of tags.
-/
import Derived.Test.YtcldbjehliladaaDoorPTh
set_option linter.unusedSimpArgs false
set_option linter.unusedVariables false
namespace Go.Proofs.YtcldbjehliladaaDoor
open Go Go.RowKit
/-- code that puts the value of a slot into a field -/
def BlkV (P : Program) (Γ : Sl) (σ : St) (tv : Nat) (ty : Ty) (i : Nat) (c : Code) : Prop :=
 ∀ x F blk off v s a w u, Amb Γ x s a w -> Act.get a σ.s = .pointer (some ⟨blk, off, none⟩) -> Cur σ F blk off v w -> Sep x F blk w -> RepV w F ty (Act.get a tv) u ->
  c.wp P (fun e a' w' => e = .normal /\ Amb Γ x s a' w' /\ Cur σ F blk off (v.1.set i u, v.2) w' /\ SameBut (W c) a a' /\ Stp x blk off σ.sz w w') a w
def Tr.U : Tr -> Tags
 | .mk _ _ _ _ u => u
/-- tags are read -/
def tagF : FT := fun _ _ v s => .ok (v.1, (rdTags s).1) (rdTags s).2
/-- a part within -/
def subF (i : Nat) (d : SV -> SV) (f : FT) : FT := fun ver fl v s => (f ver fl (d ((v.1.getD i .nul).L, (v.1.getD i .nul).U)) s).then fun v' s' => .ok (v.1.set i (.part v'.1 v'.2), v.2) s'
section
variable {P : Program} {Γ : Sl} {σ σ' : St} {f g : FT} {id id' id1 id2 id3 id4 id5 : Nat} {ty ety : Ty} {rd rdl : Int -> Bool -> RS -> Tr × RS} {sa sl si sv sz b0 b1 : Nat} {z : Nat -> Value} {ef : EF} {nv : Int -> Int -> Bool}
 {y1 y2 y3 y4 y5 y6 y7 y8 y9 y10 y11 y12 y13 y14 y15 : TypeId} {p1 p2 p3 p4 p5 p6 p7 p8 p9 p10 p11 p12 p13 p14 p15 : String} {e1 e2 e3 e4 e5 e6 e7 e8 e9 e10 e11 e12 e13 e14 e15 : Array Edge} {ts ts1 ts2 : Array TypeId} {t1 t2 t3 t4 t5 t6 t7 t8 t9 t10 t11 t12 : Nat} {yg yh ym yn : TypeId}
 {c c2 co cc cg cL cl cn : Code} {i o k T LT tv tw yt : Nat}
theorem blkV_put (hat : σ.lay.at i = some (o, ty)) (hok : σ.okAt i o ty = true) (hf : fieldOff P T k = some o) (hsz : sized P yt ty.size = true)
  (hs : (Γ.free t1 && Γ.free t2 && Γ.free t3 && Γ.free t4 && t1 != tv && t2 != t1 && t3 != t2 && t4 != t2 && t1 != σ.s && t2 != σ.s && t3 != σ.s && t4 != σ.s) = true) :
  BlkV P Γ σ tv ty i (.region id #[⟨some t1, .move (.tmp σ.s), y1, p1, e1, none⟩, ⟨some t2, .move (.tmp tv), y2, p2, e2, none⟩, ⟨some t3, .nilCheck (.tmp t1), y3, p3, e3, none⟩,
   ⟨some t4, .fieldAddr T (.tmp t3) k, y4, p4, e4, none⟩, ⟨none, .store yt (.tmp t4) (.tmp t2), y5, p5, e5, none⟩] false) := by
 intro x F blk off v s a w u hA hp hC hS hV
 refine wp_mono (put_region hat hok hf hsz hs hA hp hC hS hV) ?_
 rintro e a' w' ⟨rfl, h1, h2, h3, h4⟩
 refine ⟨rfl, h1, h2, h3.mono fun t ht => ?_, h4⟩
 rcases ht with rfl | rfl | rfl | rfl <;> simp [W, writes]
/-- a reading, and what becomes of it -/
theorem blk_get (hg : Get P Γ c tv ty rd) (h : BlkV P Γ σ tv ty i c2) (hs : (!(writes c).contains σ.s) = true) : Blk P Γ σ (.seq c c2) (putF i rd) := by
 intro x F blk off v s a w hA hp hC hS _
 have hs' : ¬ σ.s ∈ writes c := by simpa using hs
 refine wp_seq (wp_mono (hg x s a w hA) ?_)
 rintro e a1 w1 ⟨rfl, hA1, hV, hsb, hmod⟩
 have hS1 := hS.later hmod.size
 refine wp_mono (h x F blk off v _ a1 w1 _ hA1 ((hsb.get _ hs').trans hp) (hC.later hmod hS.rb (fun k hk => (hS.apart k hk).1)) hS1 (hV F hS.src hS.fresh)) ?_
 rintro e a' w' ⟨rfl, h1, h2, h3, h4⟩
 exact ⟨_, _, rfl, h1, h2, (hsb.mono fun t ht => by simp only [W, writes, List.mem_append] at *; exact .inl ht).trans (h3.mono fun t ht => by simp only [W, writes, List.mem_append] at *; exact .inr ht), (Stp.of_rd hmod hS.rb).trans h4⟩
end
end Go.Proofs.YtcldbjehliladaaDoor
