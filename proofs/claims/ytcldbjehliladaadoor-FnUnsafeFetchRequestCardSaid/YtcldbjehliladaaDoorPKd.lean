/-
  The defaults of a part that lies within a message.
-/
import Derived.Test.YtcldbjehliladaaDoorPRu
set_option linter.unusedSimpArgs false
set_option linter.unusedVariables false
namespace Go.Proofs.YtcldbjehliladaaDoor
open Go Go.RowKit
/-- the same by the pointer in another slot -/
def DBlkS (P : Program) (σ : St) (N pp : Nat) (c : Code) (d : SV -> SV) : Prop :=
 ∀ F blk off v a w, a.tmps.size = N -> a.defers = [] -> Act.get a pp = .pointer (some ⟨blk, off, none⟩) -> Cur σ F blk off v w -> (∀ k, F k -> k ≠ blk) -> c.wp P (fun e a' w' => e = .normal /\ a'.tmps.size = N /\ a'.defers = [] /\ Act.get a' pp = .pointer (some ⟨blk, off, none⟩) /\ Act.get a' 0 = Act.get a 0 /\ Mod (only blk) w w' /\ Cur σ F blk off (d v) w' /\
  ∀ C t, w.heap[blk]? = some (.cells C t (0, 0)) -> ∃ C', w'.heap[blk]? = some (.cells C' t (0, 0)) /\ C'.size = C.size /\ ∀ j, j < off \/ off + σ.sz <= j -> C'[j]? = C[j]?) a w
section
variable {P : Program} {σ σ' : St} {N : Nat} {d d' : SV -> SV} {c c' : Code} {id i o k T yt : Nat} {ty : Ty} {t1 t2 t3 : Nat} {y1 y2 y3 y4 : TypeId} {p1 p2 p3 p4 : String} {e1 e2 e3 e4 : Array Edge} {val : Value} {u : Tr}
theorem dblks_seq {pp : Nat} (h : DBlkS P σ N pp c d) (h' : DBlkS P σ N pp c' d') : DBlkS P σ N pp (.seq c c') (fun v => d' (d v)) := by
 intro F blk off v a w h1 h2 h3 h4 h5
 refine wp_seq (wp_mono (h F blk off v a w h1 h2 h3 h4 h5) ?_)
 rintro e a1 w1 ⟨rfl, g1, g2, g3, g0, g4, g5, g6⟩
 refine wp_mono (h' F blk off _ a1 w1 g1 g2 g3 g5 h5) ?_
 rintro e a2 w2 ⟨rfl, k1, k2, k3, k0, k4, k5, k6⟩
 refine ⟨rfl, k1, k2, k3, k0.trans g0, g4.trans k4, k5, fun C t hc => ?_⟩
 obtain ⟨C1, q1, q2, q3⟩ := g6 C t hc
 obtain ⟨C2, r1, r2, r3⟩ := k6 C1 t q1
 exact ⟨C2, r1, r2.trans q2, fun j hj => (r3 j hj).trans (q3 j hj)⟩
theorem dblks_mv {pp : Nat} (hs : (decide (t1 < N) && t1 != pp && t1 != 0) = true) : DBlkS P σ N pp (.region id #[⟨some t1, .move (.tmp t2), y1, p1, e1, none⟩] false) (fun v => v) := by
 intro F blk off v a w hN hd hp hC hF
 simp only [Bool.and_eq_true, bne_iff_ne, decide_eq_true_eq] at hs
 refine wp_region_lit (Zv rfl Zm (wpList_nil ⟨rfl, ?_, ?_, ?_, ?_, .refl w, hC, fun C t hc => ⟨C, hc, rfl, fun _ _ => rfl⟩⟩))
 ·simp only [Zs]; exact hN
 ·simp only [Zd]; exact hd
 ·rw [Zn hs.1.2, hp]
 ·rw [Zn hs.2]
theorem dblks_set {pp : Nat} (hat : σ.lay.at i = some (o, ty)) (hok : σ.okAt i o ty = true) (h1 : ty.size = 1) (hf : fieldOff P T k = some o) (hsz : sized P yt 1 = true) (hval : val.oneCell' = true) (hrep : ∀ w F, Rep w F ty (fun _ => val) u)
  (hs : (decide (t1 < N) && decide (t2 < N) && decide (t3 < N) && t1 != pp && t2 != pp && t3 != pp && t1 != 0 && t2 != 0 && t3 != 0) = true) :
  DBlkS P σ N pp (.region id #[⟨some t1, .move (.tmp pp), y1, p1, e1, none⟩, ⟨some t2, .nilCheck (.tmp t1), y2, p2, e2, none⟩, ⟨some t3, .fieldAddr T (.tmp t2) k, y3, p3, e3, none⟩, ⟨none, .store yt (.tmp t3) (.const val), y4, p4, e4, none⟩] false) (fun v => (v.1.set i u, v.2)) := by
 intro F blk off v a w hN hd hp hC hF
 simp only [Bool.and_eq_true, bne_iff_ne, decide_eq_true_eq] at hs
 obtain ⟨⟨⟨⟨⟨⟨⟨⟨l1, l2⟩, l3⟩, n1⟩, n2⟩, n3⟩, z1⟩, z2⟩, z3⟩ := hs
 obtain ⟨C, t, c1, c2, c3, c4⟩ := hC.mem
 simp only [St.okAt, Bool.and_eq_true] at hok
 have hin := Lay.at_in _ _ _ _ _ _ hok.1.1 hat
 have htg : ∀ q, σ.tg = some q -> q < σ.sz /\ (q < o \/ o + ty.size <= q) := fun q hq => by
  have := hok.1.2
  rw [hq] at this
  simpa using this
 have hbo : off + o < C.size := by omega
 refine wp_region_lit (Zv rfl Zm (Zv rfl (x_nilCheck (q := ⟨blk, off, none⟩) ?_) (Zv rfl (Za hf (b := blk) (o0 := off) ?_) ?_)))
 ·rw [Ze, Zq (by rw [hN]; exact l1), Ze, hp]
 ·rw [Ze, Zq (by simp only [Zs]; rw [hN]; exact l2)]
 refine wpl_abs (fun a' => a'.tmps.size = N /\ a'.defers = [] /\ Act.get a' pp = .pointer (some ⟨blk, off, none⟩) /\ Act.get a' 0 = Act.get a 0 /\ Act.get a' t3 = .pointer (some ⟨blk, off + o, none⟩)) ⟨by simp only [Zs]; exact hN, by simp only [Zd]; exact hd, ?_, ?_, ?_⟩ ?_
 ·rw [Zn n3, Zn n2, Zn n1, hp]
 ·rw [Zn z3, Zn z2, Zn z1]
 ·rw [Zq (by simp only [Zs]; rw [hN]; exact l3)]
 rintro a' ⟨g1, g2, g3, g0, g4⟩
 refine wpl_skip rfl (x_store1 hsz (b := blk) (o := off + o) (v := val) (u := C[off + o]) (by rw [Ze, g4]) rfl hval (by rw [Zc c1]; exact Array.getElem?_eq_getElem hbo) (Zz c1)) (wpList_nil ?_)
 rw [Zo]
 have hm : Mod (only blk) w (w.setCell ⟨blk, off + o, none⟩ val) := (Mod.refl w).put _ _
 refine ⟨rfl, g1, g2, g3, g0, hm, ?_, fun D td hD => ?_⟩
 ·refine cur_store hok.1.1 htg hat hC hF hm c1 (heap_setCell_same c1 _) (by simp) (fun j hj => by rw [Array.getElem?_setIfInBounds_ne (by omega)]) ?_
  refine Rep.congr ty (fun _ => val) _ _ hin.2.2 (fun j hj => ?_) (hrep w F)
  have : j = 0 := by omega
  subst this
  exact get_from' (by simp [hbo])
 ·rw [c1] at hD
  obtain ⟨rfl, rfl⟩ : C = D /\ t = td := by simpa using hD
  exact ⟨_, heap_setCell_same c1 _, by simp, fun j hj => by rw [Array.getElem?_setIfInBounds_ne (by omega)]⟩
/-- what the defaults of a part within come to -/
def subD (i : Nat) (d : SV -> SV) (v : SV) : SV := (v.1.set i (.part (d ((v.1.getD i .nul).L, (v.1.getD i .nul).U)).1 (d ((v.1.getD i .nul).L, (v.1.getD i .nul).U)).2), v.2)
theorem dblk_sub {sp : Nat} (h : DBlkS P σ' N sp c d) (hat : σ.lay.at i = some (o, .struct σ'.lay σ'.tg σ'.sz)) (hok : σ.okAt i o (.struct σ'.lay σ'.tg σ'.sz) = true) (hf : fieldOff P T k = some o)
  (hs : (decide (t1 < N) && decide (t2 < N) && decide (t3 < N) && decide (sp < N) && t1 != 0 && t2 != 0 && t3 != 0 && sp != 0) = true) :
  DBlk P σ N (.seq (.region id #[⟨some t1, .move (.tmp 0), y1, p1, e1, none⟩, ⟨some t2, .nilCheck (.tmp t1), y2, p2, e2, none⟩, ⟨some t3, .fieldAddr T (.tmp t2) k, y3, p3, e3, none⟩, ⟨some sp, .assign (.tmp t3), y4, p4, e4, none⟩] false) c) (subD i d) := by
 intro F blk off v a w hN hd hp hC hF
 simp only [Bool.and_eq_true, bne_iff_ne, decide_eq_true_eq] at hs
 obtain ⟨⟨⟨⟨⟨⟨⟨l1, l2⟩, l3⟩, l4⟩, n1⟩, n2⟩, n3⟩, n4⟩ := hs
 obtain ⟨C, tc, hb, hC2, hrep, htags⟩ := hC.mem
 obtain ⟨t0, ht0, hrep0⟩ := RepL.get _ _ _ _ _ _ hat hrep
 simp only [Rep] at hrep0
 obtain ⟨vs, u, hrl, htg, rfl⟩ := hrep0
 have hget : v.1.getD i .nul = .part vs u := by simp [List.getD, ht0]
 have ed : subD i d v = (v.1.set i (.part (d (vs, u)).1 (d (vs, u)).2), v.2) := by
  simp only [subD, hget]; rfl
 simp only [St.okAt, Bool.and_eq_true] at hok
 have hin := Lay.at_in _ _ _ _ _ _ hok.1.1 hat
 simp only [Ty.size] at hin
 have hcur : Cur σ' F blk (off + o) (vs, u) w := by
  refine ⟨C, tc, hb, by omega, ?_, ?_⟩
  ·have e : from' C (off + o) = fun j => from' C off (o + j) := by funext j; simp only [from', Nat.add_assoc]
   rw [e]; exact hrl
  ·cases hg : σ'.tg with
   | none => rw [hg] at htg; exact htg
   | some q =>
    rw [hg] at htg
    show TagsR w F (from' C (off + o) q) u
    have : from' C (off + o) q = from' C off (o + q) := by simp only [from', Nat.add_assoc]
    rw [this]; exact htg
 refine wp_seq (wp_region_lit (Zv rfl Zm (Zv rfl (x_nilCheck (q := ⟨blk, off, none⟩) ?_) (Zv rfl (Za hf (b := blk) (o0 := off) ?_) (Zv rfl Zi (wpList_nil ?_))))))
 ·rw [Ze, Zq (by omega), Ze, hp]
 ·rw [Ze, Zq (by simp only [Zs]; omega)]
 refine wp_act (fun a1 => a1.tmps.size = N /\ a1.defers = [] /\ Act.get a1 sp = .pointer (some ⟨blk, off + o, none⟩) /\ Act.get a1 0 = .pointer (some ⟨blk, off, none⟩)) ⟨by simp only [Zs]; exact hN, by simp only [Zd]; exact hd, ?_, ?_⟩ ?_
 ·rw [Zq (by simp only [Zs]; omega), Ze, Zq (by simp only [Zs]; omega)]
 ·rw [Zn n4, Zn n3, Zn n2, Zn n1, hp]
 rintro a1 ⟨g1, g2, g3, g4⟩
 refine wp_mono (h F blk (off + o) (vs, u) a1 w g1 g2 g3 hcur hF) ?_
 rintro e a2 w4 ⟨rfl, k1, k2, _, k0, hm, hC4, hout⟩
 refine ⟨rfl, k1, k2, k0.trans g4, hm, ?_, fun D td hD => ?_⟩
 ·rw [ed]
  obtain ⟨C2, d1, d2, d3⟩ := hout C tc hb
  obtain ⟨C4, t4', j1, j2, j3, j4⟩ := hC4.mem
  rw [d1] at j1
  obtain ⟨rfl, rfl⟩ : C2 = C4 /\ tc = t4' := by simpa using j1
  have hF' : ∀ k, F k -> ¬ only blk k := fun k hk e => hF k hk e
  have hsame : ∀ j, j < σ.sz -> j < o \/ o + σ'.sz <= j -> from' C2 off j = from' C off j := fun j _ hj => by
   simp only [from', Array.getD_eq_getD_getElem?]
   rw [d3 (off + j) (by omega)]
  refine ⟨C2, tc, d1, by omega, ?_, ?_⟩
  ·refine RepL.set _ 0 σ.sz i o (.struct σ'.lay σ'.tg σ'.sz) (from' C off) _ _ (.part (d (vs, u)).1 (d (vs, u)).2) hok.1.1 hat (fun j _ h2 h3 => hsame j h2 (by simpa [Ty.size] using h3)) ?_ (hrep.mod hm hF' (fun _ h => h))
   simp only [Rep]
   refine ⟨(d (vs, u)).1, (d (vs, u)).2, ?_, ?_, rfl⟩
   ·have e : from' C2 (off + o) = fun j => from' C2 off (o + j) := by funext j; simp only [from', Nat.add_assoc]
    rw [e] at j3; exact j3
   ·cases hg : σ'.tg with
    | none => rw [hg] at j4; exact j4
    | some q =>
     rw [hg] at j4
     have k5 : TagsR w4 F (from' C2 (off + o) q) (d (vs, u)).2 := j4
     have : from' C2 (off + o) q = from' C2 off (o + q) := by simp only [from', Nat.add_assoc]
     rw [this] at k5; exact k5
  ·cases hq : σ.tg with
   | none => rw [hq] at htags; exact htags
   | some q =>
    rw [hq] at htags
    have htq := hok.1.2
    rw [hq] at htq
    simp only [Ty.size, Bool.and_eq_true, Bool.or_eq_true, decide_eq_true_eq] at htq
    show TagsR w4 F (from' C2 off q) v.2
    rw [hsame q htq.1 (htq.2.imp (fun h => h) (fun h => of_decide_eq_true h))]
    exact TagsR.mod htags hm hF' (fun _ h => h)
 ·obtain ⟨C', c1, c2, c3⟩ := hout D td hD
  exact ⟨C', c1, c2, fun j hj => c3 j (by omega)⟩
end
end Go.Proofs.YtcldbjehliladaaDoor
