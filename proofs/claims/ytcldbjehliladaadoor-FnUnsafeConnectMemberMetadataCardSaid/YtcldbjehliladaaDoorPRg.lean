/-
  A loop over a slice's places, as a rule: what a round does to the slots and to memory. No program in it.
-/
import Derived.Test.YtcldbjehliladaaDoorPRl
set_option linter.unusedSimpArgs false
set_option linter.unusedVariables false
namespace Go.Proofs.YtcldbjehliladaaDoor
open Go Go.RowKit
theorem SameBut.sub {S T : List Nat} {a b : Act} (h : SameBut (fun t => t ∈ S) a b) (hs : (S.all T.contains) = true) : SameBut (fun t => t ∈ T) a b :=
 h.mono fun t ht => by
  have := List.all_eq_true.1 hs t ht
  simpa using this
theorem SameBut.at {S : List Nat} {a b : Act} (h : SameBut (fun t => t ∈ S) a b) {t : Nat} (hs : S.contains t = false) : Act.get b t = Act.get a t := h.get t (by simpa using hs)
theorem SameBut.puts {S : List Nat} {a b : Act} (h : SameBut (fun t => t ∈ S) a b) {d : Nat} (hd : S.contains d = true) (v : Value) : SameBut (fun t => t ∈ S) a (b.put (some d) v) := h.put (by simpa using hd) v
/-- what a round answers: it goes on, or returns -/
def Round (b1 : Nat) (N : Act -> World -> Prop) (R : Act -> World -> Prop) : Exit -> Act -> World -> Prop := Exit.inBlock b1 (fun e a w => match e with | .normal => N a w | .ret => R a w | _ => False)
theorem Round.next {b1 : Nat} {N R : Act -> World -> Prop} {a : Act} {w : World} (h : N a w) : Round b1 N R .normal a w := h
theorem Round.ret {b1 : Nat} {N R : Act -> World -> Prop} {a : Act} {w : World} (h : R a w) : Round b1 N R .ret a w := h
theorem wp_range {P : Program} {Q : Exit -> Act -> World -> Prop} {a0 : Act} {w0 : World} {b0 b1 tn ti tc td n : Nat} {body : Code} {id1 id2 : Nat} {ya yb yc yd y1 y2 y3 : TypeId} {p1 p2 p3 : String} {e1 e2 e3 : Array Edge} (S : List Nat) (I : Nat -> Act -> World -> Prop)
  (hS : (S.contains tc && S.contains ti && S.contains td && !S.contains tn && tc != ti && tc != td && ti != td && decide (tc < a0.tmps.size) && decide (ti < a0.tmps.size) && decide (td < a0.tmps.size)) = true)
  (hn : Act.get a0 tn = .int .i64 (n : Nat)) (hmax : n <= 9223372036854775807) (h0 : Act.get a0 ti = .int .i64 0) (hI : I 0 a0 w0)
  (hst : ∀ i a a' w, SameBut (fun t => t ∈ [tc, ti, td]) a a' -> I i a w -> I i a' w)
  (hbd : ∀ i a w, i < n -> SameBut (fun t => t ∈ S) a0 a -> Act.get a ti = .int .i64 (i : Nat) -> I i a w ->
   body.wp P (Round b1 (fun a' w' => SameBut (fun t => t ∈ S) a0 a' /\ Act.get a' ti = .int .i64 (i : Nat) /\ I (i + 1) a' w') (Q .ret)) a w)
  (hQ : ∀ a w, SameBut (fun t => t ∈ S) a0 a -> I n a w -> Q .normal a w) :
  (Code.loop (.seq (.region id1 #[⟨some tc, .binOp .lss ya (.tmp ti) (.tmp tn) yb, y1, p1, e1, none⟩] false) (.seq (.cond (.tmp tc) .skip (.exit b0))
   (.seq (.block b1 body) (.region id2 #[⟨some td, .binOp .add yc (.tmp ti) (.const (.int .i64 1)) yd, y2, p2, e2, none⟩, ⟨some ti, .move (.tmp td), y3, p3, e3, none⟩] false))))).wp P (Exit.inBlock b0 Q) a0 w0 := by
 simp only [Bool.and_eq_true, bne_iff_ne, Bool.not_eq_true', decide_eq_true_eq] at hS
 obtain ⟨⟨⟨⟨⟨⟨⟨⟨⟨s1, s2⟩, s3⟩, s4⟩, n1⟩, n2⟩, n3⟩, z1⟩, z2⟩, z3⟩ := hS
 refine (wp_loop_ghost (fun m a w => m <= n /\ SameBut (fun t => t ∈ S) a0 a /\ Act.get a ti = .int .i64 ((n - m : Nat) : Int) /\ I (n - m) a w) n ⟨Nat.le_refl _, .refl _, by rw [Nat.sub_self]; exact h0, by rw [Nat.sub_self]; exact hI⟩ ?_)
 rintro m a w ⟨hm, hs, hi, hI⟩
 have hsz := hs.size
 have hnn : Act.get a tn = .int .i64 (n : Nat) := (hs.at s4).trans hn
 refine wp_seq (wp_region_lit (Zv rfl (x_lss (k := .i64) (m := ((n - m : Nat) : Int)) (n := (n : Nat)) (by rw [Ze, hi]) (by rw [Ze, hnn])) (wpList_nil ?_)))
 have hs1 : SameBut (fun t => t ∈ S) a0 (a.put (some tc) (.bool (decide (((n - m : Nat) : Int) < (n : Nat))))) := hs.puts s1 _
 have ht1 : Act.get (a.put (some tc) (.bool (decide (((n - m : Nat) : Int) < (n : Nat))))) tc = .bool (decide (((n - m : Nat) : Int) < (n : Nat))) := Zq (by omega)
 have hi1 : Act.get (a.put (some tc) (.bool (decide (((n - m : Nat) : Int) < (n : Nat))))) ti = .int .i64 ((n - m : Nat) : Int) := (Zn n1).trans hi
 have hI1 := hst (n - m) a (a.put (some tc) (.bool (decide (((n - m : Nat) : Int) < (n : Nat))))) w ((SameBut.refl a).put (by simp) _) hI
 generalize a.put (some tc) (.bool (decide (((n - m : Nat) : Int) < (n : Nat)))) = a1 at *
 simp only [Exit.then]
 by_cases hpos : 0 < m
 ·refine wp_seq (wp_cond_true (by rw [Ze, ht1]; simp; omega) (wp_skip ?_))
  simp only [Exit.then]
  refine wp_seq (wp_block (wp_mono (hbd (n - m) a1 w (by omega) hs1 hi1 hI1) ?_))
  intro e a2 w2 h2
  have fin : ∀ a2 w2, (SameBut (fun t => t ∈ S) a0 a2 /\ Act.get a2 ti = .int .i64 ((n - m : Nat) : Int) /\ I (n - m + 1) a2 w2) ->
    Exit.then ((Code.region id2 #[⟨some td, .binOp .add yc (.tmp ti) (.const (.int .i64 1)) yd, y2, p2, e2, none⟩, ⟨some ti, .move (.tmp td), y3, p3, e3, none⟩] false).wp P (Exit.then (fun a' w' => ∃ n', n' < m /\ n' <= n /\ SameBut (fun t => t ∈ S) a0 a' /\ Act.get a' ti = .int .i64 ((n - n' : Nat) : Int) /\ I (n - n') a' w') (Exit.inBlock b0 Q))) (Exit.then (fun a' w' => ∃ n', n' < m /\ n' <= n /\ SameBut (fun t => t ∈ S) a0 a' /\ Act.get a' ti = .int .i64 ((n - n' : Nat) : Int) /\ I (n - n') a' w') (Exit.inBlock b0 Q)) .normal a2 w2 := by
   rintro a2 w2 ⟨g1, g2, g3⟩
   have hz2 := g1.size
   refine wp_region_lit (Zv rfl (x_add (k := .i64) (m := ((n - m : Nat) : Int)) (n := 1) (by rw [Ze, g2]) rfl) (Zv rfl Zm (wpList_nil ?_)))
   refine ⟨m - 1, by omega, by omega, (g1.puts s3 _).puts s2 _, ?_, ?_⟩
   ·rw [Zq (by simp only [Zs]; omega), Ze, Zq (by omega)]
    congr 1
    rw [IntKind.wrap_i64]; omega
   ·rw [show n - (m - 1) = n - m + 1 by omega]
    exact hst _ a2 _ w2 (((SameBut.refl a2).put (by simp) _).put (by simp) _) g3
  cases e with
  | normal => exact fin a2 w2 h2
  | ret => exact h2
  | exit q =>
   by_cases hq : q = b1
   ·subst hq
    have h3 : SameBut (fun t => t ∈ S) a0 a2 /\ Act.get a2 ti = .int .i64 ((n - m : Nat) : Int) /\ I (n - m + 1) a2 w2 := by simpa [Round, Exit.inBlock] using h2
    simp only [Exit.inBlock, if_true]
    exact fin a2 w2 h3
   ·simp [Round, Exit.inBlock, hq] at h2
  | _ => exact h2.elim
 ·refine wp_seq (wp_cond_false (by rw [Ze, ht1]; simp; omega) (wp_exit ?_))
  simp only [Exit.then, Exit.inBlock, if_true]
  obtain rfl : m = 0 := by omega
  exact hQ a1 w hs1 (by simpa using hI1)
end Go.Proofs.YtcldbjehliladaaDoor
