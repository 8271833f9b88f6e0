/-
  Regions whose order is drawn, of which several operations turn memory, each waiting for the one ahead.
-/
import Derived.Test.YtcldbjehliladaaDoorPReg
set_option linter.unusedSimpArgs false
set_option linter.unusedVariables false
namespace Go.Proofs.YtcldbjehliladaaDoor
open Go Go.RowKit
section
variable {P : Program} {ops : Array Oper} {Q : Exit -> Act -> World -> Prop}
/-- several operations may turn memory, each waiting for the one ahead -/
theorem region_rg2 {n m : Nat} {id : Nat} {a0 : Act} {w : World} {tl : List Oper} (hm : P.follows .mixedOrders = true) (Rel : World -> World -> Prop) (hdrew : Rel w w.drew) (htrans : ∀ a b c, Rel a b -> Rel b c -> Rel a c)
  (G : Nat -> Value -> World -> Prop) (RelI : Nat -> World -> World -> Prop) (Rel0 : Nat -> World -> World -> Prop) (hdrew0 : ∀ p, Rel0 p w w.drew) (htrans0 : ∀ p a b c, Rel0 p a b -> Rel0 p b c -> Rel0 p a c) (hI : ∀ p i o a b, i < n -> ops[i]? = some o -> i ≠ p -> (∀ e ∈ o.after, Region.binds .any e = true -> e.on ≠ p) -> RelI i a b -> Rel0 p a b) (hsub : ∀ i a b, RelI i a b -> Rel a b) (hst : ∀ i j o v w w', i < n -> j < n -> ops[i]? = some o -> i ≠ j -> (∀ e ∈ o.after, Region.binds .any e = true -> e.on ≠ j) -> G i v w -> RelI j w w' -> G i v w') (ds : Nat -> Nat)
  (hops : ∀ i o, ops[i]? = some o -> i < n -> o.guard = none /\ o.dst = some (ds i)) (hinj : ∀ i j, i < n -> j < n -> ds i = ds j -> i = j) (hb : ∀ i, i < n -> ds i < a0.tmps.size)
  (hn : ops.size = n + m) (hm0 : 0 < m) (htl : ∀ j, tl[j]? = ops[n + j]?) (htll : tl.length = m) (hseq : Region.seqB .any ops m n (headDone n m) = true)
  (hsink : Region.sinkB .any ops n = true) (hchain : Region.chainB .any ops n = true) (hlt : ∀ i o, ops[i]? = some o -> i < n -> ∀ e ∈ o.after, Region.binds .any e = true -> e.on < i)
  (step : ∀ i o, i < n -> ops[i]? = some o -> ∀ a w', Rel w w' -> Rel0 i w w' -> SameBut (fun t => ∃ i, i < n /\ t = ds i) a0 a -> (∀ e ∈ o.after, Region.binds .any e = true -> G e.on (Act.get a (ds e.on)) w') ->
   o.wp P a w' (fun a' w'' => ∃ v, a' = a.put (some (ds i)) v /\ RelI i w' w'' /\ G i v w'') Q)
  (tail : ∀ a w', Rel w w' -> SameBut (fun t => ∃ i, i < n /\ t = ds i) a0 a -> (∀ i, i < n -> G i (Act.get a (ds i)) w') -> wpList P ops Q tl a w') :
  (Code.region id ops true).wp P Q a0 w := by
 refine wp_region_any hm ?_
 have key : ∀ (fuel : Nat) (listed : Array Bool) (a : Act) (w' : World), RegInv n ds Rel G a0 w ops listed a w' -> (∀ p, p < n -> listed.getD p false = false -> Rel0 p w w') -> unlisted n listed + m = fuel -> wpAny P .any ops Q fuel listed a w' := by
  intro fuel
  induction fuel with
  | zero => intro listed a w' inv hp0 hf; omega
  | succ fuel ih =>
   intro listed a w' inv hp0 hf
   by_cases hall : ∀ i, i < n -> listed.getD i false = true
   ·have hl : listed = headDone n m := headDone_eq (by rw [inv.head.size, hn]) hall (fun t h1 h2 => inv.head.tail t h1 (by omega))
    subst hl
    have hu : unlisted n (headDone n m) = 0 := unlisted_zero n hall
    have hfm : fuel + 1 = tl.length := by omega
    rw [hfm]
    exact wpAny_of_seq tl n _ a w' htl (by rw [htll]; exact hseq) (tail a w' inv.rel inv.same fun i hi => inv.got i hi (hall i hi))
   ·have hex : ∃ i, i < n /\ listed.getD i false = false := by
     apply Classical.byContradiction
     intro hno
     exact hall fun i hi => by
      cases hl : listed.getD i false with
      | true => rfl
      | false => exact (hno ⟨i, hi, hl⟩).elim
    obtain ⟨i0, hi0, hl0⟩ := hex
    refine ⟨fun hnil => ?_, fun i hi => ?_⟩
    ·exfalso
     have hleast : ∃ i, i < n /\ listed.getD i false = false /\ ∀ j, j < i -> listed.getD j false = true := by
      have : ∀ k, ∀ i, i <= k -> i < n -> listed.getD i false = false -> ∃ i, i < n /\ listed.getD i false = false /\ ∀ j, j < i -> listed.getD j false = true := by
       intro k
       induction k with
       | zero => intro i hik hin hil; exact ⟨i, hin, hil, fun j hj => by omega⟩
       | succ k ihk =>
        intro i hik hin hil
        by_cases hj : ∀ j, j < i -> listed.getD j false = true
        ·exact ⟨i, hin, hil, hj⟩
        ·have : ∃ j, j < i /\ listed.getD j false = false := by
          apply Classical.byContradiction
          intro hno
          exact hj fun j hj' => by
           cases hl : listed.getD j false with
           | true => rfl
           | false => exact (hno ⟨j, hj', hl⟩).elim
         obtain ⟨j, hj1, hj2⟩ := this
         exact ihk j (by omega) (by omega) hj2
      exact this i0 i0 (Nat.le_refl _) hi0 hl0
     obtain ⟨i, hin, hil, hless⟩ := hleast
     obtain ⟨o, ho⟩ : ∃ o, ops[i]? = some o := ⟨_, Array.getElem?_eq_getElem (by omega)⟩
     have : i ∈ Region.ready .any ops listed := mem_ready.2 ⟨getD_in (by rw [inv.head.size]; omega) hil, o, ho, fun e he hb' => hless _ (hlt i o ho hin e he hb')⟩
     rw [hnil] at this; cases this
    ·obtain ⟨hun, o, ho, hall'⟩ := mem_ready.1 hi
     have hin : i < n := by
      rcases Nat.lt_or_ge i n with h | h
      ·exact h
      ·exact absurd hi (tail_waits hsink hchain (by omega) inv.head _ i0 rfl hi0 (getD_in (by rw [inv.head.size]; omega) hl0) i h)
     have hun' := getD_both hun
     obtain ⟨hg, hd⟩ := hops i o ho hin
     unfold wpOp
     simp only [ho]
     have hw : Region.wanted o (yielded ops a.tmps) = true := by simp [Region.wanted, hg]
     rw [if_pos hw]
     refine .inl (Oper.wp_mono ?_ (step i o hin ho a w' inv.rel (hp0 i hin hun') inv.same fun e he hb' => inv.got _ (Nat.lt_trans (hlt i o ho hin e he hb') hin) (hall' e he hb')))
     rintro a' w'' ⟨v, rfl, hrel, hG⟩
     have hsz : a.tmps.size = a0.tmps.size := inv.same.size
     refine ih _ _ _ ⟨inv.head.set hi hin, htrans _ _ _ inv.rel (hsub i _ _ hrel), inv.same.put ⟨i, hin, rfl⟩ v, fun j hj hl => ?_⟩ ?_ ?_
     ·by_cases hij : i = j
      ·subst hij
       rw [Zq (by rw [hsz]; exact hb i hin)]
       exact hG
      ·rw [getD_set_ne false hij] at hl
       rw [Zn (fun e => hij (hinj i j hin hj e))]
       obtain ⟨oj, hoj⟩ : ∃ o, ops[j]? = some o := ⟨_, Array.getElem?_eq_getElem (by omega)⟩
       exact hst j i oj _ _ _ hj hin hoj (fun e => hij e.symm) (fun e he hb' hei => by
        have := inv.head.closed j oj hoj hl e he hb'
        rw [hei, hun'] at this
        cases this) (inv.got j hj hl) hrel
     ·intro p hp hl
      by_cases hip : i = p
      ·subst hip
       rw [getD_set_eq_true (by rw [inv.head.size]; omega)] at hl
       cases hl
      ·rw [getD_set_ne false hip] at hl
       refine htrans0 p _ _ _ (hp0 p hp hl) (hI p i o _ _ hin ho hip (fun e he hb' hep => ?_) hrel)
       have := hall' e he hb'
       rw [hep, hl] at this
       cases this
     ·have := unlisted_set (listed := listed) (i := i) (by rw [inv.head.size]; omega) hun' n hin
      omega
 refine key ops.size _ a0 _ ⟨⟨by simp, fun j oj hj hl => ?_, fun t ht hts => ?_⟩, hdrew, .refl a0, fun i hi hl => ?_⟩ (fun p _ _ => hdrew0 p) ?_
 ·rw [getD_replicate_false] at hl; cases hl
 ·have : t < ops.size := hts
  simp [this]
 ·rw [getD_replicate_false] at hl; cases hl
 ·rw [unlisted_all n _ (by omega), hn]
def Step2 (P : Program) (Rel : World -> World -> Prop) (RelI Rel0 : Nat -> World -> World -> Prop) (gl : List (Value -> World -> Prop)) (dl : List Nat) (Q : Exit -> Act -> World -> Prop) (a0 : Act) (w : World) (i : Nat) (o : Oper) : Prop :=
 ∀ a w', Rel w w' -> Rel0 i w w' -> SameBut (fun t => t ∈ dl) a0 a -> (∀ e ∈ o.after, Region.binds .any e = true -> (gl.getD e.on (fun _ _ => True)) (Act.get a (dl.getD e.on 0)) w') ->
  o.wp P a w' (fun a' w'' => ∃ v, a' = a.put (some (dl.getD i 0)) v /\ RelI i w' w'' /\ (gl.getD i (fun _ _ => True)) v w'') Q
def R2List (P : Program) (Rel : World -> World -> Prop) (RelI Rel0 : Nat -> World -> World -> Prop) (gl : List (Value -> World -> Prop)) (dl : List Nat) (Q : Exit -> Act -> World -> Prop) (a0 : Act) (w : World) : Nat -> List Oper -> Prop
 | _, [] => True
 | i, o :: os => Step2 P Rel RelI Rel0 gl dl Q a0 w i o /\ R2List P Rel RelI Rel0 gl dl Q a0 w (i + 1) os
theorem R2List.at {Rel : World -> World -> Prop} {RelI Rel0 : Nat -> World -> World -> Prop} {gl : List (Value -> World -> Prop)} {dl : List Nat} {a0 : Act} {w : World} : ∀ (l : List Oper) (k : Nat), R2List P Rel RelI Rel0 gl dl Q a0 w k l -> ∀ i o, l[i]? = some o -> Step2 P Rel RelI Rel0 gl dl Q a0 w (k + i) o
 | [], _, _, i, o, h => by simp at h
 | o' :: l, k, hl, 0, o, h => by simp at h; subst h; exact hl.1
 | o' :: l, k, hl, i + 1, o, h => by
  have := R2List.at l (k + 1) hl.2 i o (by simpa using h)
  rw [show k + (i + 1) = k + 1 + i by omega]; exact this
theorem region_rl2 {id : Nat} {l tl : List Oper} {a0 : Act} {w : World} (hm : P.follows .mixedOrders = true) (Rel : World -> World -> Prop) (hdrew : Rel w w.drew) (htrans : ∀ a b c, Rel a b -> Rel b c -> Rel a c)
  (dl : List Nat) (gl : List (Value -> World -> Prop)) (RelI Rel0 : Nat -> World -> World -> Prop) (hdrew0 : ∀ p, Rel0 p w w.drew) (htrans0 : ∀ p a b c, Rel0 p a b -> Rel0 p b c -> Rel0 p a c)
  (hI : ∀ p i o a b, l[i]? = some o -> i ≠ p -> (∀ e ∈ o.after, Region.binds .any e = true -> e.on ≠ p) -> RelI i a b -> Rel0 p a b) (hsub : ∀ i a b, RelI i a b -> Rel a b)
  (hst : ∀ i j o v w w', l[i]? = some o -> j < l.length -> i ≠ j -> (∀ e ∈ o.after, Region.binds .any e = true -> e.on ≠ j) -> gl.getD i (fun _ _ => True) v w -> RelI j w w' -> gl.getD i (fun _ _ => True) v w') (hform : regFormT l dl = true) (hnd : dl.Nodup) (hb : ∀ d ∈ dl, d < a0.tmps.size) (htl0 : 0 < tl.length)
  (hchk : (Region.sinkB .any (l ++ tl).toArray l.length && Region.chainB .any (l ++ tl).toArray l.length && Region.seqB .any (l ++ tl).toArray tl.length l.length (headDone l.length tl.length) && regEdges l 0) = true)
  (steps : R2List P Rel RelI Rel0 gl dl Q a0 w 0 l)
  (htail : ∀ a w', Rel w w' -> SameBut (fun t => t ∈ dl) a0 a -> (∀ i, i < l.length -> (gl.getD i (fun _ _ => True)) (Act.get a (dl.getD i 0)) w') -> wpList P (l ++ tl).toArray Q tl a w') :
  (Code.region id (l ++ tl).toArray true).wp P Q a0 w := by
 simp only [regFormT, beq_iff_eq] at hform
 simp only [Bool.and_eq_true] at hchk
 obtain ⟨⟨⟨hsink, hchain⟩, hseq⟩, hedges⟩ := hchk
 have hlen : l.length = dl.length := by have := congrArg List.length hform; simpa using this
 have hget : ∀ i o, l[i]? = some o -> o.guard = none /\ o.dst = some (dl.getD i 0) := by
  intro i o h
  have hi : i < l.length := (List.getElem?_eq_some_iff.1 h).1
  have := congrArg (fun q => q[i]?) hform
  simp only [List.getElem?_map, h, Option.map_some] at this
  rw [List.getElem?_eq_getElem (by omega)] at this
  simp only [Option.map_some, Option.some.injEq, Prod.mk.injEq, Option.isNone_iff_eq_none] at this
  refine ⟨this.1, this.2.trans ?_⟩
  simp [List.getD, List.getElem?_eq_getElem (show i < dl.length by omega)]
 have hopl : ∀ i o, i < l.length -> (l ++ tl).toArray[i]? = some o -> l[i]? = some o := fun i o hi h => by
  simpa [List.getElem?_append_left hi] using h
 have hset : ∀ t, (∃ i, i < l.length /\ t = dl.getD i 0) ↔ t ∈ dl := fun t => by
  constructor
  ·rintro ⟨i, hi, rfl⟩
   simp [List.getD, List.getElem?_eq_getElem (show i < dl.length by omega)]
  ·intro ht
   obtain ⟨i, hi, rfl⟩ := List.getElem_of_mem ht
   exact ⟨i, by omega, by simp [List.getD, List.getElem?_eq_getElem hi]⟩
 have hsame : ∀ a, SameBut (fun t => ∃ i, i < l.length /\ t = dl.getD i 0) a0 a -> SameBut (fun t => t ∈ dl) a0 a := fun a h => h.mono fun t ht => (hset t).1 ht
 refine region_rg2 (n := l.length) (m := tl.length) (tl := tl) hm Rel hdrew htrans (fun i => gl.getD i (fun _ _ => True)) RelI Rel0 hdrew0 htrans0 (fun p i o a b hi ho hip he hr => hI p i o a b (hopl i o hi ho) hip he hr) hsub (fun i j o v w w' hi hj ho hij he hg hr => hst i j o v w w' (hopl i o hi ho) hj hij he hg hr) (fun i => dl.getD i 0) ?_ ?_ ?_ (by simp) htl0 ?_ rfl hseq hsink hchain ?_ ?_ ?_
 ·intro i o ho hi; exact hget i o (hopl i o hi ho)
 ·intro i j hi hj h
  have h1 : i < dl.length := by omega
  have h2 : j < dl.length := by omega
  simp only [List.getD, List.getElem?_eq_getElem h1, List.getElem?_eq_getElem h2, Option.getD_some] at h
  have hp := List.pairwise_iff_getElem.1 hnd
  rcases Nat.lt_trichotomy i j with hlt | heq | hlt
  ·exact (hp i j h1 h2 hlt h).elim
  ·exact heq
  ·exact (hp j i h2 h1 hlt h.symm).elim
 ·intro i hi
  exact hb _ ((hset _).1 ⟨i, hi, rfl⟩)
 ·intro j
  simp [List.getElem?_append_right (Nat.le_add_right _ _)]
 ·intro i o ho hi e he hb'
  have := regEdges_spec _ 0 hedges i o (hopl i o hi ho) e he hb'
  omega
 ·intro i o hi ho a w' hr hp hs hd
  have := R2List.at l 0 steps i o (hopl i o hi ho)
  rw [Nat.zero_add] at this
  exact this a w' hr hp (hsame a hs) hd
 ·intro a w' hr hs hg
  exact htail a w' hr (hsame a hs) hg
end
end Go.Proofs.YtcldbjehliladaaDoor
