/-
  A region that draws its order: each operation, in whatever order, leaves what is asked of its slot; the last one waits for all. No program in it.
  A region that draws its order, with a tail of several operations that wait for all the others and for one another. No program in it.
  A region that draws its order, one of whose operations may turn memory that the others do not look at. No program in it.
-/
import Derived.StillTail
import Derived.Test.YtcldbjehliladaaDoorPBase
namespace Go.Proofs.YtcldbjehliladaaDoor
open Go Go.RowKit
def Act.get (a : Act) (t : Nat) : Value := a.tmps.getD t undef
theorem Zn {a : Act} {d t : Nat} {v : Value} (h : d ≠ t) : Act.get (a.put (some d) v) t = Act.get a t := by
 simp [Act.get, Act.put, Array.getElem?_setIfInBounds_ne h]
theorem Zq {a : Act} {d : Nat} {v : Value} (h : d < a.tmps.size) : Act.get (a.put (some d) v) d = v := by
 simp [Act.get, Act.put, h]
theorem Zo (a : Act) (v : Value) : a.put none v = a := rfl
theorem Zs (a : Act) (d : Option Nat) (v : Value) : (a.put d v).tmps.size = a.tmps.size := by
 cases d <;> simp [Act.put]
theorem Zd (a : Act) (d : Option Nat) (v : Value) : (a.put d v).defers = a.defers := by
 cases d <;> simp [Act.put]
/-- all but these slots are as they were -/
structure SameBut (W : Nat -> Prop) (a b : Act) : Prop where
 size : b.tmps.size = a.tmps.size
 defers : b.defers = a.defers
 get : ∀ t, ¬ W t -> Act.get b t = Act.get a t
theorem SameBut.refl {W : Nat -> Prop} (a : Act) : SameBut W a a := ⟨rfl, rfl, fun _ _ => rfl⟩
theorem SameBut.trans {W : Nat -> Prop} {a b c : Act} (h : SameBut W a b) (k : SameBut W b c) : SameBut W a c :=
 ⟨k.size.trans h.size, k.defers.trans h.defers, fun t ht => (k.get t ht).trans (h.get t ht)⟩
theorem SameBut.mono {W W' : Nat -> Prop} {a b : Act} (h : SameBut W a b) (hw : ∀ t, W t -> W' t) : SameBut W' a b := ⟨h.size, h.defers, fun t ht => h.get t fun h' => ht (hw t h')⟩
theorem SameBut.put {W : Nat -> Prop} {a b : Act} (h : SameBut W a b) {d : Nat} (hd : W d) (v : Value) : SameBut W a (b.put (some d) v) :=
 ⟨(Zs _ _ _).trans h.size, (Zd _ _ _).trans h.defers, fun t ht => (Zn (fun e => ht (by rw [<- e]; exact hd))).trans (h.get t ht)⟩
theorem SameBut.put_none {W : Nat -> Prop} {a b : Act} (h : SameBut W a b) (v : Value) : SameBut W a (b.put none v) := h
section
variable {P : Program} {ops : Array Oper} {Q : Exit -> Act -> World -> Prop}
def unlisted (n : Nat) (listed : Array Bool) : Nat := ((List.range n).filter fun j => !listed.getD j false).length
theorem unlisted_succ (n : Nat) (listed : Array Bool) : unlisted (n + 1) listed = unlisted n listed + (!listed.getD n false).toNat := by
 unfold unlisted
 rw [List.range_succ, List.filter_append, List.length_append]
 congr 1
 rw [List.filter_cons]
 cases listed.getD n false <;> rfl
theorem unlisted_set_ge {listed : Array Bool} {i : Nat} : ∀ n, n <= i -> unlisted n (listed.setIfInBounds i true) = unlisted n listed
 | 0, _ => rfl
 | n + 1, h => by rw [unlisted_succ, unlisted_succ, unlisted_set_ge n (by omega), getD_set_ne false (by omega)]
theorem unlisted_set {listed : Array Bool} {i : Nat} (hs : i < listed.size) (h : listed.getD i false = false) : ∀ n, i < n -> unlisted n (listed.setIfInBounds i true) + 1 = unlisted n listed
 | 0, hi => by omega
 | n + 1, hi => by
  rw [unlisted_succ, unlisted_succ]
  by_cases e : i = n
  ·subst e
   have h1 : (listed.setIfInBounds i true).getD i false = true := by simp [hs]
   rw [h1, h, unlisted_set_ge i (Nat.le_refl _)]
   rfl
  ·have ih := unlisted_set hs h n (by omega)
   rw [getD_set_ne false e]
   omega
structure RegInv (n : Nat) (ds : Nat -> Nat) (Rel : World -> World -> Prop) (G : Nat -> Value -> World -> Prop) (a0 : Act) (w0 : World) (ops : Array Oper) (listed : Array Bool) (a : Act) (w : World) : Prop where
 head : HeadInv .any ops n listed
 rel : Rel w0 w
 same : SameBut (fun t => ∃ i, i < n /\ t = ds i) a0 a
 got : ∀ i, i < n -> listed.getD i false = true -> G i (Act.get a (ds i)) w
/-- what one operation of such a region has to do -/
def StepOK (P : Program) (Rel : World -> World -> Prop) (gl : List (Value -> World -> Prop)) (dl : List Nat) (Q : Exit -> Act -> World -> Prop) (a0 : Act) (w : World) (i : Nat) (o : Oper) : Prop :=
 ∀ a w', Rel w w' -> SameBut (fun t => t ∈ dl) a0 a -> (∀ e ∈ o.after, Region.binds .any e = true -> (gl.getD e.on (fun _ _ => True)) (Act.get a (dl.getD e.on 0)) w') ->
  o.wp P a w' (fun a' w'' => ∃ v, a' = a.put (some (dl.getD i 0)) v /\ Rel w' w'' /\ (gl.getD i (fun _ _ => True)) v w'') Q
def RGList (P : Program) (Rel : World -> World -> Prop) (gl : List (Value -> World -> Prop)) (dl : List Nat) (Q : Exit -> Act -> World -> Prop) (a0 : Act) (w : World) : Nat -> List Oper -> Prop
 | _, [] => True
 | i, o :: os => StepOK P Rel gl dl Q a0 w i o /\ RGList P Rel gl dl Q a0 w (i + 1) os
theorem RGList.at {Rel : World -> World -> Prop} {gl : List (Value -> World -> Prop)} {dl : List Nat} {a0 : Act} {w : World} : ∀ (l : List Oper) (k : Nat), RGList P Rel gl dl Q a0 w k l -> ∀ i o, l[i]? = some o -> StepOK P Rel gl dl Q a0 w (k + i) o
 | [], _, _, i, o, h => by simp at h
 | o' :: l, k, hl, 0, o, h => by simp at h; subst h; exact hl.1
 | o' :: l, k, hl, i + 1, o, h => by
  have := RGList.at l (k + 1) hl.2 i o (by simpa using h)
  rw [show k + (i + 1) = k + 1 + i by omega]; exact this
def regEdges (l : List Oper) : Nat -> Bool
 | i => match l with
  | [] => true
  | o :: r => (o.after.all fun e => !Region.binds .any e || decide (e.on < i)) && regEdges r (i + 1)
theorem regEdges_spec : ∀ (l : List Oper) (k : Nat), regEdges l k = true -> ∀ i o, l[i]? = some o -> ∀ e ∈ o.after, Region.binds .any e = true -> e.on < k + i
 | [], _, _, i, o, h => by simp at h
 | o' :: l, k, hk, i, o, h => by
  simp only [regEdges, Bool.and_eq_true] at hk
  intro e he hb
  cases i with
  | zero =>
   simp at h; subst h
   have := Array.all_eq_true_iff_forall_mem.1 hk.1 e he
   simpa [hb] using this
  | succ i =>
   have := regEdges_spec l (k + 1) hk.2 i o (by simpa using h) e he hb
   omega
end
end Go.Proofs.YtcldbjehliladaaDoor
set_option linter.unusedSimpArgs false
set_option linter.unusedVariables false
namespace Go.Proofs.YtcldbjehliladaaDoor
open Go Go.RowKit
section
variable {P : Program} {ops : Array Oper} {Q : Exit -> Act -> World -> Prop}
def headDone (n m : Nat) : Array Bool := Array.replicate n true ++ Array.replicate m false
theorem headDone_eq {n m : Nat} {listed : Array Bool} (hs : listed.size = n + m) (h1 : ∀ i, i < n -> listed.getD i false = true) (h2 : ∀ t, n <= t -> t < n + m -> listed.getD t true = false) : listed = headDone n m := by
 apply Array.ext
 ·simp [headDone, hs]
 ·intro i hi hj
  by_cases hin : i < n
  ·have := h1 i hin
   simp only [Array.getD_eq_getD_getElem?, Array.getElem?_eq_getElem hi, Option.getD_some] at this
   simp [headDone, hin, this]
  ·have := h2 i (by omega) (by omega)
   simp only [Array.getD_eq_getD_getElem?, Array.getElem?_eq_getElem hi, Option.getD_some] at this
   rw [this]
   simp [headDone, Array.getElem_append, hin]
theorem unlisted_zero {listed : Array Bool} : ∀ n, (∀ i, i < n -> listed.getD i false = true) -> unlisted n listed = 0
 | 0, _ => rfl
 | n + 1, h => by rw [unlisted_succ, unlisted_zero n (fun i hi => h i (by omega)), h n (by omega)]; rfl
theorem unlisted_all : ∀ n N, n <= N -> unlisted n (Array.replicate N false) = n
 | 0, _, _ => rfl
 | n + 1, N, h => by rw [unlisted_succ, unlisted_all n N (by omega), getD_replicate_false]; rfl
theorem region_rgt {n m : Nat} {id : Nat} {a0 : Act} {w : World} {tl : List Oper} (hm : P.follows .mixedOrders = true) (Rel : World -> World -> Prop) (hdrew : Rel w w.drew) (htrans : ∀ a b c, Rel a b -> Rel b c -> Rel a c)
  (G : Nat -> Value -> World -> Prop) (hst : ∀ i v w w', G i v w -> Rel w w' -> G i v w') (ds : Nat -> Nat)
  (hops : ∀ i o, ops[i]? = some o -> i < n -> o.guard = none /\ o.dst = some (ds i)) (hinj : ∀ i j, i < n -> j < n -> ds i = ds j -> i = j) (hb : ∀ i, i < n -> ds i < a0.tmps.size)
  (hn : ops.size = n + m) (hm0 : 0 < m) (htl : ∀ j, tl[j]? = ops[n + j]?) (htll : tl.length = m) (hseq : Region.seqB .any ops m n (headDone n m) = true)
  (hsink : Region.sinkB .any ops n = true) (hchain : Region.chainB .any ops n = true) (hlt : ∀ i o, ops[i]? = some o -> i < n -> ∀ e ∈ o.after, Region.binds .any e = true -> e.on < i)
  (step : ∀ i o, i < n -> ops[i]? = some o -> ∀ a w', Rel w w' -> SameBut (fun t => ∃ i, i < n /\ t = ds i) a0 a -> (∀ e ∈ o.after, Region.binds .any e = true -> G e.on (Act.get a (ds e.on)) w') ->
   o.wp P a w' (fun a' w'' => ∃ v, a' = a.put (some (ds i)) v /\ Rel w' w'' /\ G i v w'') Q)
  (tail : ∀ a w', Rel w w' -> SameBut (fun t => ∃ i, i < n /\ t = ds i) a0 a -> (∀ i, i < n -> G i (Act.get a (ds i)) w') -> wpList P ops Q tl a w') :
  (Code.region id ops true).wp P Q a0 w := by
 refine wp_region_any hm ?_
 have key : ∀ (fuel : Nat) (listed : Array Bool) (a : Act) (w' : World), RegInv n ds Rel G a0 w ops listed a w' -> unlisted n listed + m = fuel -> wpAny P .any ops Q fuel listed a w' := by
  intro fuel
  induction fuel with
  | zero => intro listed a w' inv hf; omega
  | succ fuel ih =>
   intro listed a w' inv hf
   by_cases hall : ∀ i, i < n -> listed.getD i false = true
   ·have hl : listed = headDone n m := headDone_eq (by rw [inv.head.size, hn]) hall (fun t h1 h2 => inv.head.tail t h1 (by omega))
    subst hl
    have hu : unlisted n (headDone n m) = 0 := unlisted_zero n hall
    have hfm : fuel + 1 = tl.length := by omega
    rw [hfm]
    exact wpAny_of_seq tl n _ a w' htl (by rw [htll]; exact hseq) (tail a w' inv.rel inv.same fun i hi => inv.got i hi (hall i hi))
   ·have hex : ∃ i, i < n /\ listed.getD i false = false := by
     apply Classical.byContradiction
     intro hno
     exact hall fun i hi => by
      cases hl : listed.getD i false with
      | true => rfl
      | false => exact (hno ⟨i, hi, hl⟩).elim
    obtain ⟨i0, hi0, hl0⟩ := hex
    refine ⟨fun hnil => ?_, fun i hi => ?_⟩
    ·exfalso
     have hleast : ∃ i, i < n /\ listed.getD i false = false /\ ∀ j, j < i -> listed.getD j false = true := by
      have : ∀ k, ∀ i, i <= k -> i < n -> listed.getD i false = false -> ∃ i, i < n /\ listed.getD i false = false /\ ∀ j, j < i -> listed.getD j false = true := by
       intro k
       induction k with
       | zero => intro i hik hin hil; exact ⟨i, hin, hil, fun j hj => by omega⟩
       | succ k ihk =>
        intro i hik hin hil
        by_cases hj : ∀ j, j < i -> listed.getD j false = true
        ·exact ⟨i, hin, hil, hj⟩
        ·have : ∃ j, j < i /\ listed.getD j false = false := by
          apply Classical.byContradiction
          intro hno
          exact hj fun j hj' => by
           cases hl : listed.getD j false with
           | true => rfl
           | false => exact (hno ⟨j, hj', hl⟩).elim
         obtain ⟨j, hj1, hj2⟩ := this
         exact ihk j (by omega) (by omega) hj2
      exact this i0 i0 (Nat.le_refl _) hi0 hl0
     obtain ⟨i, hin, hil, hless⟩ := hleast
     obtain ⟨o, ho⟩ : ∃ o, ops[i]? = some o := ⟨_, Array.getElem?_eq_getElem (by omega)⟩
     have : i ∈ Region.ready .any ops listed := mem_ready.2 ⟨getD_in (by rw [inv.head.size]; omega) hil, o, ho, fun e he hb' => hless _ (hlt i o ho hin e he hb')⟩
     rw [hnil] at this; cases this
    ·obtain ⟨hun, o, ho, hall'⟩ := mem_ready.1 hi
     have hin : i < n := by
      rcases Nat.lt_or_ge i n with h | h
      ·exact h
      ·exact absurd hi (tail_waits hsink hchain (by omega) inv.head _ i0 rfl hi0 (getD_in (by rw [inv.head.size]; omega) hl0) i h)
     have hun' := getD_both hun
     obtain ⟨hg, hd⟩ := hops i o ho hin
     unfold wpOp
     simp only [ho]
     have hw : Region.wanted o (yielded ops a.tmps) = true := by simp [Region.wanted, hg]
     rw [if_pos hw]
     refine .inl (Oper.wp_mono ?_ (step i o hin ho a w' inv.rel inv.same fun e he hb' => inv.got _ (Nat.lt_trans (hlt i o ho hin e he hb') hin) (hall' e he hb')))
     rintro a' w'' ⟨v, rfl, hrel, hG⟩
     have hsz : a.tmps.size = a0.tmps.size := inv.same.size
     refine ih _ _ _ ⟨inv.head.set hi hin, htrans _ _ _ inv.rel hrel, inv.same.put ⟨i, hin, rfl⟩ v, fun j hj hl => ?_⟩ ?_
     ·by_cases hij : i = j
      ·subst hij
       rw [Zq (by rw [hsz]; exact hb i hin)]
       exact hG
      ·rw [getD_set_ne false hij] at hl
       rw [Zn (fun e => hij (hinj i j hin hj e))]
       exact hst _ _ _ _ (inv.got j hj hl) hrel
     ·have := unlisted_set (listed := listed) (i := i) (by rw [inv.head.size]; omega) hun' n hin
      omega
 refine key ops.size _ a0 _ ⟨⟨by simp, fun j oj hj hl => ?_, fun t ht hts => ?_⟩, hdrew, .refl a0, fun i hi hl => ?_⟩ ?_
 ·rw [getD_replicate_false] at hl; cases hl
 ·have : t < ops.size := hts
  simp [this]
 ·rw [getD_replicate_false] at hl; cases hl
 ·rw [unlisted_all n _ (by omega), hn]
/-- the form of such a region: its slots -/
def regFormT (l : List Oper) (dl : List Nat) : Bool := (l.map fun o => (o.guard.isNone, o.dst)) == (dl.map fun d => (true, some d))
theorem region_rlt {id : Nat} {l tl : List Oper} {a0 : Act} {w : World} (hm : P.follows .mixedOrders = true) (Rel : World -> World -> Prop) (hdrew : Rel w w.drew) (htrans : ∀ a b c, Rel a b -> Rel b c -> Rel a c)
  (dl : List Nat) (gl : List (Value -> World -> Prop)) (hst : ∀ g ∈ gl, ∀ v w w', g v w -> Rel w w' -> g v w') (hform : regFormT l dl = true) (hnd : dl.Nodup) (hb : ∀ d ∈ dl, d < a0.tmps.size) (htl0 : 0 < tl.length)
  (hchk : (Region.sinkB .any (l ++ tl).toArray l.length && Region.chainB .any (l ++ tl).toArray l.length && Region.seqB .any (l ++ tl).toArray tl.length l.length (headDone l.length tl.length) && regEdges l 0) = true)
  (steps : RGList P Rel gl dl Q a0 w 0 l)
  (htail : ∀ a w', Rel w w' -> SameBut (fun t => t ∈ dl) a0 a -> (∀ i, i < l.length -> (gl.getD i (fun _ _ => True)) (Act.get a (dl.getD i 0)) w') -> wpList P (l ++ tl).toArray Q tl a w') :
  (Code.region id (l ++ tl).toArray true).wp P Q a0 w := by
 simp only [regFormT, beq_iff_eq] at hform
 simp only [Bool.and_eq_true] at hchk
 obtain ⟨⟨⟨hsink, hchain⟩, hseq⟩, hedges⟩ := hchk
 have hlen : l.length = dl.length := by have := congrArg List.length hform; simpa using this
 have hget : ∀ i o, l[i]? = some o -> o.guard = none /\ o.dst = some (dl.getD i 0) := by
  intro i o h
  have hi : i < l.length := (List.getElem?_eq_some_iff.1 h).1
  have := congrArg (fun q => q[i]?) hform
  simp only [List.getElem?_map, h, Option.map_some] at this
  rw [List.getElem?_eq_getElem (by omega)] at this
  simp only [Option.map_some, Option.some.injEq, Prod.mk.injEq, Option.isNone_iff_eq_none] at this
  refine ⟨this.1, this.2.trans ?_⟩
  simp [List.getD, List.getElem?_eq_getElem (show i < dl.length by omega)]
 have hopl : ∀ i o, i < l.length -> (l ++ tl).toArray[i]? = some o -> l[i]? = some o := fun i o hi h => by
  simpa [List.getElem?_append_left hi] using h
 have hset : ∀ t, (∃ i, i < l.length /\ t = dl.getD i 0) ↔ t ∈ dl := fun t => by
  constructor
  ·rintro ⟨i, hi, rfl⟩
   simp [List.getD, List.getElem?_eq_getElem (show i < dl.length by omega)]
  ·intro ht
   obtain ⟨i, hi, rfl⟩ := List.getElem_of_mem ht
   exact ⟨i, by omega, by simp [List.getD, List.getElem?_eq_getElem hi]⟩
 have hsame : ∀ a, SameBut (fun t => ∃ i, i < l.length /\ t = dl.getD i 0) a0 a -> SameBut (fun t => t ∈ dl) a0 a := fun a h => h.mono fun t ht => (hset t).1 ht
 refine region_rgt (n := l.length) (m := tl.length) (tl := tl) hm Rel hdrew htrans (fun i => gl.getD i (fun _ _ => True)) ?_ (fun i => dl.getD i 0) ?_ ?_ ?_ (by simp) htl0 ?_ rfl hseq hsink hchain ?_ ?_ ?_
 ·intro i v w w' h hr
  by_cases hi : i < gl.length
  ·have hmem : gl.getD i (fun _ _ => True) ∈ gl := by simp [List.getD, List.getElem?_eq_getElem hi]
   exact hst _ hmem _ _ _ h hr
  ·simp [List.getD, List.getElem?_eq_none (Nat.le_of_not_lt hi)]
 ·intro i o ho hi; exact hget i o (hopl i o hi ho)
 ·intro i j hi hj h
  have h1 : i < dl.length := by omega
  have h2 : j < dl.length := by omega
  simp only [List.getD, List.getElem?_eq_getElem h1, List.getElem?_eq_getElem h2, Option.getD_some] at h
  have hp := List.pairwise_iff_getElem.1 hnd
  rcases Nat.lt_trichotomy i j with hlt | heq | hlt
  ·exact (hp i j h1 h2 hlt h).elim
  ·exact heq
  ·exact (hp j i h2 h1 hlt h.symm).elim
 ·intro i hi
  exact hb _ ((hset _).1 ⟨i, hi, rfl⟩)
 ·intro j
  simp [List.getElem?_append_right (Nat.le_add_right _ _)]
 ·intro i o ho hi e he hb'
  have := regEdges_spec _ 0 hedges i o (hopl i o hi ho) e he hb'
  omega
 ·intro i o hi ho a w' hr hs hd
  have := RGList.at l 0 steps i o (hopl i o hi ho)
  rw [Nat.zero_add] at this
  exact this a w' hr (hsame a hs) hd
 ·intro a w' hr hs hg
  exact htail a w' hr (hsame a hs) hg
end
end Go.Proofs.YtcldbjehliladaaDoor
set_option linter.unusedSimpArgs false
set_option linter.unusedVariables false
namespace Go.Proofs.YtcldbjehliladaaDoor
open Go Go.RowKit
section
variable {P : Program} {ops : Array Oper} {Q : Exit -> Act -> World -> Prop}
theorem getD_set_eq_true {listed : Array Bool} {i : Nat} (h : i < listed.size) : (listed.setIfInBounds i true).getD i false = true := by
 simp [Array.getD_eq_getD_getElem?, h]
theorem region_rgp {n m : Nat} {id : Nat} {a0 : Act} {w : World} {tl : List Oper} (hm : P.follows .mixedOrders = true) (Rel : World -> World -> Prop) (hdrew : Rel w w.drew) (htrans : ∀ a b c, Rel a b -> Rel b c -> Rel a c)
  (G : Nat -> Value -> World -> Prop) (RelI : Nat -> World -> World -> Prop) (p : Nat) (Rel0 : World -> World -> Prop) (hdrew0 : Rel0 w w.drew) (htrans0 : ∀ a b c, Rel0 a b -> Rel0 b c -> Rel0 a c) (hI : ∀ i a b, i ≠ p -> RelI i a b -> Rel0 a b) (hsub : ∀ i a b, RelI i a b -> Rel a b) (hst : ∀ i j v w w', i ≠ j -> G i v w -> RelI j w w' -> G i v w') (ds : Nat -> Nat)
  (hops : ∀ i o, ops[i]? = some o -> i < n -> o.guard = none /\ o.dst = some (ds i)) (hinj : ∀ i j, i < n -> j < n -> ds i = ds j -> i = j) (hb : ∀ i, i < n -> ds i < a0.tmps.size)
  (hn : ops.size = n + m) (hm0 : 0 < m) (htl : ∀ j, tl[j]? = ops[n + j]?) (htll : tl.length = m) (hseq : Region.seqB .any ops m n (headDone n m) = true)
  (hsink : Region.sinkB .any ops n = true) (hchain : Region.chainB .any ops n = true) (hlt : ∀ i o, ops[i]? = some o -> i < n -> ∀ e ∈ o.after, Region.binds .any e = true -> e.on < i)
  (step : ∀ i o, i < n -> ops[i]? = some o -> ∀ a w', Rel w w' -> (i = p -> Rel0 w w') -> SameBut (fun t => ∃ i, i < n /\ t = ds i) a0 a -> (∀ e ∈ o.after, Region.binds .any e = true -> G e.on (Act.get a (ds e.on)) w') ->
   o.wp P a w' (fun a' w'' => ∃ v, a' = a.put (some (ds i)) v /\ RelI i w' w'' /\ G i v w'') Q)
  (tail : ∀ a w', Rel w w' -> SameBut (fun t => ∃ i, i < n /\ t = ds i) a0 a -> (∀ i, i < n -> G i (Act.get a (ds i)) w') -> wpList P ops Q tl a w') :
  (Code.region id ops true).wp P Q a0 w := by
 refine wp_region_any hm ?_
 have key : ∀ (fuel : Nat) (listed : Array Bool) (a : Act) (w' : World), RegInv n ds Rel G a0 w ops listed a w' -> (listed.getD p false = false -> Rel0 w w') -> unlisted n listed + m = fuel -> wpAny P .any ops Q fuel listed a w' := by
  intro fuel
  induction fuel with
  | zero => intro listed a w' inv hp0 hf; omega
  | succ fuel ih =>
   intro listed a w' inv hp0 hf
   by_cases hall : ∀ i, i < n -> listed.getD i false = true
   ·have hl : listed = headDone n m := headDone_eq (by rw [inv.head.size, hn]) hall (fun t h1 h2 => inv.head.tail t h1 (by omega))
    subst hl
    have hu : unlisted n (headDone n m) = 0 := unlisted_zero n hall
    have hfm : fuel + 1 = tl.length := by omega
    rw [hfm]
    exact wpAny_of_seq tl n _ a w' htl (by rw [htll]; exact hseq) (tail a w' inv.rel inv.same fun i hi => inv.got i hi (hall i hi))
   ·have hex : ∃ i, i < n /\ listed.getD i false = false := by
     apply Classical.byContradiction
     intro hno
     exact hall fun i hi => by
      cases hl : listed.getD i false with
      | true => rfl
      | false => exact (hno ⟨i, hi, hl⟩).elim
    obtain ⟨i0, hi0, hl0⟩ := hex
    refine ⟨fun hnil => ?_, fun i hi => ?_⟩
    ·exfalso
     have hleast : ∃ i, i < n /\ listed.getD i false = false /\ ∀ j, j < i -> listed.getD j false = true := by
      have : ∀ k, ∀ i, i <= k -> i < n -> listed.getD i false = false -> ∃ i, i < n /\ listed.getD i false = false /\ ∀ j, j < i -> listed.getD j false = true := by
       intro k
       induction k with
       | zero => intro i hik hin hil; exact ⟨i, hin, hil, fun j hj => by omega⟩
       | succ k ihk =>
        intro i hik hin hil
        by_cases hj : ∀ j, j < i -> listed.getD j false = true
        ·exact ⟨i, hin, hil, hj⟩
        ·have : ∃ j, j < i /\ listed.getD j false = false := by
          apply Classical.byContradiction
          intro hno
          exact hj fun j hj' => by
           cases hl : listed.getD j false with
           | true => rfl
           | false => exact (hno ⟨j, hj', hl⟩).elim
         obtain ⟨j, hj1, hj2⟩ := this
         exact ihk j (by omega) (by omega) hj2
      exact this i0 i0 (Nat.le_refl _) hi0 hl0
     obtain ⟨i, hin, hil, hless⟩ := hleast
     obtain ⟨o, ho⟩ : ∃ o, ops[i]? = some o := ⟨_, Array.getElem?_eq_getElem (by omega)⟩
     have : i ∈ Region.ready .any ops listed := mem_ready.2 ⟨getD_in (by rw [inv.head.size]; omega) hil, o, ho, fun e he hb' => hless _ (hlt i o ho hin e he hb')⟩
     rw [hnil] at this; cases this
    ·obtain ⟨hun, o, ho, hall'⟩ := mem_ready.1 hi
     have hin : i < n := by
      rcases Nat.lt_or_ge i n with h | h
      ·exact h
      ·exact absurd hi (tail_waits hsink hchain (by omega) inv.head _ i0 rfl hi0 (getD_in (by rw [inv.head.size]; omega) hl0) i h)
     have hun' := getD_both hun
     obtain ⟨hg, hd⟩ := hops i o ho hin
     unfold wpOp
     simp only [ho]
     have hw : Region.wanted o (yielded ops a.tmps) = true := by simp [Region.wanted, hg]
     rw [if_pos hw]
     refine .inl (Oper.wp_mono ?_ (step i o hin ho a w' inv.rel (fun e => hp0 (by rw [<- e]; exact hun')) inv.same fun e he hb' => inv.got _ (Nat.lt_trans (hlt i o ho hin e he hb') hin) (hall' e he hb')))
     rintro a' w'' ⟨v, rfl, hrel, hG⟩
     have hsz : a.tmps.size = a0.tmps.size := inv.same.size
     refine ih _ _ _ ⟨inv.head.set hi hin, htrans _ _ _ inv.rel (hsub i _ _ hrel), inv.same.put ⟨i, hin, rfl⟩ v, fun j hj hl => ?_⟩ ?_ ?_
     ·by_cases hij : i = j
      ·subst hij
       rw [Zq (by rw [hsz]; exact hb i hin)]
       exact hG
      ·rw [getD_set_ne false hij] at hl
       rw [Zn (fun e => hij (hinj i j hin hj e))]
       exact hst j i _ _ _ (fun e => hij e.symm) (inv.got j hj hl) hrel
     ·intro hl
      by_cases hip : i = p
      ·subst hip
       rw [getD_set_eq_true (by rw [inv.head.size]; omega)] at hl
       cases hl
      ·rw [getD_set_ne false hip] at hl
       exact htrans0 _ _ _ (hp0 hl) (hI i _ _ hip hrel)
     ·have := unlisted_set (listed := listed) (i := i) (by rw [inv.head.size]; omega) hun' n hin
      omega
 refine key ops.size _ a0 _ ⟨⟨by simp, fun j oj hj hl => ?_, fun t ht hts => ?_⟩, hdrew, .refl a0, fun i hi hl => ?_⟩ (fun _ => hdrew0) ?_
 ·rw [getD_replicate_false] at hl; cases hl
 ·have : t < ops.size := hts
  simp [this]
 ·rw [getD_replicate_false] at hl; cases hl
 ·rw [unlisted_all n _ (by omega), hn]
def RelP (p : Nat) (Rel : World -> World -> Prop) (i : Nat) : World -> World -> Prop := if i = p then Rel else Mod none'
def StepP (P : Program) (Rel : World -> World -> Prop) (p : Nat) (gl : List (Value -> World -> Prop)) (dl : List Nat) (Q : Exit -> Act -> World -> Prop) (a0 : Act) (w : World) (i : Nat) (o : Oper) : Prop :=
 ∀ a w', Rel w w' -> (i = p -> Mod none' w w') -> SameBut (fun t => t ∈ dl) a0 a -> (∀ e ∈ o.after, Region.binds .any e = true -> (gl.getD e.on (fun _ _ => True)) (Act.get a (dl.getD e.on 0)) w') ->
  o.wp P a w' (fun a' w'' => ∃ v, a' = a.put (some (dl.getD i 0)) v /\ RelP p Rel i w' w'' /\ (gl.getD i (fun _ _ => True)) v w'') Q
def RPList (P : Program) (Rel : World -> World -> Prop) (p : Nat) (gl : List (Value -> World -> Prop)) (dl : List Nat) (Q : Exit -> Act -> World -> Prop) (a0 : Act) (w : World) : Nat -> List Oper -> Prop
 | _, [] => True
 | i, o :: os => StepP P Rel p gl dl Q a0 w i o /\ RPList P Rel p gl dl Q a0 w (i + 1) os
theorem RPList.at {Rel : World -> World -> Prop} {p : Nat} {gl : List (Value -> World -> Prop)} {dl : List Nat} {a0 : Act} {w : World} : ∀ (l : List Oper) (k : Nat), RPList P Rel p gl dl Q a0 w k l -> ∀ i o, l[i]? = some o -> StepP P Rel p gl dl Q a0 w (k + i) o
 | [], _, _, i, o, h => by simp at h
 | o' :: l, k, hl, 0, o, h => by simp at h; subst h; exact hl.1
 | o' :: l, k, hl, i + 1, o, h => by
  have := RPList.at l (k + 1) hl.2 i o (by simpa using h)
  rw [show k + (i + 1) = k + 1 + i by omega]; exact this
theorem region_rlp {id : Nat} {l tl : List Oper} {a0 : Act} {w : World} (hm : P.follows .mixedOrders = true) (Rel : World -> World -> Prop) (hdrew : Rel w w.drew) (htrans : ∀ a b c, Rel a b -> Rel b c -> Rel a c)
  (dl : List Nat) (gl : List (Value -> World -> Prop)) (p : Nat) (hsub : ∀ a b, Mod none' a b -> Rel a b) (hst0 : ∀ g ∈ gl, ∀ v w w', g v w -> Mod none' w w' -> g v w') (hst1 : ∀ i, i ≠ p -> ∀ v w w', gl.getD i (fun _ _ => True) v w -> Rel w w' -> gl.getD i (fun _ _ => True) v w') (hform : regFormT l dl = true) (hnd : dl.Nodup) (hb : ∀ d ∈ dl, d < a0.tmps.size) (htl0 : 0 < tl.length)
  (hchk : (Region.sinkB .any (l ++ tl).toArray l.length && Region.chainB .any (l ++ tl).toArray l.length && Region.seqB .any (l ++ tl).toArray tl.length l.length (headDone l.length tl.length) && regEdges l 0) = true)
  (steps : RPList P Rel p gl dl Q a0 w 0 l)
  (htail : ∀ a w', Rel w w' -> SameBut (fun t => t ∈ dl) a0 a -> (∀ i, i < l.length -> (gl.getD i (fun _ _ => True)) (Act.get a (dl.getD i 0)) w') -> wpList P (l ++ tl).toArray Q tl a w') :
  (Code.region id (l ++ tl).toArray true).wp P Q a0 w := by
 simp only [regFormT, beq_iff_eq] at hform
 simp only [Bool.and_eq_true] at hchk
 obtain ⟨⟨⟨hsink, hchain⟩, hseq⟩, hedges⟩ := hchk
 have hlen : l.length = dl.length := by have := congrArg List.length hform; simpa using this
 have hget : ∀ i o, l[i]? = some o -> o.guard = none /\ o.dst = some (dl.getD i 0) := by
  intro i o h
  have hi : i < l.length := (List.getElem?_eq_some_iff.1 h).1
  have := congrArg (fun q => q[i]?) hform
  simp only [List.getElem?_map, h, Option.map_some] at this
  rw [List.getElem?_eq_getElem (by omega)] at this
  simp only [Option.map_some, Option.some.injEq, Prod.mk.injEq, Option.isNone_iff_eq_none] at this
  refine ⟨this.1, this.2.trans ?_⟩
  simp [List.getD, List.getElem?_eq_getElem (show i < dl.length by omega)]
 have hopl : ∀ i o, i < l.length -> (l ++ tl).toArray[i]? = some o -> l[i]? = some o := fun i o hi h => by
  simpa [List.getElem?_append_left hi] using h
 have hset : ∀ t, (∃ i, i < l.length /\ t = dl.getD i 0) ↔ t ∈ dl := fun t => by
  constructor
  ·rintro ⟨i, hi, rfl⟩
   simp [List.getD, List.getElem?_eq_getElem (show i < dl.length by omega)]
  ·intro ht
   obtain ⟨i, hi, rfl⟩ := List.getElem_of_mem ht
   exact ⟨i, by omega, by simp [List.getD, List.getElem?_eq_getElem hi]⟩
 have hsame : ∀ a, SameBut (fun t => ∃ i, i < l.length /\ t = dl.getD i 0) a0 a -> SameBut (fun t => t ∈ dl) a0 a := fun a h => h.mono fun t ht => (hset t).1 ht
 refine region_rgp (n := l.length) (m := tl.length) (tl := tl) hm Rel hdrew htrans (fun i => gl.getD i (fun _ _ => True)) (RelP p Rel) p (Mod none') (Mod.refl w).drew (fun _ _ _ h h' => h.trans h') (fun i a b hip h => by unfold RelP at h; rw [if_neg hip] at h; exact h) (fun i a b h => by unfold RelP at h; split at h; exact h; exact hsub _ _ h) ?_ (fun i => dl.getD i 0) ?_ ?_ ?_ (by simp) htl0 ?_ rfl hseq hsink hchain ?_ ?_ ?_
 ·intro i j v w w' hij h hr
  unfold RelP at hr
  split at hr
  ·rename_i hjp
   exact hst1 i (fun e => hij (e.trans hjp.symm)) v w w' h hr
  ·by_cases hi : i < gl.length
   ·have hmem : gl.getD i (fun _ _ => True) ∈ gl := by simp [List.getD, List.getElem?_eq_getElem hi]
    exact hst0 _ hmem _ _ _ h hr
   ·simp [List.getD, List.getElem?_eq_none (Nat.le_of_not_lt hi)]
 ·intro i o ho hi; exact hget i o (hopl i o hi ho)
 ·intro i j hi hj h
  have h1 : i < dl.length := by omega
  have h2 : j < dl.length := by omega
  simp only [List.getD, List.getElem?_eq_getElem h1, List.getElem?_eq_getElem h2, Option.getD_some] at h
  have hp := List.pairwise_iff_getElem.1 hnd
  rcases Nat.lt_trichotomy i j with hlt | heq | hlt
  ·exact (hp i j h1 h2 hlt h).elim
  ·exact heq
  ·exact (hp j i h2 h1 hlt h.symm).elim
 ·intro i hi
  exact hb _ ((hset _).1 ⟨i, hi, rfl⟩)
 ·intro j
  simp [List.getElem?_append_right (Nat.le_add_right _ _)]
 ·intro i o ho hi e he hb'
  have := regEdges_spec _ 0 hedges i o (hopl i o hi ho) e he hb'
  omega
 ·intro i o hi ho a w' hr hp hs hd
  have := RPList.at l 0 steps i o (hopl i o hi ho)
  rw [Nat.zero_add] at this
  exact this a w' hr hp (hsame a hs) hd
 ·intro a w' hr hs hg
  exact htail a w' hr (hsame a hs) hg
/-- the operation that turns memory is the last of the heads -/
theorem region_rlq {id : Nat} {l tl : List Oper} {a0 : Act} {w : World} (hm : P.follows .mixedOrders = true) (Rel : World -> World -> Prop) (hsub : ∀ a b, Mod none' a b -> Rel a b) (htrans : ∀ a b c, Rel a b -> Rel b c -> Rel a c)
  (dl : List Nat) (gs : List (Value -> World -> Prop)) (gp : Value -> World -> Prop) (hgs : ∀ g ∈ gs, ∀ v w w', g v w -> Rel w w' -> g v w') (hgp : ∀ v w w', gp v w -> Mod none' w w' -> gp v w') (hform : regFormT l dl = true) (hnd : dl.Nodup) (hb : ∀ d ∈ dl, d < a0.tmps.size) (htl0 : 0 < tl.length)
  (hchk : (Region.sinkB .any (l ++ tl).toArray l.length && Region.chainB .any (l ++ tl).toArray l.length && Region.seqB .any (l ++ tl).toArray tl.length l.length (headDone l.length tl.length) && regEdges l 0) = true)
  (steps : RPList P Rel gs.length (gs ++ [gp]) dl Q a0 w 0 l)
  (htail : ∀ a w', Rel w w' -> SameBut (fun t => t ∈ dl) a0 a -> (∀ i, i < l.length -> ((gs ++ [gp]).getD i (fun _ _ => True)) (Act.get a (dl.getD i 0)) w') -> wpList P (l ++ tl).toArray Q tl a w') :
  (Code.region id (l ++ tl).toArray true).wp P Q a0 w := by
 refine region_rlp hm Rel (hsub _ _ (Mod.refl w).drew) htrans dl (gs ++ [gp]) gs.length hsub ?_ ?_ hform hnd hb htl0 hchk steps htail
 ·intro g hg v w1 w2 h hr
  rcases List.mem_append.1 hg with hg | hg
  ·exact hgs g hg v w1 w2 h (hsub _ _ hr)
  ·simp at hg; subst hg; exact hgp v w1 w2 h hr
 ·intro i hi v w1 w2 h hr
  by_cases hlt : i < gs.length
  ·have e : (gs ++ [gp]).getD i (fun _ _ => True) = gs[i] := by simp [List.getD, List.getElem?_append_left hlt, hlt]
   rw [e] at h ⊢
   exact hgs _ (List.getElem_mem hlt) v w1 w2 h hr
  ·have e : (gs ++ [gp]).getD i (fun _ _ => True) = fun _ _ => True := by
    have : (gs ++ [gp])[i]? = none := List.getElem?_eq_none (by simp; omega)
    simp [List.getD, this]
   rw [e]; trivial
end
end Go.Proofs.YtcldbjehliladaaDoor
