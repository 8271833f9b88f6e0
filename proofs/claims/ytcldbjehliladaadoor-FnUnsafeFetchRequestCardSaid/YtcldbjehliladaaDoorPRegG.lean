/-
  The same for regions whose operations may be guarded. No program in it.
-/
import Derived.Test.YtcldbjehliladaaDoorPOps
set_option linter.unusedSimpArgs false
set_option linter.unusedVariables false
namespace Go.Proofs.YtcldbjehliladaaDoor
open Go Go.RowKit
section
variable {P : Program} {ops : Array Oper} {Q : Exit -> Act -> World -> Prop}
theorem yielded_of {a : Act} {k d : Nat} {b : Bool} (hd : ((ops[k]?).bind (·.dst)) = some d) (h : Act.get a d = .bool b) : yielded ops a.tmps k = some b := by
 unfold yielded
 rw [hd]
 simp only [Option.bind_some]
 unfold Act.get at h
 simp only [Array.getD_eq_getD_getElem?] at h
 cases ht : a.tmps[d]? with
 | none => rw [ht] at h; simp [undef] at h
 | some v => rw [ht] at h; simp at h; subst h; rfl
theorem wanted_of {o : Oper} {a : Act} {k d : Nat} {b b' : Bool} (hg : o.guard = some (k, b)) (hd : ((ops[k]?).bind (·.dst)) = some d) (h : Act.get a d = .bool b') : Region.wanted o (yielded ops a.tmps) = (b' == b) := by
 unfold Region.wanted
 rw [hg]
 show (yielded ops a.tmps k == some b) = _
 rw [yielded_of hd h]
 rfl
section
variable {rest : List Oper} {a : Act} {w : World}
theorem wpl_wanted {o : Oper} (hw : Region.wanted o (yielded ops a.tmps) = true) (h : o.wp P a w (wpList P ops Q rest) Q) : wpList P ops Q (o :: rest) a w := by
 unfold wpList; rw [if_pos hw]; exact .inl h
theorem wpl_unwanted {o : Oper} (hw : Region.wanted o (yielded ops a.tmps) = false) (h : wpList P ops Q rest (a.put o.dst undef) w) : wpList P ops Q (o :: rest) a w := by
 unfold wpList; rw [if_neg (by rw [hw]; exact Bool.false_ne_true)]; exact h
/-- an operation that is wanted as another yielded what its guard asks for -/
theorem wpl_gval {o : Oper} {k d : Nat} {b : Bool} {v : Value} {w' : World} (hg : o.guard = some (k, b)) (hd : ((ops[k]?).bind (·.dst)) = some d) (hb : Act.get a d = .bool b) (h : (execOp a.eval o).run P w = .ok (.value v) w')
  (hk : wpList P ops Q rest (a.put o.dst v) w') : wpList P ops Q (o :: rest) a w := by
 refine wpl_wanted ((wanted_of hg hd hb).trans (by simp)) ?_
 unfold Oper.wp; rw [h]; exact hk
theorem wpl_gcall {o : Oper} {k d : Nat} {b : Bool} {f : FuncId} {args : Array Value} {w' : World} {R : Ending -> World -> Prop} (hg : o.guard = some (k, b)) (hd : ((ops[k]?).bind (·.dst)) = some d) (hb : Act.get a d = .bool b)
  (h : (execOp a.eval o).run P w = .ok (.enter f args) w') (hc : Calls P f args w' R) (hk : ∀ e w'', R e w'' -> ∃ v, e = .returned v /\ wpList P ops Q rest (a.put o.dst v) w'') : wpList P ops Q (o :: rest) a w := by
 refine wpl_wanted ((wanted_of hg hd hb).trans (by simp)) ?_
 unfold Oper.wp; rw [h]
 refine hc.mono fun e w'' hr => ?_
 obtain ⟨v, rfl, hk'⟩ := hk e w'' hr
 exact hk'
end
/-- the same, shut: else what is asked of a guarded operation is reckoned whenever the goal is looked at -/
structure WL (P : Program) (ops : Array Oper) (Q : Exit -> Act -> World -> Prop) (l : List Oper) (a : Act) (w : World) : Prop where
 out : wpList P ops Q l a w
section
variable {rest : List Oper} {a : Act} {w : World}
theorem wl_nil (h : Q .normal a w) : WL P ops Q [] a w := ⟨h⟩
theorem wl_val {o : Oper} {v : Value} {w' : World} (hg : o.guard = none) (h : (execOp a.eval o).run P w = .ok (.value v) w') (hk : WL P ops Q rest (a.put o.dst v) w') : WL P ops Q (o :: rest) a w := ⟨Zv hg h hk.out⟩
theorem wl_gval {o : Oper} {k d : Nat} {b : Bool} {v : Value} {w' : World} (hg : o.guard = some (k, b)) (hd : ((ops[k]?).bind (·.dst)) = some d) (hb : Act.get a d = .bool b) (h : (execOp a.eval o).run P w = .ok (.value v) w')
  (hk : WL P ops Q rest (a.put o.dst v) w') : WL P ops Q (o :: rest) a w := ⟨wpl_gval hg hd hb h hk.out⟩
theorem wl_gcall {o : Oper} {k d : Nat} {b : Bool} {f : FuncId} {args : Array Value} {w' : World} {R : Ending -> World -> Prop} (hg : o.guard = some (k, b)) (hd : ((ops[k]?).bind (·.dst)) = some d) (hb : Act.get a d = .bool b)
  (h : (execOp a.eval o).run P w = .ok (.enter f args) w') (hc : Calls P f args w' R) (hk : ∀ e w'', R e w'' -> ∃ v, e = .returned v /\ WL P ops Q rest (a.put o.dst v) w'') : WL P ops Q (o :: rest) a w :=
 ⟨wpl_gcall hg hd hb h hc fun e w'' hr => let ⟨v, h1, h2⟩ := hk e w'' hr; ⟨v, h1, h2.out⟩⟩
theorem wl_act (p : Act -> Prop) (hp : p a) (h : ∀ a', p a' -> WL P ops Q rest a' w) : WL P ops Q rest a w := h a hp
end
/-- whether a guard lets its operation through -/
def GuardIs (dl : List Nat) (a : Act) (g : Option (Nat × Bool)) (t : Bool) : Prop := match g with
 | none => t = true
 | some (k, b) => k < dl.length /\ ∃ b', Act.get a (dl.getD k 0) = .bool b' /\ (b' == b) = t
def StepOKG (P : Program) (Rel : World -> World -> Prop) (gl : List (Value -> World -> Prop)) (dl : List Nat) (Q : Exit -> Act -> World -> Prop) (a0 : Act) (w : World) (i : Nat) (o : Oper) : Prop :=
 ∀ a w', Rel w w' -> SameBut (fun t => t ∈ dl) a0 a -> (∀ e ∈ o.after, Region.binds .any e = true -> (gl.getD e.on (fun _ _ => True)) (Act.get a (dl.getD e.on 0)) w') ->
  (GuardIs dl a o.guard true /\ o.wp P a w' (fun a' w'' => ∃ v, a' = a.put (some (dl.getD i 0)) v /\ Rel w' w'' /\ (gl.getD i (fun _ _ => True)) v w'') Q) \/ (GuardIs dl a o.guard false /\ (gl.getD i (fun _ _ => True)) undef w')
def RGListG (P : Program) (Rel : World -> World -> Prop) (gl : List (Value -> World -> Prop)) (dl : List Nat) (Q : Exit -> Act -> World -> Prop) (a0 : Act) (w : World) : Nat -> List Oper -> Prop
 | _, [] => True
 | i, o :: os => StepOKG P Rel gl dl Q a0 w i o /\ RGListG P Rel gl dl Q a0 w (i + 1) os
theorem RGListG.at {Rel : World -> World -> Prop} {gl : List (Value -> World -> Prop)} {dl : List Nat} {a0 : Act} {w : World} : ∀ (l : List Oper) (k : Nat), RGListG P Rel gl dl Q a0 w k l -> ∀ i o, l[i]? = some o -> StepOKG P Rel gl dl Q a0 w (k + i) o
 | [], _, _, i, o, h => by simp at h
 | o' :: l, k, hl, 0, o, h => by simp at h; subst h; exact hl.1
 | o' :: l, k, hl, i + 1, o, h => by
  have := RGListG.at l (k + 1) hl.2 i o (by simpa using h)
  rw [show k + (i + 1) = k + 1 + i by omega]; exact this
theorem region_rgg {n m : Nat} {id : Nat} {a0 : Act} {w : World} {tl : List Oper} (hm : P.follows .mixedOrders = true) (Rel : World -> World -> Prop) (hdrew : Rel w w.drew) (hrefl : ∀ a, Rel a a) (htrans : ∀ a b c, Rel a b -> Rel b c -> Rel a c)
  (G : Nat -> Value -> World -> Prop) (hst : ∀ i v w w', G i v w -> Rel w w' -> G i v w') (ds : Nat -> Nat)
  (hops : ∀ i o, ops[i]? = some o -> i < n -> o.dst = some (ds i)) (hinj : ∀ i j, i < n -> j < n -> ds i = ds j -> i = j) (hb : ∀ i, i < n -> ds i < a0.tmps.size)
  (hn : ops.size = n + m) (hm0 : 0 < m) (htl : ∀ j, tl[j]? = ops[n + j]?) (htll : tl.length = m) (hseq : Region.seqB .any ops m n (headDone n m) = true)
  (hsink : Region.sinkB .any ops n = true) (hchain : Region.chainB .any ops n = true) (hlt : ∀ i o, ops[i]? = some o -> i < n -> ∀ e ∈ o.after, Region.binds .any e = true -> e.on < i)
  (step : ∀ i o, i < n -> ops[i]? = some o -> ∀ a w', Rel w w' -> SameBut (fun t => ∃ i, i < n /\ t = ds i) a0 a -> (∀ e ∈ o.after, Region.binds .any e = true -> G e.on (Act.get a (ds e.on)) w') ->
   (Region.wanted o (yielded ops a.tmps) = true /\ o.wp P a w' (fun a' w'' => ∃ v, a' = a.put (some (ds i)) v /\ Rel w' w'' /\ G i v w'') Q) \/ (Region.wanted o (yielded ops a.tmps) = false /\ G i undef w'))
  (tail : ∀ a w', Rel w w' -> SameBut (fun t => ∃ i, i < n /\ t = ds i) a0 a -> (∀ i, i < n -> G i (Act.get a (ds i)) w') -> wpList P ops Q tl a w') :
  (Code.region id ops true).wp P Q a0 w := by
 refine wp_region_any hm ?_
 have key : ∀ (fuel : Nat) (listed : Array Bool) (a : Act) (w' : World), RegInv n ds Rel G a0 w ops listed a w' -> unlisted n listed + m = fuel -> wpAny P .any ops Q fuel listed a w' := by
  intro fuel
  induction fuel with
  | zero => intro listed a w' inv hf; omega
  | succ fuel ih =>
   intro listed a w' inv hf
   by_cases hall : ∀ i, i < n -> listed.getD i false = true
   ·have hl : listed = headDone n m := headDone_eq (by rw [inv.head.size, hn]) hall (fun t h1 h2 => inv.head.tail t h1 (by omega))
    subst hl
    have hu : unlisted n (headDone n m) = 0 := unlisted_zero n hall
    have hfm : fuel + 1 = tl.length := by omega
    rw [hfm]
    exact wpAny_of_seq tl n _ a w' htl (by rw [htll]; exact hseq) (tail a w' inv.rel inv.same fun i hi => inv.got i hi (hall i hi))
   ·have hex : ∃ i, i < n /\ listed.getD i false = false := by
     apply Classical.byContradiction
     intro hno
     exact hall fun i hi => by
      cases hl : listed.getD i false with
      | true => rfl
      | false => exact (hno ⟨i, hi, hl⟩).elim
    obtain ⟨i0, hi0, hl0⟩ := hex
    refine ⟨fun hnil => ?_, fun i hi => ?_⟩
    ·exfalso
     have hleast : ∃ i, i < n /\ listed.getD i false = false /\ ∀ j, j < i -> listed.getD j false = true := by
      have : ∀ k, ∀ i, i <= k -> i < n -> listed.getD i false = false -> ∃ i, i < n /\ listed.getD i false = false /\ ∀ j, j < i -> listed.getD j false = true := by
       intro k
       induction k with
       | zero => intro i hik hin hil; exact ⟨i, hin, hil, fun j hj => by omega⟩
       | succ k ihk =>
        intro i hik hin hil
        by_cases hj : ∀ j, j < i -> listed.getD j false = true
        ·exact ⟨i, hin, hil, hj⟩
        ·have : ∃ j, j < i /\ listed.getD j false = false := by
          apply Classical.byContradiction
          intro hno
          exact hj fun j hj' => by
           cases hl : listed.getD j false with
           | true => rfl
           | false => exact (hno ⟨j, hj', hl⟩).elim
         obtain ⟨j, hj1, hj2⟩ := this
         exact ihk j (by omega) (by omega) hj2
      exact this i0 i0 (Nat.le_refl _) hi0 hl0
     obtain ⟨i, hin, hil, hless⟩ := hleast
     obtain ⟨o, ho⟩ : ∃ o, ops[i]? = some o := ⟨_, Array.getElem?_eq_getElem (by omega)⟩
     have : i ∈ Region.ready .any ops listed := mem_ready.2 ⟨getD_in (by rw [inv.head.size]; omega) hil, o, ho, fun e he hb' => hless _ (hlt i o ho hin e he hb')⟩
     rw [hnil] at this; cases this
    ·obtain ⟨hun, o, ho, hall'⟩ := mem_ready.1 hi
     have hin : i < n := by
      rcases Nat.lt_or_ge i n with h | h
      ·exact h
      ·exact absurd hi (tail_waits hsink hchain (by omega) inv.head _ i0 rfl hi0 (getD_in (by rw [inv.head.size]; omega) hl0) i h)
     have hun' := getD_both hun
     have hd := hops i o ho hin
     unfold wpOp
     simp only [ho]
     have hsz : a.tmps.size = a0.tmps.size := inv.same.size
     have go : ∀ v w'', Rel w' w'' -> G i v w'' -> wpAny P .any ops Q fuel (listed.setIfInBounds i true) (a.put (some (ds i)) v) w'' := by
      intro v w'' hrel hG
      refine ih _ _ _ ⟨inv.head.set hi hin, htrans _ _ _ inv.rel hrel, inv.same.put ⟨i, hin, rfl⟩ v, fun j hj hl => ?_⟩ ?_
      ·by_cases hij : i = j
       ·subst hij
        rw [Zq (by rw [hsz]; exact hb i hin)]
        exact hG
       ·rw [getD_set_ne false hij] at hl
        rw [Zn (fun e => hij (hinj i j hin hj e))]
        exact hst _ _ _ _ (inv.got j hj hl) hrel
      ·have := unlisted_set (listed := listed) (i := i) (by rw [inv.head.size]; omega) hun' n hin
       omega
     rcases step i o hin ho a w' inv.rel inv.same (fun e he hb' => inv.got _ (Nat.lt_trans (hlt i o ho hin e he hb') hin) (hall' e he hb')) with ⟨hw, hs⟩ | ⟨hw, hG⟩
     ·rw [if_pos hw]
      refine .inl (Oper.wp_mono ?_ hs)
      rintro a' w'' ⟨v, rfl, hrel, hG⟩
      exact go v w'' hrel hG
     ·rw [if_neg (by rw [hw]; exact Bool.false_ne_true), hd]
      exact go undef w' (hrefl _) hG
 refine key ops.size _ a0 _ ⟨⟨by simp, fun j oj hj hl => ?_, fun t ht hts => ?_⟩, hdrew, .refl a0, fun i hi hl => ?_⟩ ?_
 ·rw [getD_replicate_false] at hl; cases hl
 ·have : t < ops.size := hts
  simp [this]
 ·rw [getD_replicate_false] at hl; cases hl
 ·rw [unlisted_all n _ (by omega), hn]
/-- the form of such a region: its slots -/
def regFormG (l : List Oper) (dl : List Nat) : Bool := (l.map fun o => o.dst) == (dl.map fun d => some d)
theorem region_rlg {id : Nat} {l tl : List Oper} {a0 : Act} {w : World} (hm : P.follows .mixedOrders = true) (Rel : World -> World -> Prop) (hdrew : Rel w w.drew) (hrefl : ∀ a, Rel a a) (htrans : ∀ a b c, Rel a b -> Rel b c -> Rel a c)
  (dl : List Nat) (gl : List (Value -> World -> Prop)) (hst : ∀ g ∈ gl, ∀ v w w', g v w -> Rel w w' -> g v w') (hform : regFormG l dl = true) (hnd : dl.Nodup) (hb : ∀ d ∈ dl, d < a0.tmps.size) (htl0 : 0 < tl.length)
  (hchk : (Region.sinkB .any (l ++ tl).toArray l.length && Region.chainB .any (l ++ tl).toArray l.length && Region.seqB .any (l ++ tl).toArray tl.length l.length (headDone l.length tl.length) && regEdges l 0) = true)
  (steps : RGListG P Rel gl dl Q a0 w 0 l)
  (htail : ∀ a w', Rel w w' -> SameBut (fun t => t ∈ dl) a0 a -> (∀ i, i < l.length -> (gl.getD i (fun _ _ => True)) (Act.get a (dl.getD i 0)) w') -> wpList P (l ++ tl).toArray Q tl a w') :
  (Code.region id (l ++ tl).toArray true).wp P Q a0 w := by
 simp only [regFormG, beq_iff_eq] at hform
 simp only [Bool.and_eq_true] at hchk
 obtain ⟨⟨⟨hsink, hchain⟩, hseq⟩, hedges⟩ := hchk
 have hlen : l.length = dl.length := by have := congrArg List.length hform; simpa using this
 have hget : ∀ i o, l[i]? = some o -> o.dst = some (dl.getD i 0) := by
  intro i o h
  have hi : i < l.length := (List.getElem?_eq_some_iff.1 h).1
  have := congrArg (fun q => q[i]?) hform
  simp only [List.getElem?_map, h, Option.map_some] at this
  rw [List.getElem?_eq_getElem (by omega)] at this
  simp only [Option.map_some, Option.some.injEq] at this
  refine this.trans ?_
  simp [List.getD, List.getElem?_eq_getElem (show i < dl.length by omega)]
 have hopl : ∀ i o, i < l.length -> (l ++ tl).toArray[i]? = some o -> l[i]? = some o := fun i o hi h => by
  simpa [List.getElem?_append_left hi] using h
 have hset : ∀ t, (∃ i, i < l.length /\ t = dl.getD i 0) ↔ t ∈ dl := fun t => by
  constructor
  ·rintro ⟨i, hi, rfl⟩
   simp [List.getD, List.getElem?_eq_getElem (show i < dl.length by omega)]
  ·intro ht
   obtain ⟨i, hi, rfl⟩ := List.getElem_of_mem ht
   exact ⟨i, by omega, by simp [List.getD, List.getElem?_eq_getElem hi]⟩
 have hsame : ∀ a, SameBut (fun t => ∃ i, i < l.length /\ t = dl.getD i 0) a0 a -> SameBut (fun t => t ∈ dl) a0 a := fun a h => h.mono fun t ht => (hset t).1 ht
 refine region_rgg (n := l.length) (m := tl.length) (tl := tl) hm Rel hdrew hrefl htrans (fun i => gl.getD i (fun _ _ => True)) ?_ (fun i => dl.getD i 0) ?_ ?_ ?_ (by simp) htl0 ?_ rfl hseq hsink hchain ?_ ?_ ?_
 ·intro i v w w' h hr
  by_cases hi : i < gl.length
  ·have hmem : gl.getD i (fun _ _ => True) ∈ gl := by simp [List.getD, List.getElem?_eq_getElem hi]
   exact hst _ hmem _ _ _ h hr
  ·simp [List.getD, List.getElem?_eq_none (Nat.le_of_not_lt hi)]
 ·intro i o ho hi; exact hget i o (hopl i o hi ho)
 ·intro i j hi hj h
  have h1 : i < dl.length := by omega
  have h2 : j < dl.length := by omega
  simp only [List.getD, List.getElem?_eq_getElem h1, List.getElem?_eq_getElem h2, Option.getD_some] at h
  have hp := List.pairwise_iff_getElem.1 hnd
  rcases Nat.lt_trichotomy i j with hlt | heq | hlt
  ·exact (hp i j h1 h2 hlt h).elim
  ·exact heq
  ·exact (hp j i h2 h1 hlt h.symm).elim
 ·intro i hi
  exact hb _ ((hset _).1 ⟨i, hi, rfl⟩)
 ·intro j
  simp [List.getElem?_append_right (Nat.le_add_right _ _)]
 ·intro i o ho hi e he hb'
  have := regEdges_spec _ 0 hedges i o (hopl i o hi ho) e he hb'
  omega
 ·intro i o hi ho a w' hr hs hd
  have := RGListG.at l 0 steps i o (hopl i o hi ho)
  rw [Nat.zero_add] at this
  have hguard : ∀ t, GuardIs dl a o.guard t -> Region.wanted o (yielded (l ++ tl).toArray a.tmps) = t := by
   intro t hg
   unfold GuardIs at hg
   unfold Region.wanted
   revert hg
   cases o.guard with
   | none => intro hg; exact hg.symm
   | some kb =>
    obtain ⟨k, b⟩ := kb
    rintro ⟨hk, b', hb', ht⟩
    have hdk : (((l ++ tl).toArray[k]?).bind (·.dst)) = some (dl.getD k 0) := by
     obtain ⟨ok, hok⟩ : ∃ ok, l[k]? = some ok := ⟨_, List.getElem?_eq_getElem (by omega)⟩
     have : (l ++ tl).toArray[k]? = some ok := by simp [List.getElem?_append_left (show k < l.length by omega), hok]
     rw [this]
     exact hget k ok hok
    show (yielded (l ++ tl).toArray a.tmps k == some b) = t
    rw [yielded_of hdk hb', <- ht]
    rfl
  rcases this a w' hr (hsame a hs) hd with ⟨h1, h2⟩ | ⟨h1, h2⟩
  ·exact .inl ⟨hguard _ h1, h2⟩
  ·exact .inr ⟨hguard _ h1, h2⟩
 ·intro a w' hr hs hg
  exact htail a w' hr (hsame a hs) hg
end
end Go.Proofs.YtcldbjehliladaaDoor
