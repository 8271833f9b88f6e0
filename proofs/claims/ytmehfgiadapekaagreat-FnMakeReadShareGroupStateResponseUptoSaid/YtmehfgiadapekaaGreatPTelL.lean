/-
  impl.sorted leaves tags that stand by rising numbers as they are.
  Telling the tags that a message keeps; texts that may be none, yes or no, octets. No program in it.
  Texts that may be none, yes or no, octets: what is told of them.
  The rule for a field that a function of its own tells. No program in it.
  Telling a list: a bool that is drawn; the list's own memory. No program in it.
-/
import Derived.Test.YtmehfgiadapekaaGreatPEa
import Derived.Test.YtmehfgiadapekaaGreatPSame
set_option linter.unusedSimpArgs false
set_option linter.unusedVariables false
namespace Go.Proofs.YtmehfgiadapekaaGreat
open Go Go.RowKit
section
variable {P : Program} {Q : Exit -> Act -> World -> Prop}
def VStep2 (P : Program) (dl : List Nat) (vl : List Value) (Q : Exit -> Act -> World -> Prop) (a0 : Act) (w : World) (i : Nat) (o : Oper) : Prop :=
 ∀ a w', Mod none' w w' -> SameBut (fun t => t ∈ dl) a0 a -> (∀ e ∈ o.after, Region.binds .any e = true -> Act.get a (dl.getD e.on 0) = vl.getD e.on undef) ->
  (GuardIs dl a o.guard true /\ o.wp P a w' (fun a' w'' => a' = a.put (some (dl.getD i 0)) (vl.getD i undef) /\ Mod none' w' w'') Q) \/ (GuardIs dl a o.guard false /\ undef = vl.getD i undef)
def VList2 (P : Program) (dl : List Nat) (vl : List Value) (Q : Exit -> Act -> World -> Prop) (a0 : Act) (w : World) : Nat -> List Oper -> Prop
 | _, [] => True
 | i, o :: os => VStep2 P dl vl Q a0 w i o /\ VList2 P dl vl Q a0 w (i + 1) os
theorem VList2.toG {dl : List Nat} {vl : List Value} {a0 : Act} {w : World} (hl : vl.length = dl.length) : ∀ (l : List Oper) (k : Nat), k + l.length <= dl.length -> (∀ o ∈ l, ∀ e ∈ o.after, Region.binds .any e = true -> e.on < dl.length) -> VList2 P dl vl Q a0 w k l ->
  RGListG P (Mod none') (vl.map fun v => fun (x : Value) (_ : World) => x = v) dl Q a0 w k l
 | [], _, _, _, _ => trivial
 | o :: l, k, hk, he, h => by
  refine ⟨fun a w' hr hs hd => ?_, VList2.toG hl l (k + 1) (by simp at hk; omega) (fun o ho => he o (List.mem_cons_of_mem _ ho)) h.2⟩
  rcases h.1 a w' hr hs fun e hm hb => (vl_get _ _ _ w').1 (hd e hm hb) (by rw [hl]; exact he o (List.mem_cons_self ..) e hm hb) with ⟨hg, hw⟩ | ⟨hg, hv⟩
  ·refine .inl ⟨hg, Oper.wp_mono ?_ hw⟩
   rintro a' w'' ⟨h1, h2⟩
   exact ⟨_, h1, h2, (vl_get _ _ _ _).2 fun _ => rfl⟩
  ·exact .inr ⟨hg, (vl_get _ _ _ _).2 fun _ => hv⟩
theorem region_vals2 {id : Nat} {l tl : List Oper} {a0 : Act} {w : World} (hm : P.follows .mixedOrders = true) (dl : List Nat) (vl : List Value) (hl : vl.length = dl.length) (hform : regFormG l dl = true) (hnd : dl.Nodup) (hb : ∀ d ∈ dl, d < a0.tmps.size) (htl0 : 0 < tl.length)
  (hchk : (Region.sinkB .any (l ++ tl).toArray l.length && Region.chainB .any (l ++ tl).toArray l.length && Region.seqB .any (l ++ tl).toArray tl.length l.length (headDone l.length tl.length) && regEdges l 0) = true)
  (steps : VList2 P dl vl Q a0 w 0 l)
  (htail : ∀ a w', Mod none' w w' -> SameBut (fun t => t ∈ dl) a0 a -> (∀ i, i < l.length -> Act.get a (dl.getD i 0) = vl.getD i undef) -> wpList P (l ++ tl).toArray Q tl a w') :
  (Code.region id (l ++ tl).toArray true).wp P Q a0 w := by
 have hlen : l.length = dl.length := by
  simp only [regFormG, beq_iff_eq] at hform
  have := congrArg List.length hform; simpa using this
 have hedge : ∀ o ∈ l, ∀ e ∈ o.after, Region.binds .any e = true -> e.on < dl.length := by
  intro o ho e he hbi
  simp only [Bool.and_eq_true] at hchk
  obtain ⟨i, hi, rfl⟩ := List.getElem_of_mem ho
  have := regEdges_spec l 0 hchk.2 i _ (List.getElem?_eq_getElem hi) e he hbi
  omega
 refine region_rlg hm (Mod none') (Mod.refl w).drew (fun a => .refl a) (fun _ _ _ h h' => h.trans h') dl _ ?_ hform hnd hb htl0 hchk (VList2.toG hl l 0 (by omega) hedge steps) ?_
 ·intro g hg v w1 w2 h1 _
  obtain ⟨u, _, rfl⟩ := List.mem_map.1 hg
  exact h1
 ·intro a w' hr hs hh
  exact htail a w' hr hs fun i hi => (vl_get _ _ _ w').1 (hh i hi) (by omega)
theorem Zt {o : Oper} {dl : List Nat} {a : Act} {v : Value} {w' : World} {t : Nat} {R : Prop} (hg : GuardIs dl a o.guard true) (ho : o.dst = some t) (h : (execOp a.eval o).run P w' = .ok (.value v) w') :
  (GuardIs dl a o.guard true /\ o.wp P a w' (fun a' w'' => a' = a.put (some t) v /\ Mod none' w' w'') Q) \/ R := .inl (vstep_val hg ho h)
end
end Go.Proofs.YtmehfgiadapekaaGreat
set_option linter.unusedSimpArgs false
set_option linter.unusedVariables false
namespace Go.Proofs.YtmehfgiadapekaaGreat
open Go Go.RowKit
/-- these cells are tags told -/
def TagCells (w : World) (G : Nat -> Prop) (u : Tags) (xs : List Value) : Prop := xs.length = u.length * 2 /\ ∀ i (h : i < u.length), xs[i * 2]? = some (.int .u32 (u[i]).1) /\ ∃ v nil, xs[i * 2 + 1]? = some v /\ Oct w G v (u[i]).2 nil
/-- tags told: where they lie -/
def TagsT (w : World) (F : Nat -> Prop) (uv : Value) (u : Tags) : Prop := u.length <= 4294967295 /\ ∃ g : Nat -> Nat -> Value, Elems w F uv u.length 2 g /\ ∀ i (h : i < u.length), g i 0 = .int .u32 (u[i]).1 /\ fits .u32 (u[i]).1 /\ ∃ nil, Oct w F (g i 1) (u[i]).2 nil
theorem TagsT.mod {w w' : World} {F F' S : Nat -> Prop} {uv : Value} {u : Tags} (h : TagsT w F uv u) (hm : Mod S w w') (hs : ∀ k, F k -> ¬ S k) (hf : ∀ k, F k -> F' k) : TagsT w' F' uv u := by
 obtain ⟨h1, g, h2, h3⟩ := h
 exact ⟨h1, g, h2.mod hm hs hf, fun i hi => by obtain ⟨a, b, nil, c⟩ := h3 i hi; exact ⟨a, b, nil, c.mod hm hs hf⟩⟩
theorem Elems.of_owns {w : World} {B e sz n : Nat} {v : Value} {xs : List Value} {F : Nat -> Prop} (h : w.ownsRow B e sz v n xs) (hF : ∀ k, v.ownBlock = some k -> F k) : Elems w F v n sz (fun i j => xs.getD (i * sz + j) undef) := by
 rcases h.2 with ⟨rfl, rfl⟩ | ⟨g, cap, cur, rfl, hb, hg, hnc, hcm, hsz, ht⟩
 ·exact .inl ⟨rfl, rfl⟩
 ·refine .inr ⟨g, 0, cap, cur, e, (0, 0), hF g rfl, rfl, hnc, hcm, hg, fun i hi j hj => ?_⟩
  have hlt : i * sz + j < n * sz := by
   have := Nat.mul_le_mul_right sz (show i + 1 <= n by omega)
   rw [Nat.add_mul] at this
   omega
  have h1 : (cur.toList.take (n * sz))[i * sz + j]? = xs[i * sz + j]? := by rw [ht]
  rw [List.getElem?_take, if_pos hlt, Array.getElem?_toList] at h1
  rw [Nat.zero_add, h1]
  simp [List.getD, List.getElem?_eq_getElem (show i * sz + j < xs.length by rw [h.1]; exact hlt)]
theorem TagCells.told {w : World} {B e : Nat} {uv : Value} {u : Tags} {xs : List Value} {F : Nat -> Prop} (h : w.ownsRow B e 2 uv u.length xs) (hc : TagCells w (fun k => B <= k /\ uv.ownBlock ≠ some k) u xs) (hF : ∀ k, B <= k -> F k) (hb : u.length <= 4294967295) (hk : ∀ p ∈ u, 0 <= p.1 /\ p.1 < 4294967296) : TagsT w F uv u := by
 refine ⟨hb, _, Elems.of_owns h (fun k hk => hF k (h.lt k hk).1), fun i hi => ?_⟩
 obtain ⟨g1, v, nil, g2, g3⟩ := hc.2 i hi
 have := hk u[i] (List.getElem_mem hi)
 refine ⟨?_, ?_, nil, ?_⟩
 ·show xs.getD (i * 2 + 0) undef = _
  simp [List.getD, g1]
 ·simp [fits, IntKind.min, IntKind.max, IntKind.signed, IntKind.bits]; omega
 ·show Oct w F (xs.getD (i * 2 + 1) undef) _ nil
  simp only [List.getD, g2, Option.getD_some]
  exact g3.mod (Mod.refl (S := none') w) (fun _ _ f => f) (fun k hk => hF k hk.1)
section
variable {P : Program} {σ : St} {N n TI TL UL TG yb eb id T k o : Nat} {d0 d1 d2 d3 d4 d5 d6 d7 d8 : Nat} {y0 y1 y2 y3 y4 y5 y6 y7 y8 y9 : TypeId} {p0 p1 p2 p3 p4 p5 p6 p7 p8 p9 : String} {e0 e1 e2 e3 e4 e5 e6 e7 e8 e9 : Array Edge} {i0 i1 i2 : Nat} {ts1 ts2 : Array TypeId}
theorem TMem.tags {x : TX} {w0 w w' : World} {ts : List Tr} {uv uv' : Value} {T : Nat} (h : TMem x w0 w ts uv) (hm : Mod (only x.tb) w w') (hb : w'.heap[x.tb]? = some (.cells #[.int .i64 0, .slice none 0 0, .bool false, .slice (some ⟨x.lb, 0, none⟩) x.n x.n, uv'] T (0, 0))) : TMem x w0 w' ts uv' := by
 obtain ⟨D, TD, h1, h2, h3, h4, h5⟩ := h.hl
 obtain ⟨z, Tz, hr, hz⟩ := h.hr
 have hn := h.new
 have hne := h.ne
 exact ⟨h.mod.trans' hm (fun _ _ f => f) (fun j hj e => by have : j = x.tb := e; omega), h.new, h.ne, ⟨T, hb⟩, ⟨D, TD, hm.some h1 (fun e => hne.1 (Eq.symm e)), h2, h3, fun i hi => (h4 i hi).mod hm (fun k hk e => hk.2.1 e) (fun _ h => h), h5⟩, ⟨z, Tz, hm.some hr (fun e => hne.2.1 e), hz⟩⟩
end
end Go.Proofs.YtmehfgiadapekaaGreat
set_option linter.unusedSimpArgs false
set_option linter.unusedVariables false
namespace Go.Proofs.YtmehfgiadapekaaGreat
open Go Go.RowKit
def isPtr (P : Program) (t : TypeId) : Bool := match P.underlying t with
 | some (.pointer _) => true
 | _ => false
section
variable {P : Program} {ρ : Operand -> Value} {w : World} {d : Option Tmp} {ty : TypeId} {p : String} {af : Array Edge} {g : Option (Nat × Bool)}
theorem x_eqlPtr {x : Operand} {t u : TypeId} {m : Option Addr} (ht : isPtr P t = true) (hρ : ∀ v, ρ (.const v) = v) (hx : ρ x = .pointer m) : (execOp ρ ⟨d, .binOp .eql t x (.const (.pointer none)) u, ty, p, af, g⟩).run P w = .ok (.value (.bool m.isNone)) w := by
 obtain ⟨e, hu⟩ : ∃ e, P.underlying t = some (.pointer e) := by
  unfold isPtr at ht
  cases hu : P.underlying t with
  | none => simp [hu] at ht
  | some ds => cases ds <;> simp_all
 have he : (Op.equal t (.pointer m) (.pointer none)).run P w = .ok m.isNone w := by
  show (Op.equalIn (9999 + 1) t (.pointer m) (.pointer none)).run P w = _
  rw [Op.equalIn]
  simp only [Sem.run_bind, run_underlying hu, Result.andThen_ok]
  cases m <;> rfl
 simp [execOp, hx, hρ, eqGuard, binOp, he]
end
theorem put_tree {w : World} {rb : Nat} {z cs : Array Value} {Tz : Nat} (hr : w.heap[rb]? = some (.cells z Tz (0, 0))) (hz : z.size = cs.size) : (w.setCells rb 0 cs.toList).heap[rb]? = some (.cells cs Tz (0, 0)) := by
 obtain ⟨C3, k1, k2, k3, k4⟩ := heap_setCells (w := w) cs.toList 0 _ hr
 have hC3 : C3 = cs := by
  apply Array.ext
  ·omega
  ·intro i h1 h2
   have := k3 i (by simpa using h2) (by omega)
   rw [Nat.zero_add, Array.getElem?_eq_getElem h1] at this
   simpa [h2] using this
 rw [k1, hC3]
end Go.Proofs.YtmehfgiadapekaaGreat
set_option linter.unusedSimpArgs false
set_option linter.unusedVariables false
namespace Go.Proofs.YtmehfgiadapekaaGreat
open Go Go.RowKit
def Ty.leaf : Ty -> Bool
 | .bool => true
 | .pstr => true
 | .bytes => true
 | _ => false
end Go.Proofs.YtmehfgiadapekaaGreat
set_option linter.unusedSimpArgs false
set_option linter.unusedVariables false
namespace Go.Proofs.YtmehfgiadapekaaGreat
open Go Go.RowKit
/-- the cells of a list's tree -/
def row5 (nl : Bool) (sv : Value) (q : Nat) : Value := (#[Value.int .i64 0, .slice none 0 0, .bool nl, sv, .slice none 0 0] : Array Value).getD q undef
/-- memory while a list is told: the tree's next part is the list, so far with these parts, in memory of its own at or above B -/
structure LMem (x : TX) (w0 w : World) (ts : List Tr) (uv : Value) (B TI : Nat) (nl : Bool) (sv : Value) (xs : List Value) (pre : List Tr) : Prop where
 mod : Mod none' w0 w
 new : w0.heap.size <= x.tb /\ w0.heap.size <= x.lb /\ w0.heap.size <= x.rb
 ne : x.tb ≠ x.lb /\ x.rb ≠ x.tb /\ x.rb ≠ x.lb
 lt : x.tb < B /\ x.lb < B /\ x.rb < B /\ B <= w.heap.size
 hb : ∃ T, w.heap[x.tb]? = some (.cells #[.int .i64 0, .slice none 0 0, .bool false, .slice (some ⟨x.lb, 0, none⟩) x.n x.n, uv] T (0, 0))
 hl : ∃ D T, w.heap[x.lb]? = some (.cells D T (0, 0)) /\ D.size = x.n * 5 /\ ts.length < x.n /\ (∀ i (h : i < ts.length), TreeR w (fun k => TF x w0 k /\ k < B) (from' D (i * 5)) ts[i]) /\
  (∀ q, q < 5 -> from' D (ts.length * 5) q = row5 nl sv q) /\ ∀ i, ts.length < i -> i < x.n -> ∀ q, q < 5 -> from' D (i * 5) q = zero5 q
 hr : ∃ z T, w.heap[x.rb]? = some (.cells z T (0, 0)) /\ z.size = 5
 own : w.ownsRow B TI 5 sv pre.length xs
 els : ∀ i (h : i < pre.length), TreeR w (fun k => B <= k /\ sv.ownBlock ≠ some k) (fun q => xs.getD (i * 5 + q) undef) pre[i]
 len : pre.length <= 4294967295
/-- the list's memory, turned: a part more -/
theorem LMem.put {x : TX} {w0 w w1 : World} {ts : List Tr} {uv : Value} {B TI : Nat} {nl : Bool} {sv sv' : Value} {xs xs' : List Value} {pre pre' : List Tr} (h : LMem x w0 w ts uv B TI nl sv xs pre) (hm : Mod (fun k => sv.ownBlock = some k) w w1)
  (ho : w1.ownsRow B TI 5 sv' pre'.length xs') (hl : pre'.length <= 4294967295) (he : ∀ i (h : i < pre'.length), TreeR w1 (fun k => B <= k /\ sv'.ownBlock ≠ some k) (fun q => xs'.getD (i * 5 + q) undef) pre'[i]) :
  LMem x w0 (w1.setCell ⟨x.lb, 0 + ts.length * 5 + 3, none⟩ sv') ts uv B TI nl sv' xs' pre' := by
 obtain ⟨D, T, h1, h2, h3, h4, h5, h6⟩ := h.hl
 obtain ⟨T', hb⟩ := h.hb
 obtain ⟨z, Tz, hr, hz⟩ := h.hr
 have hlt := h.lt
 have hnew := h.new
 have hub : ∀ k, sv.ownBlock = some k -> B <= k := fun k hk => (h.own.lt k hk).1
 have hub' : ∀ k, sv'.ownBlock = some k -> B <= k := fun k hk => (ho.lt k hk).1
 have hm3 : Mod (only x.lb) w1 (w1.setCell ⟨x.lb, 0 + ts.length * 5 + 3, none⟩ sv') := (Mod.refl w1).put _ _
 have h1' := hm.some h1 (fun e => by have := hub _ e; omega)
 have hs1 := hm.size
 have hs3 := hm3.size
 have hrow : ts.length * 5 + 5 <= D.size := by rw [h2]; have := Nat.mul_le_mul_right 5 (show ts.length + 1 <= x.n by omega); omega
 have get : ∀ p, (D.setIfInBounds (0 + ts.length * 5 + 3) sv')[p]? = if p = ts.length * 5 + 3 then some sv' else D[p]? := fun p => by
  rw [Array.getElem?_setIfInBounds]
  by_cases hp : p = ts.length * 5 + 3
  ·rw [if_pos (by omega), if_pos hp, if_pos (by omega)]
  ·rw [if_neg (by omega), if_neg hp]
 refine ⟨(h.mod.trans' hm (fun _ _ f => f) (fun j hj e => by have := hub _ e; omega)).trans' hm3 (fun _ _ f => f) (fun j hj e => by have : j = x.lb := e; omega), h.new, h.ne, ⟨hlt.1, hlt.2.1, hlt.2.2.1, by omega⟩,
  ⟨T', hm3.some (hm.some hb (fun e => by have := hub _ e; omega)) (fun e => h.ne.1 e)⟩, ⟨_, T, heap_setCell_same h1' _, by simpa using h2, h3, fun i hi => ?_, fun q hq => ?_, fun i hi1 hi2 q hq => ?_⟩,
  ⟨z, Tz, hm3.some (hm.some hr (fun e => by have := hub _ e; omega)) (fun e => h.ne.2.2 e), hz⟩, ownsRow_mod ho hm3 (fun k hk e => by have := hub' k hk; have e' : k = x.lb := e; omega), fun i hi => (he i hi).mod hm3 (fun k hk e => by have e' : k = x.lb := e; have := hk.1; omega) (fun _ h => h), hl⟩
 ·refine (((h4 i hi).mod hm (fun k hk e => by have := hub _ e; have := hk.2; omega) (fun _ h => h)).congr fun q hq => ?_).mod hm3 (fun k hk e => hk.1.2.2.1 e) (fun _ h => h)
  simp only [from', Array.getD_eq_getD_getElem?]
  rw [get, if_neg (by omega)]
 ·have h5q := h5 q hq
  simp only [from', Array.getD_eq_getD_getElem?] at h5q ⊢
  rw [get]
  by_cases hq3 : q = 3
  ·subst hq3; rw [if_pos rfl]; rfl
  ·rw [if_neg (by omega), h5q]
   rcases (by omega : q = 0 \/ q = 1 \/ q = 2 \/ q = 4) with rfl | rfl | rfl | rfl <;> rfl
 ·rw [<- h6 i hi1 hi2 q hq]
  simp only [from', Array.getD_eq_getD_getElem?]
  rw [get, if_neg (by omega)]
theorem relp_ne {p i : Nat} {Rel : World -> World -> Prop} {w w' : World} (h : (i == p) = false) (hm : Mod none' w w') : RelP p Rel i w w' := by
 unfold RelP; rw [if_neg (by simpa using h)]; exact hm
theorem relp_eq {p : Nat} {Rel : World -> World -> Prop} {w w' : World} (hm : Rel w w') : RelP p Rel p w w' := by
 unfold RelP; rw [if_pos rfl]; exact hm
theorem owns_slice {w : World} {B e sz : Nat} {v : Value} {n : Nat} {xs : List Value} (h : w.ownsRow B e sz v n xs) : ∃ ao cap, v = .slice ao n cap := by
 rcases h.2 with ⟨rfl, rfl⟩ | ⟨g, cap, cur, rfl, _⟩
 ·exact ⟨_, _, rfl⟩
 ·exact ⟨_, _, rfl⟩
/-- the last part of the list is set -/
theorem LMem.last {x : TX} {w0 w : World} {ts : List Tr} {uv : Value} {B TI g cap : Nat} {nl : Bool} {xs z0 : List Value} {pre : List Tr} {t0 t : Tr} {cs : Array Value} (h : LMem x w0 w ts uv B TI nl (.slice (some ⟨g, 0, none⟩) (pre.length + 1) cap) (xs ++ z0) (pre ++ [t0])) (hxs : xs.length = pre.length * 5)
  (hsz : cs.size = 5) (ht : TreeR w (fun k => B <= k /\ k ≠ g) (from' cs 0) t) : LMem x w0 (w.setCells g (0 + pre.length * 5) cs.toList) ts uv B TI nl (.slice (some ⟨g, 0, none⟩) (pre.length + 1) cap) (xs ++ cs.toList) (pre ++ [t]) := by
 have hown := h.own
 have hlt := h.lt
 have hnew := h.new
 obtain ⟨hxl, hcase⟩ := hown
 rcases hcase with ⟨hbad, _⟩ | ⟨g', cap', cur, hv, hb, hg, hnc, hcm, hcs, htake⟩
 ·cases hbad
 obtain ⟨rfl, rfl⟩ : g = g' /\ cap = cap' := by
  simp only [Value.slice.injEq, Option.some.injEq, Addr.mk.injEq] at hv
  exact ⟨hv.1.1, hv.2.2⟩
 simp only [List.length_append, List.length_singleton] at hxl hnc htake
 have hm := mod_setCells g w (0 + pre.length * 5) cs.toList
 obtain ⟨cur', k1, k2, k3, k4⟩ := heap_setCells (w := w) cs.toList (0 + pre.length * 5) cur hg
 simp only [Array.length_toList, hsz] at k3 k4
 have hs := hm.size
 have hcap : (pre.length + 1) * 5 <= cur.size := by rw [hcs]; exact Nat.mul_le_mul_right 5 hnc
 obtain ⟨D, T, h1, h2, h3, h4, h5, h6⟩ := h.hl
 obtain ⟨T', hbb⟩ := h.hb
 obtain ⟨z, Tz, hr, hz⟩ := h.hr
 have ng : ∀ k, k < B -> ¬ only g k := fun k hk e => by have e' : k = g := e; omega
 refine ⟨h.mod.trans' hm (fun _ _ f => f) (fun j hj e => by have e' : j = g := e; omega), h.new, h.ne, ⟨hlt.1, hlt.2.1, hlt.2.2.1, by omega⟩, ⟨T', hm.some hbb (ng _ hlt.1)⟩,
  ⟨D, T, hm.some h1 (ng _ hlt.2.1), h2, h3, fun i hi => (h4 i hi).mod hm (fun k hk => ng k hk.2) (fun _ h => h), h5, h6⟩, ⟨z, Tz, hm.some hr (ng _ hlt.2.2.1), hz⟩,
  ⟨by simp [hxs, hsz]; omega, .inr ⟨g, cap, cur', by simp, hb, k1, by simpa using hnc, hcm, k2.trans hcs, ?_⟩⟩, fun i hi => ?_, by have := h.len; simpa using this⟩
 ·apply List.ext_getElem?
  intro p
  simp only [List.length_append, List.length_singleton]
  rw [List.getElem?_take]
  by_cases hp : p < (pre.length + 1) * 5
  ·rw [if_pos hp, Array.getElem?_toList]
   by_cases hpp : p < pre.length * 5
   ·rw [k4 p (by omega), List.getElem?_append_left (by omega)]
    have e := congrArg (fun q => q[p]?) htake
    change (cur.toList.take ((pre.length + 1) * 5))[p]? = (xs ++ z0)[p]? at e
    rw [List.getElem?_take, if_pos hp, Array.getElem?_toList, List.getElem?_append_left (by omega)] at e
    exact e
   ·have e := k3 (p - pre.length * 5) (by omega) (by omega)
    rw [show 0 + pre.length * 5 + (p - pre.length * 5) = p by omega] at e
    rw [e, List.getElem?_append_right (by omega), hxs]
    exact (List.getElem?_eq_getElem (by simp [hsz]; omega)).symm
  ·rw [if_neg hp]
   exact (List.getElem?_eq_none (by simp [hxs, hsz]; omega)).symm
 ·have hF : ∀ k, (B <= k /\ k ≠ g) -> (B <= k /\ (Value.slice (some ⟨g, 0, none⟩) (pre.length + 1) cap).ownBlock ≠ some k) := fun k hk => ⟨hk.1, fun e => by simp [Value.ownBlock] at e; omega⟩
  by_cases hip : i < pre.length
  ·have he := h.els i (by simp; omega)
   rw [List.getElem_append_left hip] at he ⊢
   refine (he.congr fun q hq => ?_).mod hm (fun k hk e => hk.2 (by have e' : k = g := e; rw [e']; rfl)) (fun _ h => h)
   have := Nat.mul_le_mul_right 5 (show i + 1 <= pre.length by omega)
   show (xs ++ cs.toList).getD _ _ = (xs ++ z0).getD _ _
   rw [List.getD_eq_getElem?_getD, List.getD_eq_getElem?_getD, List.getElem?_append_left (by omega), List.getElem?_append_left (by omega)]
  ·have hie : i = pre.length := by simp at hi; omega
   subst hie
   rw [show (pre ++ [t])[pre.length] = t by simp]
   refine (ht.congr fun q hq => ?_).mod hm (fun k hk e => hk.2 e) hF
   show (xs ++ cs.toList).getD _ _ = _
   rw [List.getD_eq_getElem?_getD, List.getElem?_append_right (by omega), hxs, show pre.length * 5 + q - pre.length * 5 = q by omega]
   simp [from', Array.getD_eq_getD_getElem?]
/-- an element of a list of structs -/
theorem cur_row {σe : St} {Fs : Nat -> Prop} {w0 W : World} {kb cap sz t3 p : Nat} {C3 : Array Value} {f : Nat -> Nat -> Value} {l vs : List Tr} {u : Tags} (hC3 : w0.heap[kb]? = some (.cells C3 t3 (0, 0))) (hC3s : C3.size = cap * sz) (hlc : l.length <= cap) (hpl : p < l.length) (hse : σe.sz = sz) (hok : (Ty.struct σe.lay σe.tg σe.sz).ok = true)
  (hC3f : ∀ i, i < l.length -> ∀ j, j < sz -> C3[i * sz + j]? = some (f i j)) (hrep : Rep w0 Fs (.struct σe.lay σe.tg σe.sz) (f p) (.part vs u)) (hm : Mod none' w0 W) : Cur σe Fs kb (0 + p * sz) (vs, u) W := by
 have h1 : Rep w0 Fs (.struct σe.lay σe.tg σe.sz) (from' C3 (0 + p * sz)) (.part vs u) := Rep.congr _ _ _ _ hok (fun j hj => by
  have hj' : j < sz := by rw [<- hse]; exact hj
  have := hC3f p hpl j hj'
  simp only [from', Nat.zero_add, Array.getD_eq_getD_getElem?, this, Option.getD_some]) hrep
 have h2 := Rep.mod hm (fun _ _ f => f) (fun _ h => h) _ _ _ h1
 simp only [Rep] at h2
 obtain ⟨vs', u', g1, g2, g3⟩ := h2
 simp only [Tr.part, Tr.mk.injEq, true_and] at g3
 obtain ⟨rfl, rfl⟩ := g3
 have hle : 0 + p * sz + σe.sz <= C3.size := by
  rw [hC3s, hse, Nat.zero_add]
  have := Nat.mul_le_mul_right sz (show p + 1 <= cap by omega)
  rw [Nat.add_mul] at this; omega
 refine ⟨⟨C3, t3, hm.some hC3 (fun f => f), hle, g1, ?_⟩⟩
 cases htg : σe.tg with
 | none => rw [htg] at g2; exact g2
 | some o => rw [htg] at g2; exact g2
end Go.Proofs.YtmehfgiadapekaaGreat
