/-
  impl.sorted leaves tags that stand by rising numbers as they are.
  Telling the tags that a message keeps; texts that may be none, yes or no, octets. No program in it.
  Texts that may be none, yes or no, octets: what is told of them.
  The rule for a field that a function of its own tells. No program in it.
-/
import Derived.Test.YthkpmmjcmldjhaaDoorPEa
import Derived.Test.YthkpmmjcmldjhaaDoorPSame
set_option linter.unusedSimpArgs false
set_option linter.unusedVariables false
namespace Go.Proofs.YthkpmmjcmldjhaaDoor
open Go Go.RowKit
section
variable {P : Program} {Q : Exit -> Act -> World -> Prop}
def VStep2 (P : Program) (dl : List Nat) (vl : List Value) (Q : Exit -> Act -> World -> Prop) (a0 : Act) (w : World) (i : Nat) (o : Oper) : Prop :=
 ∀ a w', Mod none' w w' -> SameBut (fun t => t ∈ dl) a0 a -> (∀ e ∈ o.after, Region.binds .any e = true -> Act.get a (dl.getD e.on 0) = vl.getD e.on undef) ->
  (GuardIs dl a o.guard true /\ o.wp P a w' (fun a' w'' => a' = a.put (some (dl.getD i 0)) (vl.getD i undef) /\ Mod none' w' w'') Q) \/ (GuardIs dl a o.guard false /\ undef = vl.getD i undef)
def VList2 (P : Program) (dl : List Nat) (vl : List Value) (Q : Exit -> Act -> World -> Prop) (a0 : Act) (w : World) : Nat -> List Oper -> Prop
 | _, [] => True
 | i, o :: os => VStep2 P dl vl Q a0 w i o /\ VList2 P dl vl Q a0 w (i + 1) os
theorem VList2.toG {dl : List Nat} {vl : List Value} {a0 : Act} {w : World} (hl : vl.length = dl.length) : ∀ (l : List Oper) (k : Nat), k + l.length <= dl.length -> (∀ o ∈ l, ∀ e ∈ o.after, Region.binds .any e = true -> e.on < dl.length) -> VList2 P dl vl Q a0 w k l ->
  RGListG P (Mod none') (vl.map fun v => fun (x : Value) (_ : World) => x = v) dl Q a0 w k l
 | [], _, _, _, _ => trivial
 | o :: l, k, hk, he, h => by
  refine ⟨fun a w' hr hs hd => ?_, VList2.toG hl l (k + 1) (by simp at hk; omega) (fun o ho => he o (List.mem_cons_of_mem _ ho)) h.2⟩
  rcases h.1 a w' hr hs fun e hm hb => (vl_get _ _ _ w').1 (hd e hm hb) (by rw [hl]; exact he o (List.mem_cons_self ..) e hm hb) with ⟨hg, hw⟩ | ⟨hg, hv⟩
  ·refine .inl ⟨hg, Oper.wp_mono ?_ hw⟩
   rintro a' w'' ⟨h1, h2⟩
   exact ⟨_, h1, h2, (vl_get _ _ _ _).2 fun _ => rfl⟩
  ·exact .inr ⟨hg, (vl_get _ _ _ _).2 fun _ => hv⟩
theorem region_vals2 {id : Nat} {l tl : List Oper} {a0 : Act} {w : World} (hm : P.follows .mixedOrders = true) (dl : List Nat) (vl : List Value) (hl : vl.length = dl.length) (hform : regFormG l dl = true) (hnd : dl.Nodup) (hb : ∀ d ∈ dl, d < a0.tmps.size) (htl0 : 0 < tl.length)
  (hchk : (Region.sinkB .any (l ++ tl).toArray l.length && Region.chainB .any (l ++ tl).toArray l.length && Region.seqB .any (l ++ tl).toArray tl.length l.length (headDone l.length tl.length) && regEdges l 0) = true)
  (steps : VList2 P dl vl Q a0 w 0 l)
  (htail : ∀ a w', Mod none' w w' -> SameBut (fun t => t ∈ dl) a0 a -> (∀ i, i < l.length -> Act.get a (dl.getD i 0) = vl.getD i undef) -> wpList P (l ++ tl).toArray Q tl a w') :
  (Code.region id (l ++ tl).toArray true).wp P Q a0 w := by
 have hlen : l.length = dl.length := by
  simp only [regFormG, beq_iff_eq] at hform
  have := congrArg List.length hform; simpa using this
 have hedge : ∀ o ∈ l, ∀ e ∈ o.after, Region.binds .any e = true -> e.on < dl.length := by
  intro o ho e he hbi
  simp only [Bool.and_eq_true] at hchk
  obtain ⟨i, hi, rfl⟩ := List.getElem_of_mem ho
  have := regEdges_spec l 0 hchk.2 i _ (List.getElem?_eq_getElem hi) e he hbi
  omega
 refine region_rlg hm (Mod none') (Mod.refl w).drew (fun a => .refl a) (fun _ _ _ h h' => h.trans h') dl _ ?_ hform hnd hb htl0 hchk (VList2.toG hl l 0 (by omega) hedge steps) ?_
 ·intro g hg v w1 w2 h1 _
  obtain ⟨u, _, rfl⟩ := List.mem_map.1 hg
  exact h1
 ·intro a w' hr hs hh
  exact htail a w' hr hs fun i hi => (vl_get _ _ _ w').1 (hh i hi) (by omega)
theorem Zt {o : Oper} {dl : List Nat} {a : Act} {v : Value} {w' : World} {t : Nat} {R : Prop} (hg : GuardIs dl a o.guard true) (ho : o.dst = some t) (h : (execOp a.eval o).run P w' = .ok (.value v) w') :
  (GuardIs dl a o.guard true /\ o.wp P a w' (fun a' w'' => a' = a.put (some t) v /\ Mod none' w' w'') Q) \/ R := .inl (vstep_val hg ho h)
end
end Go.Proofs.YthkpmmjcmldjhaaDoor
set_option linter.unusedSimpArgs false
set_option linter.unusedVariables false
namespace Go.Proofs.YthkpmmjcmldjhaaDoor
open Go Go.RowKit
/-- these cells are tags told -/
def TagCells (w : World) (G : Nat -> Prop) (u : Tags) (xs : List Value) : Prop := xs.length = u.length * 2 /\ ∀ i (h : i < u.length), xs[i * 2]? = some (.int .u32 (u[i]).1) /\ ∃ v nil, xs[i * 2 + 1]? = some v /\ Oct w G v (u[i]).2 nil
/-- tags told: where they lie -/
def TagsT (w : World) (F : Nat -> Prop) (uv : Value) (u : Tags) : Prop := u.length <= 4294967295 /\ ∃ g : Nat -> Nat -> Value, Elems w F uv u.length 2 g /\ ∀ i (h : i < u.length), g i 0 = .int .u32 (u[i]).1 /\ fits .u32 (u[i]).1 /\ ∃ nil, Oct w F (g i 1) (u[i]).2 nil
theorem TagsT.mod {w w' : World} {F F' S : Nat -> Prop} {uv : Value} {u : Tags} (h : TagsT w F uv u) (hm : Mod S w w') (hs : ∀ k, F k -> ¬ S k) (hf : ∀ k, F k -> F' k) : TagsT w' F' uv u := by
 obtain ⟨h1, g, h2, h3⟩ := h
 exact ⟨h1, g, h2.mod hm hs hf, fun i hi => by obtain ⟨a, b, nil, c⟩ := h3 i hi; exact ⟨a, b, nil, c.mod hm hs hf⟩⟩
theorem Elems.of_owns {w : World} {B e sz n : Nat} {v : Value} {xs : List Value} {F : Nat -> Prop} (h : w.ownsRow B e sz v n xs) (hF : ∀ k, v.ownBlock = some k -> F k) : Elems w F v n sz (fun i j => xs.getD (i * sz + j) undef) := by
 rcases h.2 with ⟨rfl, rfl⟩ | ⟨g, cap, cur, rfl, hb, hg, hnc, hcm, hsz, ht⟩
 ·exact .inl ⟨rfl, rfl⟩
 ·refine .inr ⟨g, 0, cap, cur, e, (0, 0), hF g rfl, rfl, hnc, hcm, hg, fun i hi j hj => ?_⟩
  have hlt : i * sz + j < n * sz := by
   have := Nat.mul_le_mul_right sz (show i + 1 <= n by omega)
   rw [Nat.add_mul] at this
   omega
  have h1 : (cur.toList.take (n * sz))[i * sz + j]? = xs[i * sz + j]? := by rw [ht]
  rw [List.getElem?_take, if_pos hlt, Array.getElem?_toList] at h1
  rw [Nat.zero_add, h1]
  simp [List.getD, List.getElem?_eq_getElem (show i * sz + j < xs.length by rw [h.1]; exact hlt)]
theorem TagCells.told {w : World} {B e : Nat} {uv : Value} {u : Tags} {xs : List Value} {F : Nat -> Prop} (h : w.ownsRow B e 2 uv u.length xs) (hc : TagCells w (fun k => B <= k /\ uv.ownBlock ≠ some k) u xs) (hF : ∀ k, B <= k -> F k) (hb : u.length <= 4294967295) (hk : ∀ p ∈ u, 0 <= p.1 /\ p.1 < 4294967296) : TagsT w F uv u := by
 refine ⟨hb, _, Elems.of_owns h (fun k hk => hF k (h.lt k hk).1), fun i hi => ?_⟩
 obtain ⟨g1, v, nil, g2, g3⟩ := hc.2 i hi
 have := hk u[i] (List.getElem_mem hi)
 refine ⟨?_, ?_, nil, ?_⟩
 ·show xs.getD (i * 2 + 0) undef = _
  simp [List.getD, g1]
 ·simp [fits, IntKind.min, IntKind.max, IntKind.signed, IntKind.bits]; omega
 ·show Oct w F (xs.getD (i * 2 + 1) undef) _ nil
  simp only [List.getD, g2, Option.getD_some]
  exact g3.mod (Mod.refl (S := none') w) (fun _ _ f => f) (fun k hk => hF k hk.1)
section
variable {P : Program} {σ : St} {N n TI TL UL TG yb eb id T k o : Nat} {d0 d1 d2 d3 d4 d5 d6 d7 d8 : Nat} {y0 y1 y2 y3 y4 y5 y6 y7 y8 y9 : TypeId} {p0 p1 p2 p3 p4 p5 p6 p7 p8 p9 : String} {e0 e1 e2 e3 e4 e5 e6 e7 e8 e9 : Array Edge} {i0 i1 i2 : Nat} {ts1 ts2 : Array TypeId}
theorem TMem.tags {x : TX} {w0 w w' : World} {ts : List Tr} {uv uv' : Value} {T : Nat} (h : TMem x w0 w ts uv) (hm : Mod (only x.tb) w w') (hb : w'.heap[x.tb]? = some (.cells #[.int .i64 0, .slice none 0 0, .bool false, .slice (some ⟨x.lb, 0, none⟩) x.n x.n, uv'] T (0, 0))) : TMem x w0 w' ts uv' := by
 obtain ⟨D, TD, h1, h2, h3, h4, h5⟩ := h.hl
 obtain ⟨z, Tz, hr, hz⟩ := h.hr
 have hn := h.new
 have hne := h.ne
 exact ⟨h.mod.trans' hm (fun _ _ f => f) (fun j hj e => by have : j = x.tb := e; omega), h.new, h.ne, ⟨T, hb⟩, ⟨D, TD, hm.some h1 (fun e => hne.1 (Eq.symm e)), h2, h3, fun i hi => (h4 i hi).mod hm (fun k hk e => hk.2.1 e) (fun _ h => h), h5⟩, ⟨z, Tz, hm.some hr (fun e => hne.2.1 e), hz⟩⟩
end
end Go.Proofs.YthkpmmjcmldjhaaDoor
set_option linter.unusedSimpArgs false
set_option linter.unusedVariables false
namespace Go.Proofs.YthkpmmjcmldjhaaDoor
open Go Go.RowKit
theorem put_tree {w : World} {rb : Nat} {z cs : Array Value} {Tz : Nat} (hr : w.heap[rb]? = some (.cells z Tz (0, 0))) (hz : z.size = cs.size) : (w.setCells rb 0 cs.toList).heap[rb]? = some (.cells cs Tz (0, 0)) := by
 obtain ⟨C3, k1, k2, k3, k4⟩ := heap_setCells (w := w) cs.toList 0 _ hr
 have hC3 : C3 = cs := by
  apply Array.ext
  ·omega
  ·intro i h1 h2
   have := k3 i (by simpa using h2) (by omega)
   rw [Nat.zero_add, Array.getElem?_eq_getElem h1] at this
   simpa [h2] using this
 rw [k1, hC3]
end Go.Proofs.YthkpmmjcmldjhaaDoor
set_option linter.unusedSimpArgs false
set_option linter.unusedVariables false
namespace Go.Proofs.YthkpmmjcmldjhaaDoor
open Go Go.RowKit
def Ty.leaf : Ty -> Bool
 | .bool => true
 | .pstr => true
 | .bytes => true
 | _ => false
end Go.Proofs.YthkpmmjcmldjhaaDoor
