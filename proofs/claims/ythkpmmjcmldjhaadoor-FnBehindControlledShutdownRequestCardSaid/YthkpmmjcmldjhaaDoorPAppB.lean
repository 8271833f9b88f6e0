/-
  More single operations: slices that grow, slices of one element, fresh slices, texts as octets. No program in it.
  Comparisons, choices; regions that draw their order and whose operations yield known values. No program in it.
-/
import Derived.Laws.IdiomStrings
import Derived.Test.YthkpmmjcmldjhaaDoorPTel
import Derived.Test.YthkpmmjcmldjhaaDoorPRegG
set_option linter.unusedSimpArgs false
set_option linter.unusedVariables false
namespace Go.Proofs.YthkpmmjcmldjhaaDoor
open Go Go.RowKit
theorem one_cells {v : Value} (h : v.oneCell' = true) : v.cells = #[v] := by cases v <;> first | rfl | (simp [Value.oneCell'] at h)
/-- a slice type: its elements' type, their cells -/
def elemInfo (P : Program) (t e sz : Nat) : Bool := match P.underlying t, P.info? e with
 | some (.slice e'), some i => e' == e && i.size == sz && decide (i.bytes <= 1024) && decide (0 < sz) && decide (sz <= 1024) && (match i.zero with | some z => z.cells.size == sz | none => false)
 | _, _ => false
theorem elemInfo_spec {P : Program} {t e sz : Nat} (h : elemInfo P t e sz = true) : P.underlying t = some (.slice e) /\ ∃ i z, P.info? e = some i /\ i.zero = some z /\ i.size = sz /\ z.cells.size = sz /\ i.bytes <= 1024 /\ 0 < sz /\ sz <= 1024 := by
 unfold elemInfo at h
 cases hu : P.underlying t with
 | none => simp [hu] at h
 | some ds =>
  cases ds with
  | slice e' =>
   cases hi : P.info? e with
   | none => simp [hu, hi] at h
   | some i =>
    cases hz : i.zero with
    | none => simp [hu, hi, hz] at h
    | some z =>
     simp [hu, hi, hz] at h
     obtain ⟨⟨⟨⟨⟨rfl, h2⟩, h3⟩, h4⟩, h5⟩, h6⟩ := h
     exact ⟨rfl, i, z, rfl, hz, h2, h6, h3, h4, h5⟩
  | _ => simp [hu] at h
theorem elemSize_of {P : Program} {t e sz : Nat} (h : elemInfo P t e sz = true) : elemSize P t = some sz := by
 obtain ⟨hu, i, z, hi, hz, h2, _⟩ := elemInfo_spec h
 simp [elemSize, hu, hi, h2]
theorem Mod.of_grown {w w' : World} {row : Option Nat} (h : w.grownBy w' row) : Mod (fun k => row = Option.some k) w w' :=
 ⟨h.os, h.tape, h.output, h.size, fun k hk hn => h.block k hk (fun e => hn e.symm)⟩
theorem ownsRow_mod {w w' : World} {S : Nat -> Prop} {base : Nat} {e : TypeId} {sz : Nat} {v : Value} {n : Nat} {xs : List Value} (h : w.ownsRow base e sz v n xs) (hm : Mod S w w') (hs : ∀ k, v.ownBlock = some k -> ¬ S k) :
  w'.ownsRow base e sz v n xs := by
 refine ⟨h.1, ?_⟩
 rcases h.2 with hn | ⟨g, cap, cur, rfl, hb, hg, rest⟩
 ·exact .inl hn
 ·exact .inr ⟨g, cap, cur, rfl, hb, hm.some hg (hs g rfl), rest⟩
theorem foldl_set : ∀ (cs : List Value) (k : Nat) (acc : Array Value), ((cs.zipIdx k).foldl (fun (a : Array Value) (p : Value × Nat) => a.setIfInBounds (0 + p.2) p.1) acc).size = acc.size /\
  ∀ j, j < acc.size -> ((cs.zipIdx k).foldl (fun (a : Array Value) (p : Value × Nat) => a.setIfInBounds (0 + p.2) p.1) acc)[j]? = if k <= j /\ j < k + cs.length then cs[j - k]? else acc[j]?
 | [], k, acc => by
  refine ⟨rfl, fun j hj => ?_⟩
  rw [if_neg (by simp)]
  rfl
 | c :: cs, k, acc => by
  have ih := foldl_set cs (k + 1) (acc.setIfInBounds (0 + k) c)
  simp only [List.zipIdx_cons, List.foldl_cons]
  refine ⟨ih.1.trans (by simp), fun j hj => ?_⟩
  rw [ih.2 j (by simpa using hj)]
  by_cases h1 : j = k
  ·subst h1
   rw [if_neg (by omega), if_pos (by simp)]
   simp [hj]
  ·by_cases h2 : k + 1 <= j /\ j < k + 1 + cs.length
   ·rw [if_pos h2, if_pos (by simp; omega), show j - k = (j - (k + 1)) + 1 by omega]
    simp
   ·rw [if_neg h2, if_neg (by simp; omega), Array.getElem?_setIfInBounds_ne (by omega)]
theorem fill_whole {v : Value} {z : Array Value} {sz : Nat} (h1 : v.cells.size = sz) (h2 : z.size = sz) : Instr.fill (fun i => some (i * sz, sz)) z [(0, v)] = some v.cells := by
 have hf := foldl_set v.cells.toList 0 z
 simp only [Instr.fill, Nat.zero_mul]
 rw [if_neg (by simp; omega)]
 congr 1
 have he : (Array.foldl (fun (cs : Array Value) (p : Value × Nat) => cs.setIfInBounds (0 + p.2) p.1) z v.cells.zipIdx) = ((v.cells.toList.zipIdx 0).foldl (fun (a : Array Value) (p : Value × Nat) => a.setIfInBounds (0 + p.2) p.1) z) := by
  rw [<- Array.foldl_toList, Array.toList_zipIdx]
 refine he.trans ?_
 apply Array.ext
 ·rw [hf.1, h1, h2]
 ·intro i hi hj
  have := hf.2 i (by rw [hf.1] at hi; exact hi)
  rw [if_pos (by simpa using hj), Array.getElem?_eq_getElem hi] at this
  simp at this
  simpa [hj] using this
section
variable {P : Program} {ρ : Operand -> Value} {w : World} {d : Option Tmp} {ty : TypeId} {p : String} {af : Array Edge} {g : Option (Nat × Bool)}
theorem x_append {s x : Operand} {t e sz base : Nat} {v : Value} {n : Nat} {xs : List Value} {ad : Addr} {m c : Nat} {news : List Value} (hI : elemInfo P t e sz = true) (hs : ρ s = v) (hx : ρ x = .slice (some ad) m c)
  (hown : w.ownsRow base e sz v n xs) (hl : news.length = m * sz) (hnews : ∀ j u, news[j]? = some u -> w.cell? (ad.add j) = some u) (h1 : ∀ u ∈ news, u.oneCell' = true) (hsm : n + m <= 4294967296) (hbase : base <= w.heap.size) :
  ∃ v' w', (execOp ρ ⟨d, .call ⟨.builtin .append, #[s, x], #[t, t]⟩, ty, p, af, g⟩).run P w = .ok (.value v') w' /\ w'.ownsRow base e sz v' (n + m) (xs ++ news) /\ Mod (fun k => v.ownBlock = some k) w w' /\
   (v' = .slice none 0 0 ↔ v = .slice none 0 0 /\ m = 0) /\ ∀ k, v'.ownBlock = some k -> v.ownBlock = some k \/ w.heap.size <= k := by
 obtain ⟨hu, i, z, hi, hz, h2, h3, h4, h5, h6⟩ := elemInfo_spec hI
 have h63 : n + m <= maxLen := by simp only [maxLen]; omega
 have hby : (n + m) * i.bytes <= 140737488355328 := Nat.le_trans (Nat.mul_le_mul hsm h4) (by omega)
 obtain ⟨v', w', hr, k1, k2, k3⟩ := run_append_own (P := P) w base t ty e i z sz i.bytes hu hi hz h2 rfl h3 h5 v n xs hown ad m c news hl hnews h1 h63 hby hbase
 refine ⟨v', w', ?_, k1, Mod.of_grown k2, k3, ?_⟩
 ·simp [execOp, resolve, invoke, builtin, hs, hx, hr]
 ·intro k hk
  rcases hown.2 with ⟨rfl, rfl⟩ | ⟨g, cap, cur, rfl, hb, hg, hnc, hcm, hsz, htake⟩
  ·have hxs : xs = [] := List.eq_nil_of_length_eq_zero (by simpa using hown.1)
   subst hxs
   obtain ⟨v2, w2, hr2, q1, q2, q3⟩ := run_append_own (P := P) w w.heap.size t ty e i z sz i.bytes hu hi hz h2 rfl h3 h5 _ 0 [] (World.ownsRow_nil w _ e sz) ad m c news hl hnews h1 h63 hby (Nat.le_refl _)
   rw [hr] at hr2
   obtain ⟨rfl, rfl⟩ : v' = v2 /\ w' = w2 := by simpa using hr2
   exact .inr (q1.lt k hk).1
  ·subst h2
   by_cases hroom : n + m <= cap
   ·have hfit : n * i.size + news.length <= cur.size := by rw [hl, hsz, <- Nat.add_mul]; exact Nat.mul_le_mul_right _ hroom
    have hr2 := run_append_room (P := P) w t ty e i hu hi g n cap cur hg ad m c news hl hnews h1 hroom hfit
    rw [hr] at hr2
    have := (by simpa using hr2 : v' = _ /\ w' = _).1
    subst this
    exact .inl hk
   ·have holds : ∀ j u, xs[j]? = some u -> w.cell? ((⟨g, 0, none⟩ : Addr).add j) = some u := hown.cells (g := g) rfl
    have hr2 := run_append_grow (P := P) w t ty e i z hu hi hz ⟨g, 0, none⟩ n cap xs hown.1 holds ad m c news hl hnews (by omega) (by simp only [maxLen] at h63; omega) (growslice_fits (by omega) hby)
    rw [hr] at hr2
    have := (by simpa using hr2 : v' = _ /\ w' = _).1
    subst this
    simp [Value.ownBlock] at hk
    exact .inr (by omega)
theorem ownsRow_one {w : World} {base : Nat} {e : TypeId} {sz : Nat} {v : Value} {n : Nat} {xs : List Value} (h : w.ownsRow base e sz v n xs) : v.oneCell' = true := by
 rcases h.2 with ⟨rfl, _⟩ | ⟨g, cap, cur, rfl, _⟩ <;> rfl
theorem wpl_append {ops : Array Oper} {rest : List Oper} {a : Act} {Q : Exit -> Act -> World -> Prop} {s x : Operand} {t e sz base : Nat} {v : Value} {n : Nat} {xs : List Value} {ad : Addr} {m c : Nat} {news : List Value} (hI : elemInfo P t e sz = true) (hs : a.eval s = v) (hx : a.eval x = .slice (some ad) m c)
  (hown : w.ownsRow base e sz v n xs) (hl : news.length = m * sz) (hnews : ∀ j u, news[j]? = some u -> w.cell? (ad.add j) = some u) (h1 : ∀ u ∈ news, u.oneCell' = true) (hsm : n + m <= 4294967296) (hbase : base <= w.heap.size)
  (hk : ∀ v' w', w'.ownsRow base e sz v' (n + m) (xs ++ news) -> Mod (fun k => v.ownBlock = some k) w w' -> (v' = .slice none 0 0 ↔ v = .slice none 0 0 /\ m = 0) -> (∀ k, v'.ownBlock = some k -> v.ownBlock = some k \/ w.heap.size <= k) -> wpList P ops Q rest (a.put d v') w') :
  wpList P ops Q (⟨d, .call ⟨.builtin .append, #[s, x], #[t, t]⟩, ty, p, af, none⟩ :: rest) a w := by
 obtain ⟨v', w', hr, k1, k2, k3, k4⟩ := x_append (P := P) (ρ := a.eval) (w := w) (d := d) (ty := ty) (p := p) (af := af) (g := none) hI hs hx hown hl hnews h1 hsm hbase
 exact Zv rfl hr (hk v' w' k1 k2 k3 k4)
theorem x_add {x y : Operand} {t u : TypeId} {k : IntKind} {m n : Int} (hx : ρ x = .int k m) (hy : ρ y = .int k n) : (execOp ρ ⟨d, .binOp .add t x y u, ty, p, af, g⟩).run P w = .ok (.value (.int k (k.wrap (m + n)))) w := by
 simp [execOp, hx, hy, eqGuard, binOp, Op.intArith]
theorem x_buildSlice1 {y : Operand} {t e sz : Nat} {v : Value} (hI : elemInfo P t e sz = true) (hy : ρ y = v) (hv : v.cells.size = sz) :
  (execOp ρ ⟨d, .buildSlice t 1 #[(0, y)], ty, p, af, g⟩).run P w = .ok (.value (.slice (some ⟨w.heap.size, 0, none⟩) 1 1)) (w.alloc (.cells v.cells e)) := by
 obtain ⟨hu, i, z, hi, hz, h2, h3, h4, h5, h6⟩ := elemInfo_spec hI
 have hf : Instr.fill (fun i => some (i * sz, sz)) ((Array.range (1 * sz)).map (z.cells[· % z.cells.size]!)) [(0, v)] = some v.cells := fill_whole hv (by simp)
 rw [Nat.one_mul] at hf
 have hn : ¬ (16777216 < sz) := by omega
 have hn0 : ¬ sz = 0 := by omega
 simp [execOp, hy, Instr.buildSlice, run_underlying hu, sizeOf, typeInfo, zeroValue, hi, hz, h2, hn, hn0, hf, newRow]
end
end Go.Proofs.YthkpmmjcmldjhaaDoor
set_option linter.unusedSimpArgs false
set_option linter.unusedVariables false
namespace Go.Proofs.YthkpmmjcmldjhaaDoor
open Go Go.RowKit
section
variable {P : Program} {ρ : Operand -> Value} {w : World} {d : Option Tmp} {ty : TypeId} {p : String} {af : Array Edge} {g : Option (Nat × Bool)}
theorem x_neqI {x y : Operand} {t u : TypeId} {k : IntKind} {m n : Int} (hx : ρ x = .int k m) (hy : ρ y = .int k n) : (execOp ρ ⟨d, .binOp .neq t x y u, ty, p, af, g⟩).run P w = .ok (.value (.bool (m != n))) w := by
 simp [execOp, hx, hy, eqGuard, binOp, Op.intCmp]
theorem x_eqlI {x y : Operand} {t u : TypeId} {k : IntKind} {m n : Int} (hx : ρ x = .int k m) (hy : ρ y = .int k n) : (execOp ρ ⟨d, .binOp .eql t x y u, ty, p, af, g⟩).run P w = .ok (.value (.bool (m == n))) w := by
 simp [execOp, hx, hy, eqGuard, binOp, Op.intCmp]
theorem x_not {x : Operand} {t : TypeId} {b : Bool} (hx : ρ x = .bool b) : (execOp ρ ⟨d, .unOp .not t x, ty, p, af, g⟩).run P w = .ok (.value (.bool (!b))) w := by
 simp [execOp, hx, Op.unary]
theorem x_pick {x y z : Operand} {b : Bool} (hx : ρ x = .bool b) : (execOp ρ ⟨d, .pick x y z, ty, p, af, g⟩).run P w = .ok (.value (if b then ρ y else ρ z)) w := by
 simp [execOp, hx, asBool]
theorem x_moveV {x : Operand} {v : Value} (h : ρ x = v) : (execOp ρ ⟨d, .move x, ty, p, af, g⟩).run P w = .ok (.value v) w := h ▸ Zm
theorem x_pickF {x y z : Operand} {v : Value} (hx : ρ x = .bool false) (hz : ρ z = v) : (execOp ρ ⟨d, .pick x y z, ty, p, af, g⟩).run P w = .ok (.value v) w := (x_pick hx).trans (by simp [hz])
theorem x_pickT {x y z : Operand} {v : Value} (hx : ρ x = .bool true) (hz : ρ y = v) : (execOp ρ ⟨d, .pick x y z, ty, p, af, g⟩).run P w = .ok (.value v) w := (x_pick hx).trans (by simp [hz])
theorem x_notV {x : Operand} {t : TypeId} {b c : Bool} (hx : ρ x = .bool b) (hc : (!b) = c) : (execOp ρ ⟨d, .unOp .not t x, ty, p, af, g⟩).run P w = .ok (.value (.bool c)) w := hc ▸ x_not hx
theorem x_extract {x : Operand} {vs : Array Value} {i : Nat} {v : Value} (hx : ρ x = .tuple vs) (hi : vs[i]? = some v) : (execOp ρ ⟨d, .extract x i, ty, p, af, g⟩).run P w = .ok (.value v) w := by
 simp [execOp, hx, Instr.extract, hi]
end
section
variable {P : Program} {Q : Exit -> Act -> World -> Prop}
def VStep (P : Program) (dl : List Nat) (vl : List Value) (Q : Exit -> Act -> World -> Prop) (a0 : Act) (w : World) (i : Nat) (o : Oper) : Prop :=
 ∀ a w', Mod none' w w' -> SameBut (fun t => t ∈ dl) a0 a -> (∀ e ∈ o.after, Region.binds .any e = true -> Act.get a (dl.getD e.on 0) = vl.getD e.on undef) ->
  GuardIs dl a o.guard true /\ o.wp P a w' (fun a' w'' => a' = a.put (some (dl.getD i 0)) (vl.getD i undef) /\ Mod none' w' w'') Q
def VList (P : Program) (dl : List Nat) (vl : List Value) (Q : Exit -> Act -> World -> Prop) (a0 : Act) (w : World) : Nat -> List Oper -> Prop
 | _, [] => True
 | i, o :: os => VStep P dl vl Q a0 w i o /\ VList P dl vl Q a0 w (i + 1) os
theorem vl_get (vl : List Value) (i : Nat) (x : Value) (w : World) : ((vl.map fun v => fun (x : Value) (_ : World) => x = v).getD i (fun _ _ => True)) x w ↔ (i < vl.length -> x = vl.getD i undef) := by
 by_cases h : i < vl.length
 ·simp [List.getD, List.getElem?_eq_getElem, h]
 ·simp [List.getD, List.getElem?_eq_none (Nat.le_of_not_lt h), h]
theorem VList.toG {dl : List Nat} {vl : List Value} {a0 : Act} {w : World} (hl : vl.length = dl.length) : ∀ (l : List Oper) (k : Nat), k + l.length <= dl.length -> (∀ o ∈ l, ∀ e ∈ o.after, Region.binds .any e = true -> e.on < dl.length) -> VList P dl vl Q a0 w k l ->
  RGListG P (Mod none') (vl.map fun v => fun (x : Value) (_ : World) => x = v) dl Q a0 w k l
 | [], _, _, _, _ => trivial
 | o :: l, k, hk, he, h => by
  refine ⟨fun a w' hr hs hd => ?_, VList.toG hl l (k + 1) (by simp at hk; omega) (fun o ho => he o (List.mem_cons_of_mem _ ho)) h.2⟩
  obtain ⟨hg, hw⟩ := h.1 a w' hr hs fun e hm hb => (vl_get _ _ _ w').1 (hd e hm hb) (by rw [hl]; exact he o (List.mem_cons_self ..) e hm hb)
  refine .inl ⟨hg, Oper.wp_mono ?_ hw⟩
  rintro a' w'' ⟨h1, h2⟩
  exact ⟨_, h1, h2, (vl_get _ _ _ _).2 fun _ => rfl⟩
theorem region_vals {id : Nat} {l tl : List Oper} {a0 : Act} {w : World} (hm : P.follows .mixedOrders = true) (dl : List Nat) (vl : List Value) (hl : vl.length = dl.length) (hform : regFormG l dl = true) (hnd : dl.Nodup) (hb : ∀ d ∈ dl, d < a0.tmps.size) (htl0 : 0 < tl.length)
  (hchk : (Region.sinkB .any (l ++ tl).toArray l.length && Region.chainB .any (l ++ tl).toArray l.length && Region.seqB .any (l ++ tl).toArray tl.length l.length (headDone l.length tl.length) && regEdges l 0) = true)
  (steps : VList P dl vl Q a0 w 0 l)
  (htail : ∀ a w', Mod none' w w' -> SameBut (fun t => t ∈ dl) a0 a -> (∀ i, i < l.length -> Act.get a (dl.getD i 0) = vl.getD i undef) -> wpList P (l ++ tl).toArray Q tl a w') :
  (Code.region id (l ++ tl).toArray true).wp P Q a0 w := by
 have hlen : l.length = dl.length := by
  simp only [regFormG, beq_iff_eq] at hform
  have := congrArg List.length hform; simpa using this
 have hedge : ∀ o ∈ l, ∀ e ∈ o.after, Region.binds .any e = true -> e.on < dl.length := by
  intro o ho e he hbi
  simp only [Bool.and_eq_true] at hchk
  obtain ⟨i, hi, rfl⟩ := List.getElem_of_mem ho
  have := regEdges_spec l 0 hchk.2 i _ (List.getElem?_eq_getElem hi) e he hbi
  omega
 refine region_rlg hm (Mod none') (Mod.refl w).drew (fun a => .refl a) (fun _ _ _ h h' => h.trans h') dl _ ?_ hform hnd hb htl0 hchk (VList.toG hl l 0 (by omega) hedge steps) ?_
 ·intro g hg v w1 w2 h1 _
  obtain ⟨u, _, rfl⟩ := List.mem_map.1 hg
  exact h1
 ·intro a w' hr hs hh
  exact htail a w' hr hs fun i hi => (vl_get _ _ _ w').1 (hh i hi) (by omega)
theorem wp_act {c : Code} {a : Act} {w : World} (p : Act -> Prop) (hp : p a) (h : ∀ a', p a' -> c.wp P Q a' w) : c.wp P Q a w := h a hp
/-- an operation whose result is known -/
theorem vstep_val {o : Oper} {dl : List Nat} {a : Act} {v : Value} {w' : World} {t : Nat} (hg : GuardIs dl a o.guard true) (ho : o.dst = some t) (h : (execOp a.eval o).run P w' = .ok (.value v) w') :
  GuardIs dl a o.guard true /\ o.wp P a w' (fun a' w'' => a' = a.put (some t) v /\ Mod none' w' w'') Q := by
 refine ⟨hg, Zw h ?_⟩
 rw [ho]
 exact ⟨rfl, .refl _⟩
end
end Go.Proofs.YthkpmmjcmldjhaaDoor
