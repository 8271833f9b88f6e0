/-
  Telling the tags that a message keeps; texts that may be none, yes or no, octets. No program in it.
  Texts that may be none, yes or no, octets: what is told of them.
  The rule for a field that a function of its own tells. No program in it.
-/
import Derived.Maps.RangeRun
import Derived.Shelf.GgSortFunc.Whole
import Derived.Shelf.GgSortFunc.Tiny
import Derived.Lib.SortBridge
import Derived.Sort.LotA
import Derived.WalkKit
import Derived.Deep.QuietTactic
import Derived.Deep.MidRow
import Derived.Test.YtcldbjehliladaaDoorChecked
import Derived.Lib.RowBridge
import Derived.Test.YtcldbjehliladaaDoorPSd
import Derived.Test.YtcldbjehliladaaDoorPSame
set_option linter.unusedSimpArgs false
set_option linter.unusedVariables false
namespace Go.Proofs.YtcldbjehliladaaDoor
open Go Go.RowKit
section
variable {P : Program} {ρ : Operand -> Value} {w : World} {d : Option Tmp} {ty : TypeId} {p : String} {af : Array Edge} {g : Option (Nat × Bool)}
/-- a copy of octets -/
theorem x_copy {s x : Operand} {t e : Nat} {v : Value} {bs : List UInt8} {F : Nat -> Prop} {nil : Bool} (hI : elemInfo P t e 1 = true) (hs : ρ s = .slice none 0 0) (hx : ρ x = v) (hv : Oct w F v bs nil) (hl : bs.length <= 4294967295) :
  ∃ v' w', (execOp ρ ⟨d, .call ⟨.builtin .append, #[s, x], #[t, t]⟩, ty, p, af, g⟩).run P w = .ok (.value v') w' /\ Mod none' w w' /\ ∃ nil', Oct w' (fun k => w.heap.size <= k /\ k < w'.heap.size) v' bs nil' := by
 obtain ⟨ao, cap, hvs, hml, hc⟩ := oct_slice hv
 by_cases hb : bs = []
 ·subst hb
  obtain ⟨hu, i, z, hi, hz, h2, h3, h4, h5, h6⟩ := elemInfo_spec hI
  refine ⟨.slice none 0 0, w, ?_, .refl w, true, .inl ⟨gErr, .inl rfl, .inl ⟨rfl, rfl, rfl⟩⟩⟩
  subst hvs
  cases ao <;> simp [execOp, resolve, invoke, builtin, hs, hx, Builtin.append_, run_underlying hu, sizeOf, typeInfo, hi, Builtin.lenOf, Builtin.firstCells, loadCells, loadCellsFrom]
 ·have hpos : 0 < bs.length := List.length_pos_iff.2 hb
  obtain ⟨sb, off, c, tc, fr, rfl, hh, hcc⟩ := hc hpos
  obtain ⟨v', w', hr, ho, hm, hn, _⟩ := x_append (P := P) (ρ := ρ) (w := w) (d := d) (ty := ty) (p := p) (af := af) (g := g) (s := s) (x := x) (base := w.heap.size) (v := .slice none 0 0) (n := 0) (xs := []) (ad := ⟨sb, off, none⟩) (m := bs.length) (c := cap) (news := bs.map fun x => Value.int .u8 x.toNat) hI hs (hx.trans hvs) (World.ownsRow_nil _ _ _ _) (by simp) (fun j u hu => by
   rw [Addr.add_mid, Zc hh]
   simp only [List.getElem?_map, Option.map_eq_some_iff] at hu
   obtain ⟨q, hq, rfl⟩ := hu
   obtain ⟨hj, rfl⟩ := List.getElem?_eq_some_iff.1 hq
   exact hcc j hj) (fun u hu => by obtain ⟨q, _, rfl⟩ := List.mem_map.1 hu; rfl) (by omega) (Nat.le_refl _)
  refine ⟨v', w', hr, hm.mono fun i _ h => by simp [Value.ownBlock] at h, false, ?_⟩
  rcases ho.2 with ⟨h1, h2⟩ | ⟨g', cap', cur, h1, h2, h3, h4, h5, h6, h7⟩
  ·omega
  ·refine .inl ⟨g', .inr ⟨h2, lt_of_block h3⟩, ?_⟩
   rw [Nat.zero_add] at h1 h4 h7
   refine .inr ⟨rfl, 0, cap', cur, e, (0, 0), h1, h4, h5, h3, fun i hi => ?_⟩
   have : (cur.toList.take (bs.length * 1))[i]? = (bs.map fun x => Value.int .u8 x.toNat)[i]? := by rw [h7]; simp
   rw [List.getElem?_take, if_pos (by omega), Array.getElem?_toList] at this
   rw [Nat.zero_add, this]
   simp [hi]
end
/-- these cells are tags told -/
def TagCells (w : World) (G : Nat -> Prop) (u : Tags) (xs : List Value) : Prop := xs.length = u.length * 2 /\ ∀ i (h : i < u.length), xs[i * 2]? = some (.int .u32 (u[i]).1) /\ ∃ v nil, xs[i * 2 + 1]? = some v /\ Oct w G v (u[i]).2 nil
/-- tags told: where they lie -/
def TagsT (w : World) (F : Nat -> Prop) (uv : Value) (u : Tags) : Prop := u.length <= 4294967295 /\ ∃ g : Nat -> Nat -> Value, Elems w F uv u.length 2 g /\ ∀ i (h : i < u.length), g i 0 = .int .u32 (u[i]).1 /\ fits .u32 (u[i]).1 /\ ∃ nil, Oct w F (g i 1) (u[i]).2 nil
theorem TagsT.mod {w w' : World} {F F' S : Nat -> Prop} {uv : Value} {u : Tags} (h : TagsT w F uv u) (hm : Mod S w w') (hs : ∀ k, F k -> ¬ S k) (hf : ∀ k, F k -> F' k) : TagsT w' F' uv u := by
 obtain ⟨h1, g, h2, h3⟩ := h
 exact ⟨h1, g, h2.mod hm hs hf, fun i hi => by obtain ⟨a, b, nil, c⟩ := h3 i hi; exact ⟨a, b, nil, c.mod hm hs hf⟩⟩
theorem Elems.of_owns {w : World} {B e sz n : Nat} {v : Value} {xs : List Value} {F : Nat -> Prop} (h : w.ownsRow B e sz v n xs) (hF : ∀ k, v.ownBlock = some k -> F k) : Elems w F v n sz (fun i j => xs.getD (i * sz + j) undef) := by
 rcases h.2 with ⟨rfl, rfl⟩ | ⟨g, cap, cur, rfl, hb, hg, hnc, hcm, hsz, ht⟩
 ·exact .inl ⟨rfl, rfl⟩
 ·refine .inr ⟨g, 0, cap, cur, e, (0, 0), hF g rfl, rfl, hnc, hcm, hg, fun i hi j hj => ?_⟩
  have hlt : i * sz + j < n * sz := by
   have := Nat.mul_le_mul_right sz (show i + 1 <= n by omega)
   rw [Nat.add_mul] at this
   omega
  have h1 : (cur.toList.take (n * sz))[i * sz + j]? = xs[i * sz + j]? := by rw [ht]
  rw [List.getElem?_take, if_pos hlt, Array.getElem?_toList] at h1
  rw [Nat.zero_add, h1]
  simp [List.getD, List.getElem?_eq_getElem (show i * sz + j < xs.length by rw [h.1]; exact hlt)]
theorem TagCells.told {w : World} {B e : Nat} {uv : Value} {u : Tags} {xs : List Value} {F : Nat -> Prop} (h : w.ownsRow B e 2 uv u.length xs) (hc : TagCells w (fun k => B <= k /\ uv.ownBlock ≠ some k) u xs) (hF : ∀ k, B <= k -> F k) (hb : u.length <= 4294967295) (hk : ∀ p ∈ u, 0 <= p.1 /\ p.1 < 4294967296) : TagsT w F uv u := by
 refine ⟨hb, _, Elems.of_owns h (fun k hk => hF k (h.lt k hk).1), fun i hi => ?_⟩
 obtain ⟨g1, v, nil, g2, g3⟩ := hc.2 i hi
 have := hk u[i] (List.getElem_mem hi)
 refine ⟨?_, ?_, nil, ?_⟩
 ·show xs.getD (i * 2 + 0) undef = _
  simp [List.getD, g1]
 ·simp [fits, IntKind.min, IntKind.max, IntKind.signed, IntKind.bits]; omega
 ·show Oct w F (xs.getD (i * 2 + 1) undef) _ nil
  simp only [List.getD, g2, Option.getD_some]
  exact g3.mod (Mod.refl (S := none') w) (fun _ _ f => f) (fun k hk => hF k hk.1)
section
variable {P : Program} {σ : St} {N n TI TL UL TG yb eb id T k o : Nat} {d0 d1 d2 d3 d4 d5 d6 d7 d8 : Nat} {y0 y1 y2 y3 y4 y5 y6 y7 y8 y9 : TypeId} {p0 p1 p2 p3 p4 p5 p6 p7 p8 p9 : String} {e0 e1 e2 e3 e4 e5 e6 e7 e8 e9 : Array Edge} {i0 i1 i2 : Nat} {ts1 ts2 : Array TypeId}
theorem TMem.tags {x : TX} {w0 w w' : World} {ts : List Tr} {uv uv' : Value} {T : Nat} (h : TMem x w0 w ts uv) (hm : Mod (only x.tb) w w') (hb : w'.heap[x.tb]? = some (.cells #[.int .i64 0, .slice none 0 0, .bool false, .slice (some ⟨x.lb, 0, none⟩) x.n x.n, uv'] T (0, 0))) : TMem x w0 w' ts uv' := by
 obtain ⟨D, TD, h1, h2, h3, h4, h5⟩ := h.hl
 obtain ⟨z, Tz, hr, hz⟩ := h.hr
 have hn := h.new
 have hne := h.ne
 exact ⟨h.mod.trans' hm (fun _ _ f => f) (fun j hj e => by have : j = x.tb := e; omega), h.new, h.ne, ⟨T, hb⟩, ⟨D, TD, hm.some h1 (fun e => hne.1 (Eq.symm e)), h2, h3, fun i hi => (h4 i hi).mod hm (fun k hk e => hk.2.1 e) (fun _ h => h), h5⟩, ⟨z, Tz, hm.some hr (fun e => hne.2.1 e), hz⟩⟩
end
end Go.Proofs.YtcldbjehliladaaDoor
set_option linter.unusedSimpArgs false
set_option linter.unusedVariables false
namespace Go.Proofs.YtcldbjehliladaaDoor
open Go Go.RowKit
def isSlice (P : Program) (t : TypeId) : Bool := match P.underlying t with
 | some (.slice _) => true
 | _ => false
section
variable {P : Program} {ρ : Operand -> Value} {w : World} {d : Option Tmp} {ty : TypeId} {p : String} {af : Array Edge} {g : Option (Nat × Bool)}
theorem x_eqlSlice {x : Operand} {t u : TypeId} {m : Option Addr} {n c : Nat} (ht : isSlice P t = true) (hρ : ∀ v, ρ (.const v) = v) (hx : ρ x = .slice m n c) : (execOp ρ ⟨d, .binOp .eql t x (.const (.slice none 0 0)) u, ty, p, af, g⟩).run P w = .ok (.value (.bool m.isNone)) w := by
 obtain ⟨e, hu⟩ : ∃ e, P.underlying t = some (.slice e) := by
  unfold isSlice at ht
  cases hu : P.underlying t with
  | none => simp [hu] at ht
  | some ds => cases ds <;> simp_all
 have he : (Op.equal t (.slice m n c) (.slice none 0 0)).run P w = .ok m.isNone w := by
  show (Op.equalIn (9999 + 1) t (.slice m n c) (.slice none 0 0)).run P w = _
  rw [Op.equalIn]
  simp only [Sem.run_bind, run_underlying hu, Result.andThen_ok]
  cases m <;> rfl
 simp [execOp, hx, hρ, eqGuard, binOp, he]
end
theorem tellT : TellT Tryd.prog 26 23 where
 ord := rfl
 f3 := by kernel_rfl
 one := by kernel_rfl
 elem := by kernel_rfl
 size := by kernel_rfl
 many := by kernel_rfl
 zero := by kernel_rfl
 parts := by kernel_rfl
/-- what is told of a field of some kind by a function of its own -/
def LeafC (P : Program) (f : FuncId) (ty : Ty) : Prop := ∀ w F c t, Rep w F ty c t -> Calls P f #[c 0] w fun e w' => ∃ r, e = .returned r /\ Mod none' w w' /\ TreeV w' (From w) r t
theorem put_tree {w : World} {rb : Nat} {z cs : Array Value} {Tz : Nat} (hr : w.heap[rb]? = some (.cells z Tz (0, 0))) (hz : z.size = cs.size) : (w.setCells rb 0 cs.toList).heap[rb]? = some (.cells cs Tz (0, 0)) := by
 obtain ⟨C3, k1, k2, k3, k4⟩ := heap_setCells (w := w) cs.toList 0 _ hr
 have hC3 : C3 = cs := by
  apply Array.ext
  ·omega
  ·intro i h1 h2
   have := k3 i (by simpa using h2) (by omega)
   rw [Nat.zero_add, Array.getElem?_eq_getElem h1] at this
   simpa [h2] using this
 rw [k1, hC3]
/-- a tree is put into the answer's place, and handed over -/
theorem leaf_ret {P : Program} {fn : Func} {TI TL d : Nat} {cs z : Array Value} {Tz rb : Nat} {w0 w : World} {a : Act} {t : Tr} {ops : Array Oper} {Q : Exit -> Act -> World -> Prop} {R : Ending -> World -> Prop} {y : TypeId} {p : String} {e : Array Edge} (hres : fn.results = #[.cell 2 TI]) (hT : TellT P TI TL)
  (h2 : Act.get a 2 = .pointer (some ⟨rb, 0, none⟩)) (hd : Act.get a d = .agg cs) (hc5 : cs.size = 5) (hall : cs.all (·.oneCell') = true) (hr : w.heap[rb]? = some (.cells z Tz (0, 0))) (hz : z.size = 5) (hm : Mod none' w0 w) (hrb : w0.heap.size <= rb)
  (ht : TreeR w (fun k => w0.heap.size <= k /\ k ≠ rb) (from' cs 0) t) (ad : a.defers = []) (hQ : ∀ a w, (bodyPost P fn R .ret a w) -> Q .normal a w)
  (hR : ∀ r w', (∃ r', Ending.returned r = Ending.returned r' /\ Mod none' w0 w' /\ TreeV w' (From w0) r' t) -> R (Ending.returned r) w') :
  wpList P ops Q [⟨none, .store TI (.tmp 2) (.tmp d), y, p, e, none⟩] a w := by
 refine wpl_skip rfl (x_storeN (cs := cs) (b := rb) (o := 0) (by rw [hc5]; exact hT.size) (by rw [Ze]; exact h2) (by rw [Ze]; exact hd) hall ?_) (wpList_nil (hQ _ _ ?_))
 ·intro j hj
  rw [Zc hr, Zz hr, Array.getElem?_eq_getElem (by omega)]
  exact ⟨rfl, rfl⟩
 have k1 := put_tree (cs := cs) hr (by omega)
 have hm2 := mod_setCells rb w 0 cs.toList
 refine bodyPost_ret (results_cellN hres (cs := cs.toList) h2 (by rw [Array.length_toList, hc5]; exact hT.many) (fun j v hv => by rw [Zc k1, Nat.zero_add]; simpa using hv)) ((Zd _ _ _).trans ad) (hR _ _ ⟨_, rfl, hm.trans' hm2 (fun _ _ f => f) (fun j hj e => by have e' : j = rb := e; omega), cs, by simp, hc5, hall, ht.mod hm2 (fun k hk e => hk.2 e) (fun k hk => hk.1)⟩)
theorem leaf_octets {TL : Nat} (hT : TellT Tryd.prog 26 TL) : LeafC Tryd.prog 40 .bytes := by
 intro w F c t hrep
 simp only [Rep] at hrep
 refine calls_of_wp Tryd.func40 rfl ?_
 rw [Tryd.ntmps40]
 refine wp_act (fun a : Act => Act.get a 0 = c 0 /\ a.tmps.size = 8 /\ a.defers = []) ⟨by rw [Zj _ _ _ (by simp)]; rfl, by simp, rfl⟩ ?_
 rintro a ⟨a0, aN, ad⟩
 obtain ⟨rb, hrb⟩ : ∃ rb, rb = w.heap.size := ⟨_, rfl⟩
 refine wp_seq (wp_region_lit (Zv rfl (x_alloc hT.zero) (wpList_nil ?_)))
 have r1 := Zh w (.cells (Value.agg #[.int .i64 0, .slice none 0 0, .bool false, .slice none 0 0, .slice none 0 0]).cells 26)
 have m1 : Mod none' w (w.alloc (.cells (Value.agg #[.int .i64 0, .slice none 0 0, .bool false, .slice none 0 0, .slice none 0 0]).cells 26)) := (Mod.refl w).alloc _
 have s1 : (w.alloc (.cells (Value.agg #[.int .i64 0, .slice none 0 0, .bool false, .slice none 0 0, .slice none 0 0]).cells 26)).heap.size = w.heap.size + 1 := by simp
 generalize w.alloc (.cells (Value.agg #[.int .i64 0, .slice none 0 0, .bool false, .slice none 0 0, .slice none 0 0]).cells 26) = w1 at *
 rw [<- hrb] at r1 s1 ⊢
 replace r1 : w1.heap[rb]? = some (.cells #[.int .i64 0, .slice none 0 0, .bool false, .slice none 0 0, .slice none 0 0] 26 (0, 0)) := r1
 obtain ⟨bs, nil, ho, hbl, rfl⟩ := hrep
 obtain ⟨ao, n, cap, hc, hnil⟩ : ∃ ao n cap, c 0 = .slice ao n cap /\ ao.isNone = nil := by
  rcases ho with ⟨sb, _, h⟩ | ⟨_, ao, cap, h1, h2⟩
  ·rcases h with ⟨h1, h2, h3⟩ | ⟨h1, off, cap, cc, tc, fr, h2, _⟩
   ·exact ⟨_, _, _, h2, by rw [h1]; rfl⟩
   ·exact ⟨_, _, _, h2, by rw [h1]; rfl⟩
  ·exact ⟨_, _, _, h1, h2.symm⟩
 refine wp_seq (wp_region_lit (Zv rfl Zm ?_))
 obtain ⟨v', w2, hrun, m2, nil', ho2⟩ := x_copy (P := Tryd.prog) (ρ := (Act.put (a.put (some 2) (.pointer (some ⟨rb, 0, none⟩))) (some 3) (Act.eval (a.put (some 2) (.pointer (some ⟨rb, 0, none⟩))) (.tmp 0))).eval) (w := w1) (d := some 4) (ty := 22) (p := "fields.go:52") (af := #[⟨0, .data⟩]) (g := none) (s := .const (.slice none 0 0)) (x := .tmp 3) (t := 22) (e := 5) (v := c 0) (bs := bs) (F := F) (nil := nil) (by kernel_rfl) rfl (by simp (disch := first | omega | simp only [Zs]; omega) only [Zo, Ze, Zn, Zq, a0]) (ho.mod m1 (fun _ _ f => f) (fun _ h => h)) hbl
 refine Zv rfl hrun (Zv rfl Zm (Zv rfl (x_eqlSlice (m := ao) (n := n) (c := cap) (by kernel_rfl) (fun _ => rfl) ?_) (Zv rfl (x_build (cells := #[.int .i64 0, v', .bool nil, .slice none 0 0, .slice none 0 0]) ?_) ?_)))
 ·simp (disch := first | omega | simp only [Zs]; omega) only [Zo, Ze, Zn, Zq, a0, hc]
 ·have e4 : ∀ a : Act, Act.get a 4 = v' -> Act.get a 6 = .bool nil -> Tryd.prog.built 26 ((#[(1, Operand.tmp 4), (2, Operand.tmp 6)] : Array (Nat × Operand)).map fun q => (q.1, a.eval q.2)).toList = some #[.int .i64 0, v', .bool nil, .slice none 0 0, .slice none 0 0] := fun a h h' => by
   simp only [List.map_toArray, List.map_cons, List.map_nil, Ze, h, h']
   rw [built_of hT.parts]
   have h1 : v'.cells = #[v'] := one_cells (oct_one ho2)
   have h2 : (Value.bool nil).cells = #[.bool nil] := rfl
   have h3 : (Value.agg #[.int .i64 0, .slice none 0 0, .bool false, .slice none 0 0, .slice none 0 0]).cells = #[.int .i64 0, .slice none 0 0, .bool false, .slice none 0 0, .slice none 0 0] := rfl
   simp [Instr.fill, h1, h2, h3]
  refine e4 _ ?_ ?_
  ·simp (disch := first | omega | simp only [Zs]; omega) only [Zo, Ze, Zn, Zq]
  ·simp (disch := first | omega | simp only [Zs]; omega) only [Zo, Ze, Zn, Zq, hnil]
 refine leaf_ret (rb := rb) (w0 := w) (t := .octs bs nil) ?_ hT ?_ (Zq (by simp only [Zs]; omega)) rfl (by have := oct_one ho2; simp only [List.all_toArray, List.all_cons, List.all_nil, this]; rfl) (m2.some r1 (fun f => f)) rfl (m1.trans m2) (by omega) (tree_octs (nil := nil') rfl (ho2.mod (Mod.refl (S := none') w2) (fun _ _ f => f) (fun k hk => ⟨by omega, by omega⟩)) rfl rfl rfl) ?_ (fun _ _ h => wp_ret (by first | exact h | (simp only [Exit.then]; exact h))) (fun r w' h => h)
 ·rfl
 ·simp (disch := first | omega | simp only [Zs]; omega) only [Zo, Ze, Zn, Zq]
 ·simp only [Zd]; exact ad
end Go.Proofs.YtcldbjehliladaaDoor
set_option linter.unusedSimpArgs false
set_option linter.unusedVariables false
namespace Go.Proofs.YtcldbjehliladaaDoor
open Go Go.RowKit
def Ty.leaf : Ty -> Bool
 | .bool => true
 | .pstr => true
 | .bytes => true
 | _ => false
theorem rep_leaf {w : World} {F : Nat -> Prop} {ty : Ty} {c : Nat -> Value} {t : Tr} (h : ty.leaf = true) (hr : Rep w F ty c t) : c 0 ≠ undef := by
 cases ty <;> simp [Ty.leaf] at h
 ·simp only [Rep] at hr; obtain ⟨b, hb, _⟩ := hr; rw [hb]; simp [undef]
 ·simp only [Rep] at hr
  obtain ⟨o, ho, _⟩ := hr
  cases o with
  | none => have e : c 0 = .pointer none := ho; rw [e]; simp [undef]
  | some bs => obtain ⟨k, t, _, e, _⟩ := ho; rw [e]; simp [undef]
 ·simp only [Rep] at hr
  obtain ⟨bs, nil, ho, _⟩ := hr
  obtain ⟨ao, cap, h, _⟩ := oct_slice ho
  rw [h]; simp [undef]
section
variable {P : Program} {σ : St} {N n TI TL T k i o j ys id fL : Nat} {ty : Ty} {d0 d1 d2 d3 d4 d5 d6 d7 d8 : Nat} {ts : Array TypeId} {y0 y1 y2 y3 y4 y5 y6 y7 y8 y9 : TypeId} {p0 p1 p2 p3 p4 p5 p6 p7 p8 p9 : String}
theorem tell_leaf (hT : TellT P TI TL) (hL : LeafC P fL ty) (hbd : bodied P fL = true) (hlf : ty.leaf = true) (ho1 : one P ys = true) (hf : fieldOff P T k = some o) (hat : σ.lay.at i = some (o, ty)) (hok : tellOK N [d0, d1, d2, d3, d4, d5, d6] [d7] = true) (hj : j < n) : TBlk P N n σ
    (Code.region id #[⟨some d0, .fieldAddr TI (.tmp 3) 3, y0, p0, #[], none⟩, ⟨some d1, .load TL (.tmp d0), y1, p1, #[⟨0, .data⟩], none⟩, ⟨some d2, .move (.tmp 0), y2, p2, #[], none⟩, ⟨some d3, .nilCheck (.tmp d2), y3, p3, #[⟨2, .data⟩], none⟩,
      ⟨some d4, .fieldAddr T (.tmp d3) k, y4, p4, #[⟨3, .data⟩], none⟩, ⟨some d5, .load ys (.tmp d4), y5, p5, #[⟨4, .data⟩], none⟩, ⟨some d6, .call ⟨.value (.func fL), #[.tmp d5], ts⟩, y6, p6, #[⟨5, .data⟩], none⟩,
      ⟨some d7, .indexAddr TL (.tmp d1) (.const (.int .i64 (j : Nat))), y7, p7, #[⟨1, .data⟩, ⟨0, .phase⟩, ⟨1, .phase⟩, ⟨2, .phase⟩, ⟨3, .phase⟩, ⟨4, .phase⟩, ⟨5, .phase⟩, ⟨6, .phase⟩], none⟩,
      ⟨none, .store TI (.tmp d7) (.tmp d6), y8, p8, #[⟨7, .data⟩, ⟨6, .data⟩, ⟨6, .chain⟩, ⟨0, .phase⟩, ⟨1, .phase⟩, ⟨2, .phase⟩, ⟨3, .phase⟩, ⟨4, .phase⟩, ⟨5, .phase⟩, ⟨6, .phase⟩], none⟩] true) j (fun v => v.1.getD i Tr.nul) := by
  intro x Fs v tz uv a w0 w hxn hts hA hC hM
  subst hts
  replace hj : tz.length < x.n := by omega
  obtain ⟨hdl, hnd, htl⟩ := tellOK_dl hok
  obtain ⟨C, tC, hC1, hC2, hC3, _⟩ := hC.mem
  obtain ⟨u, hu, hrep⟩ := RepL.get _ _ _ _ _ _ hat hC3
  have hgd : v.1.getD i Tr.nul = u := by simp [List.getD, hu]
  show Code.wp _ _ (fun e a' w' => e = .normal /\ TAmb N x a' /\ TMem x w0 w' (tz ++ [v.1.getD i Tr.nul]) uv) _ _
  rw [hgd]
  obtain ⟨c0, hc0⟩ : ∃ c0, c0 = from' C x.off (o + 0) := ⟨_, rfl⟩
  have hcell : C[x.off + o]? = some c0 := by
    have hnu := rep_leaf hlf hrep
    simp only [<- hc0] at hnu
    simp only [from', Nat.add_zero, Array.getD_eq_getD_getElem?] at hc0
    cases hc : C[x.off + o]? with
    | none => rw [hc] at hc0; exact (hnu hc0).elim
    | some q => rw [hc] at hc0; simp at hc0; rw [hc0]
  have hnew := hM.new
  have hlt : x.tb < w.heap.size /\ x.lb < w.heap.size /\ x.rb < w.heap.size := by
    obtain ⟨T', hb⟩ := hM.hb
    obtain ⟨D, TD, hl, _⟩ := hM.hl
    obtain ⟨z, Tz, hr, _⟩ := hM.hr
    exact ⟨lt_of_block hb, lt_of_block hl, lt_of_block hr⟩
  have hl0 := hM.mod.size
  have hTF : ∀ k, w.heap.size <= k -> TF x w0 k := fun k hk => ⟨by omega, by omega, by omega, by omega⟩
  refine region_rlt (l := [_, _, _, _, _, _, _]) (tl := [_, _]) hT.ord (Mod none') (Mod.refl w).drew (fun _ _ _ h h' => h.trans h') [d0, d1, d2, d3, d4, d5, d6]
    [fun v _ => v = .pointer (some ⟨x.tb, 0 + 3, none⟩), fun v _ => v = .slice (some ⟨x.lb, 0, none⟩) x.n x.n, fun v _ => v = .pointer (some ⟨x.blk, x.off, none⟩), fun v _ => v = .pointer (some ⟨x.blk, x.off, none⟩),
     fun v _ => v = .pointer (some ⟨x.blk, x.off + o, none⟩), fun v _ => v = c0, fun v w' => TreeV w' (TF x w0) v u]
    ?_ (by simp [regFormT]) hnd (fun d hd => by rw [hA.size]; exact (hdl d hd).1) (by simp) (by kernel_rfl) ⟨?_, ?_, ?_, ?_, ?_, ?_, ?_, trivial⟩ ?_
  · intro g hg v1 w1 w2 hv hr
    simp only [List.mem_cons, List.not_mem_nil, or_false] at hg
    rcases hg with rfl | rfl | rfl | rfl | rfl | rfl | rfl
    · exact hv
    · exact hv
    · exact hv
    · exact hv
    · exact hv
    · exact hv
    · exact TreeV.mod hv hr (fun _ _ f => f) (fun _ h => h)
  · intro a1 w1 hr hs hd
    have t3 := (hs.get 3 (fun hm => (hdl 3 hm).2.2.2 rfl)).trans hA.tree
    exact Zw (Za hT.f3 t3) ⟨_, rfl, .refl _, rfl⟩
  · intro a1 w1 hr hs hd
    have e0 : Act.get a1 d0 = .pointer (some ⟨x.tb, 0 + 3, none⟩) := hd ⟨0, .data⟩ (by simp) rfl
    obtain ⟨T', hb⟩ := hM.hb
    exact Zw (Zl hT.one e0 (by rw [Zc (hr.some hb (fun f => f))]; rfl)) ⟨_, rfl, .refl _, rfl⟩
  · intro a1 w1 hr hs hd
    have t0 := (hs.get 0 (fun hm => (hdl 0 hm).2.1 rfl)).trans hA.src
    exact Zw (x_moveV t0) ⟨_, rfl, .refl _, rfl⟩
  · intro a1 w1 hr hs hd
    have e2 : Act.get a1 d2 = .pointer (some ⟨x.blk, x.off, none⟩) := hd ⟨2, .data⟩ (by simp) rfl
    exact Zw (x_nilCheck e2) ⟨_, rfl, .refl _, rfl⟩
  · intro a1 w1 hr hs hd
    have e3 : Act.get a1 d3 = .pointer (some ⟨x.blk, x.off, none⟩) := hd ⟨3, .data⟩ (by simp) rfl
    exact Zw (Za hf e3) ⟨_, rfl, .refl _, rfl⟩
  · intro a1 w1 hr hs hd
    have e4 : Act.get a1 d4 = .pointer (some ⟨x.blk, x.off + o, none⟩) := hd ⟨4, .data⟩ (by simp) rfl
    exact Zw (Zl ho1 e4 (by rw [Zc ((hM.mod.trans hr).some hC1 (fun f => f))]; exact hcell)) ⟨_, rfl, .refl _, rfl⟩
  · intro a1 w1 hr hs hd
    have e5 : Act.get a1 d5 = c0 := hd ⟨5, .data⟩ (by simp) rfl
    refine owp_call (Zy hbd rfl) (R := fun e w' => ∃ r, e = .returned r /\ Mod none' w1 w' /\ TreeV w' (From w1) r u) ?_ ?_
    · have e1 : (#[Operand.tmp d5] : Array Operand).map a1.eval = #[c0] := by simp [Ze, e5]
      rw [e1, hc0]
      exact hL w1 Fs (fun q => from' C x.off (o + q)) u (Rep.mod (hM.mod.trans hr) (fun _ _ f => f) (fun _ h => h) ty _ u hrep)
    · rintro e w2 ⟨r, rfl, hm, ht⟩
      have := hr.size
      exact ⟨r, rfl, r, rfl, hm, ht.mod (Mod.refl (S := none') w2) (fun _ _ f => f) (fun k hk => hTF k (by have hk' : w1.heap.size <= k := hk; omega))⟩
  · intro a1 w1 hr hs hh
    have e1 : Act.get a1 d1 = .slice (some ⟨x.lb, 0, none⟩) x.n x.n := hh 1 (by simp)
    obtain ⟨cs, e7, e8, e9, e10⟩ : TreeV w1 (TF x w0) (Act.get a1 d6) u := hh 6 (by simp)
    have hd7 := htl d7 (by simp)
    have sN : a1.tmps.size = N := hs.size.trans hA.size
    have hM1 := hM.grow hr
    obtain ⟨D, TD, hl, hD1, hD2, hD3⟩ := hM1.hl
    refine Zv rfl (Zx (i := tz.length) (elemSize_of hT.elem) e1 rfl hj) ?_
    refine wpl_skip rfl (x_storeN (cs := cs) (b := x.lb) (o := 0 + tz.length * 5) (by rw [e8]; exact hT.size) ?_ ?_ e9 ?_) (wpList_nil ?_)
    · rw [Ze, Zq (by rw [sN]; exact hd7.1)]
    · rw [Ze, Zn (fun e => hd7.2.2.2.2 (by simp [e]))]
      exact e7
    · intro q hq
      have : tz.length * 5 + 5 <= x.n * 5 := by
        have := Nat.mul_le_mul_right 5 (show tz.length + 1 <= x.n by omega)
        omega
      rw [Zc hl, Zz hl, Array.getElem?_eq_getElem (by omega)]
      exact ⟨rfl, rfl⟩
    · have hAB : TAmb N x a1 := hA.same hs (fun hm => (hdl 0 hm).2.1 rfl) (fun hm => (hdl 2 hm).2.2.1 rfl) (fun hm => (hdl 3 hm).2.2.2 rfl)
      exact ⟨rfl, hAB.put ⟨hd7.2.1, hd7.2.2.1, hd7.2.2.2.1⟩ _, hM1.push hj e8 e10⟩
end
end Go.Proofs.YtcldbjehliladaaDoor
