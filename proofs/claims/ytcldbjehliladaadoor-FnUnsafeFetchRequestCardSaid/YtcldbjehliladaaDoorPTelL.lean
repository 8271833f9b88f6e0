/-
  Telling a list: a bool that is drawn; the list's own memory. No program in it.
-/
import Derived.Test.YtcldbjehliladaaDoorPTelT
set_option linter.unusedSimpArgs false
set_option linter.unusedVariables false
namespace Go.Proofs.YtcldbjehliladaaDoor
open Go Go.RowKit
section
variable {P : Program} {Q : Exit -> Act -> World -> Prop} {id T d0 d1 : Nat} {y0 y1 y2 y3 : TypeId} {p0 p1 p2 p3 : String} {dp : Departure}
theorem wpAny_one {ops : Array Oper} {fuel i : Nat} {listed : Array Bool} {a : Act} {w : World} (h : Region.ready .any ops listed = [i]) (hk : wpOp P ops Q i (wpAny P .any ops Q fuel (listed.setIfInBounds i true)) a w) : wpAny P .any ops Q (fuel + 1) listed a w :=
 ⟨fun e => (by rw [h] at e; cases e), fun k hk' => by rw [h] at hk'; simp at hk'; subst hk'; exact hk⟩
theorem wpAny_two {ops : Array Oper} {fuel i j : Nat} {listed : Array Bool} {a : Act} {w : World} (h : Region.ready .any ops listed = [i, j]) (hi : wpOp P ops Q i (wpAny P .any ops Q fuel (listed.setIfInBounds i true)) a w)
  (hj : wpOp P ops Q j (wpAny P .any ops Q fuel (listed.setIfInBounds j true)) a w) : wpAny P .any ops Q (fuel + 1) listed a w :=
 ⟨fun e => (by rw [h] at e; cases e), fun k hk' => by rw [h] at hk'; simp at hk'; rcases hk' with rfl | rfl; exact hi; exact hj⟩
theorem wpOp_val {ops : Array Oper} {i : Nat} {o : Oper} {v : Value} {a : Act} {w w' : World} {K : Act -> World -> Prop} (ho : ops[i]? = some o) (hg : o.guard = none) (h : (execOp a.eval o).run P w = .ok (.value v) w') (hk : K (a.put o.dst v) w') : wpOp P ops Q i K a w := by
 unfold wpOp
 simp only [ho]
 rw [if_pos (by simp [Region.wanted, hg])]
 exact .inl (Zw h hk)
theorem wpOp_skip {ops : Array Oper} {i : Nat} {o : Oper} {a : Act} {w w' : World} {K : Act -> World -> Prop} (ho : ops[i]? = some o) (hg : o.guard = none) (h : (execOp a.eval o).run P w = .ok .skip w') (hk : K (a.put o.dst undef) w') : wpOp P ops Q i K a w := by
 unfold wpOp
 simp only [ho]
 rw [if_pos (by simp [Region.wanted, hg])]
 exact .inl (owp_skip h hk)
/-- two stores into one new cell, in an order that is drawn: a bool -/
theorem region_coin {a : Act} {w : World} (hm : P.follows .mixedOrders = true) (hz : ∃ z : Value, zeroOf P T = some z /\ z.cells = #[.bool false]) (h1 : one P T = true) (hs : sized P T 1 = true) (hd : d0 < a.tmps.size) (hne : d1 ≠ d0)
  (hQ : ∀ (v : Value) (b : Bool) w', Mod none' w w' -> Q .normal ((a.put (some d0) v).put (some d1) (.bool b)) w') :
  (Code.region id #[⟨some d0, .alloc T, y0, p0, #[], none⟩, ⟨none, .store T (.tmp d0) (.const (.bool true)), y1, p1, #[⟨0, .data⟩, ⟨2, .gcOnly dp⟩], none⟩, ⟨none, .store T (.tmp d0) (.const (.bool false)), y2, p2, #[⟨0, .data⟩, ⟨1, .textOnly dp⟩], none⟩,
   ⟨some d1, .load T (.tmp d0), y3, p3, #[⟨0, .data⟩, ⟨0, .phase⟩, ⟨1, .phase⟩, ⟨2, .phase⟩], none⟩] true).wp P Q a w := by
 refine wp_region_any hm ?_
 obtain ⟨z, hz, hzc⟩ := hz
 show wpAny P .any _ Q (3 + 1) #[false, false, false, false] a w.drew
 refine wpAny_one (i := 0) (by kernel_rfl) (wpOp_val rfl rfl (x_alloc hz) ?_)
 have k1 := Zh w.drew (.cells z.cells T)
 have m1 : Mod none' w (w.drew.alloc (.cells z.cells T)) := ((Mod.refl w).drew).alloc _
 rw [hzc] at k1 m1 ⊢
 obtain ⟨b, hb⟩ : ∃ b, b = w.drew.heap.size := ⟨_, rfl⟩
 have hbw : w.heap.size <= b := by rw [hb]; exact Nat.le_refl _
 rw [<- hb] at k1 ⊢
 generalize w.drew.alloc (.cells #[.bool false] T) = w1 at *
 have gp : ∀ v, Act.get (a.put (some d0) v) d0 = v := fun v => Zq hd
 have st : ∀ (W : World) (x : Bool) (u : Value), W.heap[b]? = some (.cells #[u] T (0, 0)) -> ∃ W', W' = W.setCell ⟨b, 0, none⟩ (.bool x) /\ W'.heap[b]? = some (.cells #[.bool x] T (0, 0)) /\ Mod (only b) W W' := fun W x u h =>
  ⟨_, rfl, by have := heap_setCell_same (o := 0) h (.bool x); simpa using this, (Mod.refl W).put _ _⟩
 have fin : ∀ (W : World) (x : Bool), W.heap[b]? = some (.cells #[.bool x] T (0, 0)) -> Mod none' w W -> wpOp P (#[⟨some d0, .alloc T, y0, p0, #[], none⟩, ⟨none, .store T (.tmp d0) (.const (.bool true)), y1, p1, #[⟨0, .data⟩, ⟨2, .gcOnly dp⟩], none⟩, ⟨none, .store T (.tmp d0) (.const (.bool false)), y2, p2, #[⟨0, .data⟩, ⟨1, .textOnly dp⟩], none⟩,
   ⟨some d1, .load T (.tmp d0), y3, p3, #[⟨0, .data⟩, ⟨0, .phase⟩, ⟨1, .phase⟩, ⟨2, .phase⟩], none⟩] : Array Oper) Q 3 (wpAny P .any (#[⟨some d0, .alloc T, y0, p0, #[], none⟩, ⟨none, .store T (.tmp d0) (.const (.bool true)), y1, p1, #[⟨0, .data⟩, ⟨2, .gcOnly dp⟩], none⟩, ⟨none, .store T (.tmp d0) (.const (.bool false)), y2, p2, #[⟨0, .data⟩, ⟨1, .textOnly dp⟩], none⟩,
   ⟨some d1, .load T (.tmp d0), y3, p3, #[⟨0, .data⟩, ⟨0, .phase⟩, ⟨1, .phase⟩, ⟨2, .phase⟩], none⟩] : Array Oper) Q 0 #[true, true, true, true]) (((a.put (some d0) (.pointer (some ⟨b, 0, none⟩))).put none undef).put none undef) W := fun W x h hm =>
  wpOp_val rfl rfl (Zl h1 (b := b) (o := 0) (v := .bool x) (by rw [Ze, Zo, Zo]; exact gp _) (by rw [Zc h]; rfl)) ⟨by kernel_rfl, hQ _ x W hm⟩
 have step : ∀ (W : World) (u : Value) (x : Bool) (a' : Act), Act.get a' d0 = .pointer (some ⟨b, 0, none⟩) -> W.heap[b]? = some (.cells #[u] T (0, 0)) -> ∀ {d ty p af}, (execOp a'.eval ⟨d, .store T (.tmp d0) (.const (.bool x)), ty, p, af, none⟩).run P W = .ok .skip (W.setCell ⟨b, 0, none⟩ (.bool x)) := fun W u x a' ha h =>
  x_store1 hs (b := b) (o := 0) (v := .bool x) (u := u) ha rfl rfl (by rw [Zc h]; rfl) (Zz h)
 obtain ⟨wt, et, kt, mt⟩ := st w1 true _ k1
 obtain ⟨wf, ef, kf, mf⟩ := st w1 false _ k1
 obtain ⟨wtf, etf, ktf, mtf⟩ := st wt false _ kt
 obtain ⟨wft, eft, kft, mft⟩ := st wf true _ kf
 have nn : ∀ W W', Mod none' w W -> Mod (only b) W W' -> Mod none' w W' := fun W W' h h' => h.trans' h' (fun _ _ f => f) (fun i hi e => by have : i = b := e; omega)
 refine wpAny_two (i := 1) (j := 2) (by kernel_rfl) ?_ ?_
 ·refine wpOp_skip rfl rfl (step w1 _ true _ (gp _) k1) ?_
  rw [<- et]
  refine wpAny_one (i := 2) (by kernel_rfl) (wpOp_skip rfl rfl (step wt _ false _ (gp _) kt) ?_)
  rw [<- etf]
  exact wpAny_one (i := 3) (by kernel_rfl) (fin wtf false ktf (nn _ _ (nn _ _ m1 mt) mtf))
 ·refine wpOp_skip rfl rfl (step w1 _ false _ (gp _) k1) ?_
  rw [<- ef]
  refine wpAny_one (i := 1) (by kernel_rfl) (wpOp_skip rfl rfl (step wf _ true _ (gp _) kf) ?_)
  rw [<- eft]
  exact wpAny_one (i := 3) (by kernel_rfl) (fin wft true kft (nn _ _ (nn _ _ m1 mf) mft))
end
/-- the cells of a list's tree -/
def row5 (nl : Bool) (sv : Value) (q : Nat) : Value := (#[Value.int .i64 0, .slice none 0 0, .bool nl, sv, .slice none 0 0] : Array Value).getD q undef
/-- memory while a list is told: the tree's next part is the list, so far with these parts, in memory of its own at or above B -/
structure LMem (x : TX) (w0 w : World) (ts : List Tr) (uv : Value) (B TI : Nat) (nl : Bool) (sv : Value) (xs : List Value) (pre : List Tr) : Prop where
 mod : Mod none' w0 w
 new : w0.heap.size <= x.tb /\ w0.heap.size <= x.lb /\ w0.heap.size <= x.rb
 ne : x.tb ≠ x.lb /\ x.rb ≠ x.tb /\ x.rb ≠ x.lb
 lt : x.tb < B /\ x.lb < B /\ x.rb < B /\ B <= w.heap.size
 hb : ∃ T, w.heap[x.tb]? = some (.cells #[.int .i64 0, .slice none 0 0, .bool false, .slice (some ⟨x.lb, 0, none⟩) x.n x.n, uv] T (0, 0))
 hl : ∃ D T, w.heap[x.lb]? = some (.cells D T (0, 0)) /\ D.size = x.n * 5 /\ ts.length < x.n /\ (∀ i (h : i < ts.length), TreeR w (fun k => TF x w0 k /\ k < B) (from' D (i * 5)) ts[i]) /\
  (∀ q, q < 5 -> from' D (ts.length * 5) q = row5 nl sv q) /\ ∀ i, ts.length < i -> i < x.n -> ∀ q, q < 5 -> from' D (i * 5) q = zero5 q
 hr : ∃ z T, w.heap[x.rb]? = some (.cells z T (0, 0)) /\ z.size = 5
 own : w.ownsRow B TI 5 sv pre.length xs
 els : ∀ i (h : i < pre.length), TreeR w (fun k => B <= k /\ sv.ownBlock ≠ some k) (fun q => xs.getD (i * 5 + q) undef) pre[i]
 len : pre.length <= 4294967295
theorem LMem.finish {x : TX} {w0 w : World} {ts : List Tr} {uv : Value} {B TI : Nat} {nl : Bool} {sv : Value} {xs : List Value} {pre : List Tr} (h : LMem x w0 w ts uv B TI nl sv xs pre) : TMem x w0 w (ts ++ [.mk 0 [] nl pre []]) uv := by
 obtain ⟨D, T, h1, h2, h3, h4, h5, h6⟩ := h.hl
 have hlt := h.lt
 have hnew := h.new
 have hF : ∀ k, B <= k -> TF x w0 k := fun k hk => ⟨by omega, by omega, by omega, by omega⟩
 refine ⟨h.mod, h.new, h.ne, h.hb, ⟨D, T, h1, h2, by simp; omega, fun j hj => ?_, fun j hj1 hj2 q hq => h6 j (by simp at hj1; omega) hj2 q hq⟩, h.hr⟩
 by_cases hij : j < ts.length
 ·rw [List.getElem_append_left hij]
  exact (h4 j hij).mod (Mod.refl (S := none') w) (fun _ _ f => f) (fun k hk => hk.1)
 ·have hje : j = ts.length := by simp at hj; omega
  subst hje
  rw [show (ts ++ [Tr.mk 0 [] nl pre []])[ts.length] = .mk 0 [] nl pre [] by simp]
  refine .mk (f := fun i q => xs.getD (i * 5 + q) undef) (g := fun _ _ => undef) (h5 0 (by omega)) (fits_zero _) (nil := true) ?_ (h5 2 (by omega)) ⟨h.len, by simp⟩ ?_ (fun i hi => (h.els i hi).mod (Mod.refl (S := none') w) (fun _ _ f => f) (fun k hk => hF k hk.1)) ?_ (fun i hi => by simp at hi)
  ·rw [h5 1 (by omega)]; exact oct_nil
  ·rw [h5 3 (by omega)]; exact Elems.of_owns h.own (fun k hk => hF k (h.own.lt k hk).1)
  ·rw [h5 4 (by omega)]; exact elems_nil
/-- the list's memory, turned: a part more -/
theorem LMem.put {x : TX} {w0 w w1 : World} {ts : List Tr} {uv : Value} {B TI : Nat} {nl : Bool} {sv sv' : Value} {xs xs' : List Value} {pre pre' : List Tr} (h : LMem x w0 w ts uv B TI nl sv xs pre) (hm : Mod (fun k => sv.ownBlock = some k) w w1)
  (ho : w1.ownsRow B TI 5 sv' pre'.length xs') (hl : pre'.length <= 4294967295) (he : ∀ i (h : i < pre'.length), TreeR w1 (fun k => B <= k /\ sv'.ownBlock ≠ some k) (fun q => xs'.getD (i * 5 + q) undef) pre'[i]) :
  LMem x w0 (w1.setCell ⟨x.lb, 0 + ts.length * 5 + 3, none⟩ sv') ts uv B TI nl sv' xs' pre' := by
 obtain ⟨D, T, h1, h2, h3, h4, h5, h6⟩ := h.hl
 obtain ⟨T', hb⟩ := h.hb
 obtain ⟨z, Tz, hr, hz⟩ := h.hr
 have hlt := h.lt
 have hnew := h.new
 have hub : ∀ k, sv.ownBlock = some k -> B <= k := fun k hk => (h.own.lt k hk).1
 have hub' : ∀ k, sv'.ownBlock = some k -> B <= k := fun k hk => (ho.lt k hk).1
 have hm3 : Mod (only x.lb) w1 (w1.setCell ⟨x.lb, 0 + ts.length * 5 + 3, none⟩ sv') := (Mod.refl w1).put _ _
 have h1' := hm.some h1 (fun e => by have := hub _ e; omega)
 have hs1 := hm.size
 have hs3 := hm3.size
 have hrow : ts.length * 5 + 5 <= D.size := by rw [h2]; have := Nat.mul_le_mul_right 5 (show ts.length + 1 <= x.n by omega); omega
 have get : ∀ p, (D.setIfInBounds (0 + ts.length * 5 + 3) sv')[p]? = if p = ts.length * 5 + 3 then some sv' else D[p]? := fun p => by
  rw [Array.getElem?_setIfInBounds]
  by_cases hp : p = ts.length * 5 + 3
  ·rw [if_pos (by omega), if_pos hp, if_pos (by omega)]
  ·rw [if_neg (by omega), if_neg hp]
 refine ⟨(h.mod.trans' hm (fun _ _ f => f) (fun j hj e => by have := hub _ e; omega)).trans' hm3 (fun _ _ f => f) (fun j hj e => by have : j = x.lb := e; omega), h.new, h.ne, ⟨hlt.1, hlt.2.1, hlt.2.2.1, by omega⟩,
  ⟨T', hm3.some (hm.some hb (fun e => by have := hub _ e; omega)) (fun e => h.ne.1 e)⟩, ⟨_, T, heap_setCell_same h1' _, by simpa using h2, h3, fun i hi => ?_, fun q hq => ?_, fun i hi1 hi2 q hq => ?_⟩,
  ⟨z, Tz, hm3.some (hm.some hr (fun e => by have := hub _ e; omega)) (fun e => h.ne.2.2 e), hz⟩, ownsRow_mod ho hm3 (fun k hk e => by have := hub' k hk; have e' : k = x.lb := e; omega), fun i hi => (he i hi).mod hm3 (fun k hk e => by have e' : k = x.lb := e; have := hk.1; omega) (fun _ h => h), hl⟩
 ·refine (((h4 i hi).mod hm (fun k hk e => by have := hub _ e; have := hk.2; omega) (fun _ h => h)).congr fun q hq => ?_).mod hm3 (fun k hk e => hk.1.2.2.1 e) (fun _ h => h)
  simp only [from', Array.getD_eq_getD_getElem?]
  rw [get, if_neg (by omega)]
 ·have h5q := h5 q hq
  simp only [from', Array.getD_eq_getD_getElem?] at h5q ⊢
  rw [get]
  by_cases hq3 : q = 3
  ·subst hq3; rw [if_pos rfl]; rfl
  ·rw [if_neg (by omega), h5q]
   rcases (by omega : q = 0 \/ q = 1 \/ q = 2 \/ q = 4) with rfl | rfl | rfl | rfl <;> rfl
 ·rw [<- h6 i hi1 hi2 q hq]
  simp only [from', Array.getD_eq_getD_getElem?]
  rw [get, if_neg (by omega)]
theorem relp_ne {p i : Nat} {Rel : World -> World -> Prop} {w w' : World} (h : (i == p) = false) (hm : Mod none' w w') : RelP p Rel i w w' := by
 unfold RelP; rw [if_neg (by simpa using h)]; exact hm
theorem relp_eq {p : Nat} {Rel : World -> World -> Prop} {w w' : World} (hm : Rel w w') : RelP p Rel p w w' := by
 unfold RelP; rw [if_pos rfl]; exact hm
/-- a list field: where it lies -/
theorem list_at {σ : St} {blk off : Nat} {Fs : Nat -> Prop} {v : SV} {w0 : World} {i o sz : Nat} {ety : Ty} {l : List Tr} (hC : Cur σ Fs blk off v w0) (hat : σ.lay.at i = some (o, .list ety sz)) (hv : v.1[i]? = some (.list l false)) :
  ∃ (C : Array Value) (tC k cap : Nat) (C2 : Array Value) (t2 : Nat) (f : Nat -> Nat -> Value), w0.heap[blk]? = some (.cells C tC (0, 0)) /\ C[off + o]? = some (.slice (some ⟨k, 0, none⟩) l.length cap) /\ w0.heap[k]? = some (.cells C2 t2 (0, 0)) /\ l.length <= 4294967295 /\ l.length <= cap /\ C2.size = cap * sz /\
   (∀ i, i < l.length -> ∀ j, j < sz -> C2[i * sz + j]? = some (f i j)) /\ ∀ i (h : i < l.length), Rep w0 Fs ety (f i) l[i] := by
 obtain ⟨C, tC, hC1, hC2, hC3, _⟩ := hC.mem
 obtain ⟨u, hu, hrep⟩ := RepL.get _ _ _ _ _ _ hat hC3
 rw [hv] at hu
 obtain rfl := Option.some.inj hu
 simp only [Rep] at hrep
 rcases hrep with ⟨_, h⟩ | ⟨l', f, ⟨k, cap, C2, t2, g1, g2, g3, g4, g5, g6, g7⟩, hb, h2, h3⟩
 ·simp [Tr.list, Tr.nul] at h
 ·obtain rfl : l = l' := by simpa [Tr.list] using h3
  refine ⟨C, tC, k, cap, C2, t2, f, hC1, ?_, g5, hb, g3, g6, g7, h2⟩
  simp only [from', Nat.add_zero, Array.getD_eq_getD_getElem?] at g2
  cases hc : C[off + o]? with
  | none => rw [hc] at g2; simp [undef] at g2
  | some q => rw [hc] at g2; simp at g2; rw [g2]
/-- code that tells the next element of a list -/
def AppC (P : Program) (N n j dk : Nat) (keep : List Nat) (σ : St) (i TI : Nat) (E : Tr -> Tr) (c : Code) : Prop :=
 ∀ (x : TX) (Fs : Nat -> Prop) (v : SV) (ts : List Tr) (uv : Value) (B : Nat) (nl : Bool) (sv : Value) (xs : List Value) (pre l : List Tr) (a : Act) (w0 w : World), x.n = n -> ts.length = j -> TAmb N x a -> Act.get a dk = .int .i64 ((List.length pre : Nat) : Int) -> Cur σ Fs x.blk x.off v w0 -> v.1[i]? = some (.list l false) -> (h : List.length pre < List.length l) -> LMem x w0 w ts uv B TI nl sv xs pre ->
  c.wp P (fun e a' w' => e = .normal /\ TAmb N x a' /\ (∀ t ∈ keep, Act.get a' t = Act.get a t) /\ ∃ sv' xs', LMem x w0 w' ts uv B TI nl sv' xs' (pre ++ [E (l[List.length pre]'h)])) a w
theorem owns_slice {w : World} {B e sz : Nat} {v : Value} {n : Nat} {xs : List Value} (h : w.ownsRow B e sz v n xs) : ∃ ao cap, v = .slice ao n cap := by
 rcases h.2 with ⟨rfl, rfl⟩ | ⟨g, cap, cur, rfl, _⟩
 ·exact ⟨_, _, rfl⟩
 ·exact ⟨_, _, rfl⟩
/-- the last part of the list is set -/
theorem LMem.last {x : TX} {w0 w : World} {ts : List Tr} {uv : Value} {B TI g cap : Nat} {nl : Bool} {xs z0 : List Value} {pre : List Tr} {t0 t : Tr} {cs : Array Value} (h : LMem x w0 w ts uv B TI nl (.slice (some ⟨g, 0, none⟩) (pre.length + 1) cap) (xs ++ z0) (pre ++ [t0])) (hxs : xs.length = pre.length * 5)
  (hsz : cs.size = 5) (ht : TreeR w (fun k => B <= k /\ k ≠ g) (from' cs 0) t) : LMem x w0 (w.setCells g (0 + pre.length * 5) cs.toList) ts uv B TI nl (.slice (some ⟨g, 0, none⟩) (pre.length + 1) cap) (xs ++ cs.toList) (pre ++ [t]) := by
 have hown := h.own
 have hlt := h.lt
 have hnew := h.new
 obtain ⟨hxl, hcase⟩ := hown
 rcases hcase with ⟨hbad, _⟩ | ⟨g', cap', cur, hv, hb, hg, hnc, hcm, hcs, htake⟩
 ·cases hbad
 obtain ⟨rfl, rfl⟩ : g = g' /\ cap = cap' := by
  simp only [Value.slice.injEq, Option.some.injEq, Addr.mk.injEq] at hv
  exact ⟨hv.1.1, hv.2.2⟩
 simp only [List.length_append, List.length_singleton] at hxl hnc htake
 have hm := mod_setCells g w (0 + pre.length * 5) cs.toList
 obtain ⟨cur', k1, k2, k3, k4⟩ := heap_setCells (w := w) cs.toList (0 + pre.length * 5) cur hg
 simp only [Array.length_toList, hsz] at k3 k4
 have hs := hm.size
 have hcap : (pre.length + 1) * 5 <= cur.size := by rw [hcs]; exact Nat.mul_le_mul_right 5 hnc
 obtain ⟨D, T, h1, h2, h3, h4, h5, h6⟩ := h.hl
 obtain ⟨T', hbb⟩ := h.hb
 obtain ⟨z, Tz, hr, hz⟩ := h.hr
 have ng : ∀ k, k < B -> ¬ only g k := fun k hk e => by have e' : k = g := e; omega
 refine ⟨h.mod.trans' hm (fun _ _ f => f) (fun j hj e => by have e' : j = g := e; omega), h.new, h.ne, ⟨hlt.1, hlt.2.1, hlt.2.2.1, by omega⟩, ⟨T', hm.some hbb (ng _ hlt.1)⟩,
  ⟨D, T, hm.some h1 (ng _ hlt.2.1), h2, h3, fun i hi => (h4 i hi).mod hm (fun k hk => ng k hk.2) (fun _ h => h), h5, h6⟩, ⟨z, Tz, hm.some hr (ng _ hlt.2.2.1), hz⟩,
  ⟨by simp [hxs, hsz]; omega, .inr ⟨g, cap, cur', by simp, hb, k1, by simpa using hnc, hcm, k2.trans hcs, ?_⟩⟩, fun i hi => ?_, by have := h.len; simpa using this⟩
 ·apply List.ext_getElem?
  intro p
  simp only [List.length_append, List.length_singleton]
  rw [List.getElem?_take]
  by_cases hp : p < (pre.length + 1) * 5
  ·rw [if_pos hp, Array.getElem?_toList]
   by_cases hpp : p < pre.length * 5
   ·rw [k4 p (by omega), List.getElem?_append_left (by omega)]
    have e := congrArg (fun q => q[p]?) htake
    change (cur.toList.take ((pre.length + 1) * 5))[p]? = (xs ++ z0)[p]? at e
    rw [List.getElem?_take, if_pos hp, Array.getElem?_toList, List.getElem?_append_left (by omega)] at e
    exact e
   ·have e := k3 (p - pre.length * 5) (by omega) (by omega)
    rw [show 0 + pre.length * 5 + (p - pre.length * 5) = p by omega] at e
    rw [e, List.getElem?_append_right (by omega), hxs]
    exact (List.getElem?_eq_getElem (by simp [hsz]; omega)).symm
  ·rw [if_neg hp]
   exact (List.getElem?_eq_none (by simp [hxs, hsz]; omega)).symm
 ·have hF : ∀ k, (B <= k /\ k ≠ g) -> (B <= k /\ (Value.slice (some ⟨g, 0, none⟩) (pre.length + 1) cap).ownBlock ≠ some k) := fun k hk => ⟨hk.1, fun e => by simp [Value.ownBlock] at e; omega⟩
  by_cases hip : i < pre.length
  ·have he := h.els i (by simp; omega)
   rw [List.getElem_append_left hip] at he ⊢
   refine (he.congr fun q hq => ?_).mod hm (fun k hk e => hk.2 (by have e' : k = g := e; rw [e']; rfl)) (fun _ h => h)
   have := Nat.mul_le_mul_right 5 (show i + 1 <= pre.length by omega)
   show (xs ++ cs.toList).getD _ _ = (xs ++ z0).getD _ _
   rw [List.getD_eq_getElem?_getD, List.getD_eq_getElem?_getD, List.getElem?_append_left (by omega), List.getElem?_append_left (by omega)]
  ·have hie : i = pre.length := by simp at hi; omega
   subst hie
   rw [show (pre ++ [t])[pre.length] = t by simp]
   refine (ht.congr fun q hq => ?_).mod hm (fun k hk e => hk.2 e) hF
   show (xs ++ cs.toList).getD _ _ = _
   rw [List.getD_eq_getElem?_getD, List.getElem?_append_right (by omega), hxs, show pre.length * 5 + q - pre.length * 5 = q by omega]
   simp [from', Array.getD_eq_getD_getElem?]
/-- an element of a list of structs -/
theorem cur_row {σe : St} {Fs : Nat -> Prop} {w0 W : World} {kb cap sz t3 p : Nat} {C3 : Array Value} {f : Nat -> Nat -> Value} {l vs : List Tr} {u : Tags} (hC3 : w0.heap[kb]? = some (.cells C3 t3 (0, 0))) (hC3s : C3.size = cap * sz) (hlc : l.length <= cap) (hpl : p < l.length) (hse : σe.sz = sz) (hok : (Ty.struct σe.lay σe.tg σe.sz).ok = true)
  (hC3f : ∀ i, i < l.length -> ∀ j, j < sz -> C3[i * sz + j]? = some (f i j)) (hrep : Rep w0 Fs (.struct σe.lay σe.tg σe.sz) (f p) (.part vs u)) (hm : Mod none' w0 W) : Cur σe Fs kb (0 + p * sz) (vs, u) W := by
 have h1 : Rep w0 Fs (.struct σe.lay σe.tg σe.sz) (from' C3 (0 + p * sz)) (.part vs u) := Rep.congr _ _ _ _ hok (fun j hj => by
  have hj' : j < sz := by rw [<- hse]; exact hj
  have := hC3f p hpl j hj'
  simp only [from', Nat.zero_add, Array.getD_eq_getD_getElem?, this, Option.getD_some]) hrep
 have h2 := Rep.mod hm (fun _ _ f => f) (fun _ h => h) _ _ _ h1
 simp only [Rep] at h2
 obtain ⟨vs', u', g1, g2, g3⟩ := h2
 simp only [Tr.part, Tr.mk.injEq, true_and] at g3
 obtain ⟨rfl, rfl⟩ := g3
 have hle : 0 + p * sz + σe.sz <= C3.size := by
  rw [hC3s, hse, Nat.zero_add]
  have := Nat.mul_le_mul_right sz (show p + 1 <= cap by omega)
  rw [Nat.add_mul] at this; omega
 refine ⟨⟨C3, t3, hm.some hC3 (fun f => f), hle, g1, ?_⟩⟩
 cases htg : σe.tg with
 | none => rw [htg] at g2; exact g2
 | some o => rw [htg] at g2; exact g2
end Go.Proofs.YtcldbjehliladaaDoor
