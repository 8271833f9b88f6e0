/-
  Reading a message as a whole: what stands ahead of its fields, and behind them.
-/
import Derived.Test.YtcldbjehliladaaDoorPRc
set_option linter.unusedSimpArgs false
set_option linter.unusedVariables false
namespace Go.Proofs.YtcldbjehliladaaDoor
open Go Go.RowKit
/-- code that reads what is left, and ends -/
def Whole (P : Program) (Γ : Sl) (σ : St) (c : Code) (f : FT) : Prop :=
 ∀ x F blk off v s a w, Amb Γ x s a w -> Act.get a σ.s = .pointer (some ⟨blk, off, none⟩) -> Cur σ F blk off v w -> Sep x F blk w -> f x.ver x.flex v s ≠ .stuck ->
  c.wp P (fun e a' w' => e = .ret /\ a'.defers = [] /\ Stp x blk off σ.sz w w' /\ match f x.ver x.flex v s with
   | .ok v' s' => Act.get a' Γ.res = endErr x.ev s'.bad /\ Cur σ F blk off v' w'
   | .early => Act.get a' Γ.res = x.ev
   | .stuck => False) a w
/-- 'Default' of a struct -/
def DfC (P : Program) (fd : FuncId) (σ : St) (d : SV -> SV) : Prop := ∀ F blk off v w, Cur σ F blk off v w -> (∀ k, F k -> k ≠ blk) -> Calls P fd #[.pointer (some ⟨blk, off, none⟩)] w fun e w' =>
 (∃ r, e = .returned r) /\ Mod (only blk) w w' /\ Cur σ F blk off (d v) w' /\
  ∀ C t, w.heap[blk]? = some (.cells C t (0, 0)) -> ∃ C', w'.heap[blk]? = some (.cells C' t (0, 0)) /\ C'.size = C.size /\ ∀ j, j < off \/ off + σ.sz <= j -> C'[j]? = C[j]?
section
variable {P : Program} {Γ : Sl} {σ : St} {f g : FT} {id id' : Nat}
 {y1 y2 y3 y4 y5 y6 : TypeId} {p1 p2 p3 p4 p5 p6 : String} {e1 e2 e3 e4 e5 e6 : Array Edge} {ts : Array TypeId}
theorem whole_seq {c1 c2 : Code} (h1 : Blk P Γ σ c1 f) (h2 : Whole P Γ σ c2 g) (hs : (writes c1).contains σ.s = false) : Whole P Γ σ (.seq c1 c2) (fun ver fl v s => (f ver fl v s).then (g ver fl)) := by
 intro x F blk off v s a w hA hp hC hS hns
 have hs' : ¬ σ.s ∈ writes c1 := by simpa using hs
 have hns1 : f x.ver x.flex v s ≠ .stuck := fun e => hns (by simp [e, R.then])
 refine wp_seq (wp_mono (h1 x F blk off v s a w hA hp hC hS hns1) ?_)
 intro e a1 w1 h
 cases e with
 | normal =>
  obtain ⟨v1, s1, e1, hA1, hC1, hsb, hst⟩ := h
  simp only [e1, R.then] at hns ⊢
  refine wp_mono (h2 x F blk off v1 s1 a1 w1 hA1 ((hsb.get _ hs').trans hp) hC1 (hS.later hst.mod.size) hns) ?_
  rintro e a2 w2 ⟨h1, h2, h3, h4⟩
  exact ⟨h1, h2, hst.trans h3, h4⟩
 | ret => exact ⟨rfl, h.2.2.1, h.2.2.2, by simp only [h.1, R.then]; exact h.2.1⟩
 | _ => exact h.elim
theorem whole_end {fc t : Nat} (hc : ∀ {w : World} {rb sb : Nat} {s : RS} {ev : Value}, ErrIs w ev -> Rd w rb sb s -> Calls P fc #[.pointer (some ⟨rb, 0, none⟩)] w fun e w' => e = .returned (endErr ev s.bad) /\ w = w')
  (hb : bodied P fc = true) (hs : (Γ.free t && Γ.free Γ.res) = true) :
  Whole P Γ σ (.seq (.region id #[⟨some t, .call ⟨.value (.func fc), #[.tmp Γ.b], ts⟩, y1, p1, e1, none⟩, ⟨some Γ.res, .assign (.tmp t), y2, p2, e2, none⟩] false) .ret) idF := by
 intro x F blk off v s a w hA hp hC hS _
 simp only [Bool.and_eq_true] at hs
 obtain ⟨s1, s2⟩ := hs
 refine wp_seq (wp_region_lit ?_)
 have e0 : (#[Operand.tmp Γ.b] : Array Operand).map a.eval = #[.pointer (some ⟨x.rb, 0, none⟩)] := by simp [Ze, hA.b]
 refine wpl_call rfl (Zy hb rfl) (by rw [e0]; exact hc hA.err hA.rd) ?_
 rintro e w' ⟨rfl, rfl⟩
 refine ⟨_, rfl, Zv rfl Zi (wpList_nil ?_)⟩
 refine wp_ret ⟨rfl, ((Zd _ _ _).trans ((Zd _ _ _).trans hA.defers)), .refl w, ?_, hC⟩
 rw [Zq (by rw [Zs]; exact hA.lt s2), Ze, Zq (hA.lt s1)]
/-- the same after the defaults have been set -/
def preF (d : SV -> SV) (f : FT) : FT := fun ver fl v s => f ver fl (d v) s
/-- what reading a message does, to a message that refers to nothing yet -/
def ReadC (P : Program) (fid : FuncId) (σ : St) (flexible : Int -> Bool) (ft : FT) : Prop :=
 ∀ vb v ver uns srcv sb bs nil ev w, ErrIs w ev -> vb ≠ gErr -> vb ≠ sb -> sb < w.heap.size -> Cur σ none' vb 0 v w -> v.1[0]? = some (.num ver) -> Src w srcv sb bs nil -> ft ver (flexible ver) v ⟨bs, nil, false⟩ ≠ .stuck ->
  Calls P fid #[.pointer (some ⟨vb, 0, none⟩), srcv, .bool uns] w fun e w' => ∃ r, e = .returned r /\ Mod (only vb) w w' /\ match ft ver (flexible ver) v ⟨bs, nil, false⟩ with
   | .ok v' s' => r = endErr ev s'.bad /\ Cur σ (fun k => k = sb \/ w.heap.size <= k) vb 0 v' w'
   | .early => r = ev
   | .stuck => False
end
def slFlex (N : Nat) : Sl := ⟨N, 7, 8, 2, some 9, 6⟩
/-- the reader's struct as the code builds it -/
structure RdT (P : Program) (TR : Nat) : Prop where
 built : ∀ v : Value, v.cells = #[v] -> P.built TR [(0, v)] = some #[v, .bool false]
 zero : ∃ z, zeroOf P TR = some z /\ z.cells.size = 2
 size : sized P TR 2 = true
theorem src_one {w : World} {v : Value} {sb : Nat} {bs : List UInt8} {nil : Bool} (h : Src w v sb bs nil) : v.cells = #[v] := by
 rcases h with ⟨_, h, _⟩ | ⟨_, off, cap, c, t, fr, h, _⟩ <;> (rw [h]; rfl)
section
variable {P : Program} {ρ : Operand -> Value} {w : World} {d : Option Tmp} {ty : TypeId} {p : String} {af : Array Edge} {g : Option (Nat × Bool)}
theorem x_build {T : TypeId} {parts : Array (Nat × Operand)} {cells : Array Value} (h : P.built T (parts.map fun q => (q.1, ρ q.2)).toList = some cells) :
  (execOp ρ ⟨d, .build T parts, ty, p, af, g⟩).run P w = .ok (.value (.agg cells)) w := by
 simp only [execOp, Sem.run_bind, run_build w T _ cells h, Result.andThen_ok]
 rfl
end
theorem Zj (args : Array Value) (n t : Nat) (h : t < args.size) : Act.get { tmps := args ++ Array.replicate n undef, defers := [] } t = args[t] := by
 simp only [Act.get, Array.getD_eq_getD_getElem?]
 rw [Array.getElem?_append_left h, Array.getElem?_eq_getElem h]
 rfl
section
variable {P : Program} {σ : St} {f : FT} {fn : Func} {fid fd fc TR T : Nat} {i0 i1 i2 i3 i4 i5 i6 i7 : Nat} {m N : Nat} {d : SV -> SV} {rest : Code} {kf : Int}
 {ts1 : Array TypeId} {y00 y10 y11 y20 y21 y22 y23 y30 y31 y32 y33 y34 y40 y50 y51 y52 y60 y70 y71 yg yg' y0 : TypeId}
 {p00 p10 p11 p20 p21 p22 p23 p30 p31 p32 p33 p34 p40 p50 p51 p52 p60 p70 p71 : String} {e00 e10 e11 e20 e21 e22 e23 e30 e31 e32 e33 e34 e40 e50 e51 e52 e60 e70 e71 : Array Edge}
/-- a message whose code asks whether it is flexible -/
theorem read_flex (hf : P.funcs[fid]? = some fn) (hN : fn.ntmps = N) (hres : fn.results = #[.tmp 6]) (hR : RdT P TR) (h16 : one P y0 = true) (hver : fieldOff P T 0 = some 0) (hlay : σ.lay.at 0 = some (0, .int .i16)) (hsz : σ.lay.ok 0 σ.sz = true)
  (hs : σ.s = 10) (hm : 11 <= m) (hmN : m + 13 <= N) (hbd : bodied P fd = true) (hd : DfC P fd σ d) (hd0 : ∀ v n, v.1[0]? = some (.num n) -> (d v).1[0]? = some (.num n))
  (hbody : fn.body = some (.seq (.region i0 #[⟨some 6, .assign (.const .nilIface), y00, p00, e00, none⟩] false)
   (.seq (.region i1 #[⟨some m, .move (.tmp 0), y10, p10, e10, none⟩, ⟨some (m + 1), .call ⟨.value (.func fd), #[.tmp m], ts1⟩, y11, p11, e11, none⟩] false)
   (.seq (.region i2 #[⟨some (m + 2), .move (.tmp 1), y20, p20, e20, none⟩, ⟨some (m + 3), .build TR #[(0, .tmp (m + 2))], y21, p21, e21, none⟩, ⟨some 7, .alloc TR, y22, p22, e22, none⟩, ⟨none, .store TR (.tmp 7) (.tmp (m + 3)), y23, p23, e23, none⟩] false)
   (.seq (.region i3 #[⟨some (m + 4), .move (.tmp 0), y30, p30, e30, none⟩, ⟨some (m + 5), .nilCheck (.tmp (m + 4)), y31, p31, e31, none⟩, ⟨some (m + 6), .fieldAddr T (.tmp (m + 5)) 0, y32, p32, e32, none⟩, ⟨some (m + 7), .load y0 (.tmp (m + 6)), y33, p33, e33, none⟩, ⟨some 8, .assign (.tmp (m + 7)), y34, p34, e34, none⟩] false)
   (.seq (.region i4 #[⟨some (m + 8), .move (.tmp 8), y40, p40, e40, none⟩] false)
   (.seq (.region i5 #[⟨some (m + 9), .move (.tmp 8), y50, p50, e50, none⟩, ⟨some (m + 10), .binOp .geq yg (.tmp (m + 9)) (.const (.int .i16 kf)) yg', y51, p51, e51, none⟩, ⟨some 9, .assign (.tmp (m + 10)), y52, p52, e52, none⟩] false)
   (.seq (.region i6 #[⟨some (m + 11), .move (.tmp 9), y60, p60, e60, none⟩] false)
   (.seq (.region i7 #[⟨some (m + 12), .move (.tmp 0), y70, p70, e70, none⟩, ⟨some 10, .assign (.tmp (m + 12)), y71, p71, e71, none⟩] false) rest)))))))))
  (hrest : Whole P (slFlex N) σ rest f) : ReadC P fid σ (fun ver => decide (kf <= ver)) (preF d f) := by
 show ReadC P fid σ _ (fun ver fl v s => f ver fl (d v) s)
 intro vb v ver uns srcv sb bs nil ev w hE hg hvs hsb hC hv0 hsrc hns0
 have hns : f ver (decide (kf <= ver)) (d v) ⟨bs, nil, false⟩ ≠ .stuck := hns0
 clear hns0
 refine calls_of_wp hf hbody ?_
 rw [hN]
 obtain ⟨aa, haa⟩ : ∃ aa : Act, aa = { tmps := (#[.pointer (some ⟨vb, 0, none⟩), srcv, .bool uns] : Array Value) ++ Array.replicate (N - (#[.pointer (some ⟨vb, 0, none⟩), srcv, .bool uns] : Array Value).size) undef, defers := [] } := ⟨_, rfl⟩
 rw [<- haa]
 have g0 : Act.get aa 0 = .pointer (some ⟨vb, 0, none⟩) := by rw [haa, Zj _ _ _ (by simp)]; rfl
 have g1 : Act.get aa 1 = srcv := by rw [haa, Zj _ _ _ (by simp)]; rfl
 have g2 : Act.get aa 2 = .bool uns := by rw [haa, Zj _ _ _ (by simp)]; rfl
 have gN : aa.tmps.size = N := by rw [haa]; simp; omega
 have gd : aa.defers = [] := by rw [haa]
 clear haa
 refine wp_seq (wp_region_lit (Zv rfl Zi (wpList_nil ?_)))
 refine wp_seq (wp_region_lit (Zv rfl Zm ?_))
 simp (disch := omega) only [Zo, Ze, Zn, g0]
 have hvb : vb < w.heap.size := by obtain ⟨C, t, h, _⟩ := hC.mem; exact lt_of_block h
 refine wpl_call rfl (Zy hbd rfl) (R := fun e w' => (∃ r, e = .returned r) /\ Mod (only vb) w w' /\ Cur σ none' vb 0 (d v) w' /\
  ∀ C t, w.heap[vb]? = some (.cells C t (0, 0)) -> ∃ C', w'.heap[vb]? = some (.cells C' t (0, 0)) /\ C'.size = C.size /\ ∀ j, j < 0 \/ 0 + σ.sz <= j -> C'[j]? = C[j]?) ?_ ?_
 ·have e0 : ∀ a : Act, Act.get a m = .pointer (some ⟨vb, 0, none⟩) -> (#[Operand.tmp m] : Array Operand).map a.eval = #[.pointer (some ⟨vb, 0, none⟩)] := fun a h => by simp [Ze, h]
  rw [e0 _ (Zq (by simp only [Zs]; omega))]
  exact hd none' vb 0 v w hC (fun _ f => f.elim)
 rintro e w1 ⟨⟨r, rfl⟩, hm1, hC1, hout1⟩
 refine ⟨r, rfl, wpList_nil ?_⟩
 refine wp_seq (wp_region_lit (Zv rfl Zm ?_))
 simp (disch := omega) only [Zo, Ze, Zn, g1]
 have hcs := src_one hsrc
 have hl1 : w.heap.size <= w1.heap.size := hm1.size
 refine Zv rfl (x_build (cells := #[srcv, .bool false]) ?_) ?_
 ·simp (disch := (simp only [Zs]; omega)) only [List.map_toArray, List.map_cons, List.map_nil, Ze, Zq]
  exact hR.built srcv hcs
 obtain ⟨z, hz, hzs⟩ := hR.zero
 refine Zv rfl (x_alloc hz) ?_
 obtain ⟨w2, hw2⟩ : ∃ w2, w2 = w1.alloc (.cells z.cells TR) := ⟨_, rfl⟩
 rw [<- hw2]
 have hrb2 : w2.heap[w1.heap.size]? = some (.cells z.cells TR (0, 0)) := by rw [hw2]; exact Zh _ _
 have hm2 : Mod none' w1 w2 := by rw [hw2]; exact (Mod.refl w1).alloc _
 have hs2 : w2.heap.size = w1.heap.size + 1 := by rw [hw2]; simp
 clear hw2
 refine wpl_skip rfl (x_storeN (cs := #[srcv, .bool false]) (b := w1.heap.size) (o := 0) hR.size ?_ ?_ ?_ ?_) (wpList_nil ?_)
 ·simp (disch := (simp only [Zs]; omega)) only [Zo, Ze, Zq]
 ·simp (disch := first | omega | simp only [Zs]; omega) only [Zo, Ze, Zn, Zq]
 ·have : srcv.oneCell' = true := by cases srcv <;> first | rfl | (rcases hsrc with ⟨_, h, _⟩ | ⟨_, off, cap, c, t, fr, h, _⟩ <;> cases h)
  rw [Array.all_eq_true_iff_forall_mem]
  intro q hq
  simp at hq
  rcases hq with rfl | rfl
  ·exact this
  ·rfl
 ·intro j hj
  simp at hj
  rw [Zc hrb2, Zz hrb2, Array.getElem?_eq_getElem (by omega)]
  exact ⟨rfl, rfl⟩
 obtain ⟨C3, k1, k2, k3, k4⟩ := heap_setCells (w := w2) [srcv, .bool false] 0 _ hrb2
 have hC3 : C3 = #[srcv, .bool false] := by
  apply Array.ext
  ·rw [k2, hzs]; rfl
  ·intro i h1 h2
   have hi : i < 2 := by simpa using h2
   have := k3 i (by simpa using hi) (by omega)
   rw [Nat.zero_add, Array.getElem?_eq_getElem h1] at this
   simpa using this
 subst hC3
 obtain ⟨w3, hw3⟩ : ∃ w3, w3 = w2.setCells w1.heap.size 0 [srcv, .bool false] := ⟨_, rfl⟩
 have hm3 : Mod (only w1.heap.size) w2 w3 := by rw [hw3]; exact mod_setCells _ _ _ _
 rw [<- hw3] at k1 ⊢
 clear hw3 k3 k4 hrb2
 have hm13 : Mod none' w1 w3 := hm2.trans' hm3 (fun _ _ f => f) (fun i hi e => by have : i = w1.heap.size := e; omega)
 have hC3 : Cur σ none' vb 0 (d v) w3 := hC1.later hm13 (fun f => f) (fun _ f => f.elim)
 have hm03 : Mod (only vb) w w3 := hm1.trans' hm13 (fun _ _ h => h) (fun _ _ f => f.elim)
 have hl3 : w1.heap.size < w3.heap.size := lt_of_block k1
 refine wp_seq (wp_region_lit (Zv rfl Zm ?_))
 simp (disch := omega) only [Zo, Ze, Zn, g0]
 refine Zv rfl (x_nilCheck (q := ⟨vb, 0, none⟩) ?_) ?_
 ·simp (disch := (simp only [Zs]; omega)) only [Zo, Ze, Zq]
 refine Zv rfl (Za hver (b := vb) (o0 := 0) ?_) ?_
 ·simp (disch := (simp only [Zs]; omega)) only [Zo, Ze, Zq]
 have hvcell : w3.cell? ⟨vb, 0 + 0, none⟩ = some (.int .i16 ver) := by
  obtain ⟨C, t, h1, h2, h3, h4⟩ := hC3.mem
  obtain ⟨u, hu, hrep⟩ := RepL.get _ 0 0 _ _ _ hlay h3
  rw [hd0 v ver hv0] at hu
  obtain rfl : Tr.num ver = u := by simpa using hu
  simp only [Rep] at hrep
  obtain ⟨n, hn, _, hnum⟩ := hrep
  obtain rfl : ver = n := by simpa [Tr.num] using hnum
  rw [Zc h1]
  simp only [from', Nat.add_zero, Array.getD_eq_getD_getElem?] at hn
  cases hc : C[0]? with
  | none => rw [hc] at hn; simp [undef] at hn
  | some q => rw [hc] at hn; simpa using hn
 refine Zv rfl (Zl h16 (b := vb) (o := 0 + 0) ?_ hvcell) ?_
 ·simp (disch := (simp only [Zs]; omega)) only [Zo, Ze, Zq]
 refine Zv rfl Zi (wpList_nil ?_)
 simp (disch := (simp only [Zs]; omega)) only [Zo, Ze, Zq]
 refine wp_seq (wp_region_lit (Zv rfl Zm (wpList_nil ?_)))
 refine wp_seq (wp_region_lit (Zv rfl Zm ?_))
 simp (disch := first | omega | simp only [Zs]; omega) only [Zo, Ze, Zn, Zq]
 refine Zv rfl (x_geq (m := ver) (n := kf) ?_ rfl) ?_
 ·simp (disch := (simp only [Zs]; omega)) only [Zo, Ze, Zq]
 refine Zv rfl Zi (wpList_nil ?_)
 simp (disch := (simp only [Zs]; omega)) only [Zo, Ze, Zq]
 refine wp_seq (wp_region_lit (Zv rfl Zm (wpList_nil ?_)))
 refine wp_seq (wp_region_lit (Zv rfl Zm ?_))
 simp (disch := omega) only [Zo, Ze, Zn, g0]
 refine Zv rfl Zi (wpList_nil ?_)
 simp (disch := (simp only [Zs]; omega)) only [Zo, Ze, Zq]
 have hrd : Rd w3 w1.heap.size sb ⟨bs, nil, false⟩ := by
  refine ⟨hl3, by omega, srcv, TR, k1, (hsrc.mod hm1 (fun e => hvs e.symm)).mod hm13 (fun f => f)⟩
 have hgl : gErr < w.heap.size := World.block_lt_of_cell? _ _ hE.1
 refine wp_mono (hrest ⟨w1.heap.size, sb, ver, decide (kf <= ver), uns, ev⟩ (fun k => (k = sb \/ w.heap.size <= k) /\ k ≠ w1.heap.size) vb 0 (d v) ⟨bs, nil, false⟩ _ w3 ?_ ?_ ?_ ?_ hns) ?_
 ·refine ⟨?_, ?_, ?_, ?_, ?_, ?_, hrd, hE.mod hm03 (fun e => hg e.symm), by show w1.heap.size ≠ gErr; omega⟩
  ·simp only [Zs, slFlex]; exact gN
  ·simp only [Zd]; exact gd
  ·show Act.get _ 7 = _
   simp (disch := first | omega | simp only [Zs]; omega) only [Zo, Ze, Zn, Zq]
  ·show Act.get _ 8 = _
   simp (disch := first | omega | simp only [Zs]; omega) only [Zo, Ze, Zn, Zq]
  ·show Act.get _ 2 = _
   simp (disch := first | omega | simp only [Zs]; omega) only [Zo, Ze, Zn, Zq, g2]
  ·intro q hq
   obtain rfl : 9 = q := by simpa [slFlex] using hq
   simp (disch := first | omega | simp only [Zs]; omega) only [Zo, Ze, Zn, Zq]
 ·rw [hs]
  simp (disch := first | omega | simp only [Zs]; omega) only [Zo, Ze, Zn, Zq]
 ·obtain ⟨C, t, h1, h2, h3, h4⟩ := hC3.mem
  refine ⟨C, t, h1, h2, h3.mod (Mod.refl (S := none') w3) (fun _ f => f.elim) (fun _ f => f.elim), ?_⟩
  cases htg : σ.tg with
  | none => rw [htg] at h4; exact h4
  | some o => rw [htg] at h4; exact TagsR.mod h4 (Mod.refl (S := none') w3) (fun _ f => f.elim) (fun _ f => f.elim)
 ·refine ⟨fun k hk => ⟨hk.2, ?_⟩, fun k hk => ⟨.inr (by omega), by omega⟩, ⟨.inl rfl, by show sb ≠ w1.heap.size; omega⟩, by show sb < w3.heap.size; omega, by show vb ≠ w1.heap.size; omega, hg⟩
  rcases hk.1 with rfl | h
  ·exact fun e => hvs e.symm
  ·omega
 ·rintro e a' w' ⟨rfl, hdf, hst, hout⟩
  have hmod : Mod (only vb) w w' := by
   refine hm03.trans' hst.mod (fun _ _ h => h) (fun i hi h => ?_)
   rcases h with h | h
   ·have : i = w1.heap.size := h
    omega
   ·exact h
  refine bodyPost_ret (results_tmp hres _ P w') hdf ⟨_, rfl, hmod, ?_⟩
  revert hout hns
  cases f ver (decide (kf <= ver)) (d v) ⟨bs, nil, false⟩ with
  | ok v' s' =>
   intro hns hout
   refine ⟨hout.1, ?_⟩
   obtain ⟨C, t, h1, h2, h3, h4⟩ := hout.2.mem
   refine ⟨C, t, h1, h2, h3.mod (Mod.refl (S := none') w') (fun _ _ f => f) (fun _ h => h.1), ?_⟩
   cases htg : σ.tg with
   | none => rw [htg] at h4; exact h4
   | some o => rw [htg] at h4; exact TagsR.mod h4 (Mod.refl (S := none') w') (fun _ _ f => f) (fun _ h => h.1)
  | early => intro _ hout; exact hout
  | stuck => intro hns _; exact (hns rfl).elim
end
end Go.Proofs.YtcldbjehliladaaDoor
