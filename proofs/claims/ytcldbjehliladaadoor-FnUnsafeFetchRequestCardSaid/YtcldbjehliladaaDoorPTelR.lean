/-
  Rules for the code that tells a message's fields. No program in it.
-/
import Derived.Test.YtcldbjehliladaaDoorPAppB
set_option linter.unusedSimpArgs false
set_option linter.unusedVariables false
namespace Go.Proofs.YtcldbjehliladaaDoor
open Go Go.RowKit
/-- the types of a tree and of a list of trees -/
structure TellT (P : Program) (TI TL : Nat) : Prop where
 ord : P.follows .mixedOrders = true
 f3 : fieldOff P TI 3 = some 3
 one : one P TL = true
 elem : elemInfo P TL TI 5 = true
 size : sized P TI 5 = true
 many : many P TI 5 = true
 zero : zeroOf P TI = some (.agg #[.int .i64 0, .slice none 0 0, .bool false, .slice none 0 0, .slice none 0 0])
 parts : structParts P TI = some ([(0, 1), (1, 1), (2, 1), (3, 1), (4, 1)], .agg #[.int .i64 0, .slice none 0 0, .bool false, .slice none 0 0, .slice none 0 0])
/-- the slots of such a region: new ones, all different, none of those that stay -/
def tellOK (N : Nat) (dl : List Nat) (tl : List Nat) : Bool := dl.all (fun d => decide (d < N) && d != 0 && d != 2 && d != 3) && decide dl.Nodup && tl.all (fun d => decide (d < N) && d != 0 && d != 2 && d != 3 && !dl.contains d)
theorem tellOK_dl {N : Nat} {dl tl : List Nat} (h : tellOK N dl tl = true) : (∀ d ∈ dl, d < N /\ d ≠ 0 /\ d ≠ 2 /\ d ≠ 3) /\ dl.Nodup /\ (∀ d ∈ tl, d < N /\ d ≠ 0 /\ d ≠ 2 /\ d ≠ 3 /\ d ∉ dl) := by
 unfold tellOK at h
 simp only [Bool.and_eq_true, List.all_eq_true, decide_eq_true_eq, bne_iff_ne, Bool.not_eq_true'] at h
 obtain ⟨⟨h1, h2⟩, h3⟩ := h
 refine ⟨fun d hd => ?_, h2, fun d hd => ?_⟩
 ·have := h1 d hd
  exact ⟨this.1.1.1, this.1.1.2, this.1.2, this.2⟩
 ·have := h3 d hd
  exact ⟨this.1.1.1.1, this.1.1.1.2, this.1.1.2, this.1.2, by simpa using this.2⟩
/-- octets out of a text: where they lie -/
theorem bytes_oct {w : World} {F : Nat -> Prop} {bs : List UInt8} {e : Nat} (hl : bs.length <= 4294967295) (hF : F w.heap.size) :
  Oct (w.drew.alloc (.cells (bytesRow (str bs) (grownCap w (str bs).size 0 e)) e ((bytesRow (str bs) (grownCap w (str bs).size 0 e)).size, (bytesRow (str bs) (grownCap w (str bs).size 0 e)).size + 1))) F
   (.slice (some ⟨w.heap.size, 0, none⟩) (str bs).size (grownCap w (str bs).size 0 e)) bs false := by
 have h1 := grownCap_ge w (str bs).size 0 e
 have h2 := grownCap_le_maxLen w (str bs).size 0 e (by rw [str_size]; simp only [maxLen]; omega)
 refine .inl ⟨w.heap.size, .inr hF, .inr ⟨rfl, 0, _, _, _, _, by rw [str_size], by rw [<- str_size]; exact h1, h2, Zh w.drew _, fun i hi => ?_⟩⟩
 have hsz : (Array.map (fun b : UInt8 => Value.int .u8 b.toNat) (str bs).data).size = bs.length := by simp [str]
 unfold bytesRow
 rw [Nat.zero_add, Array.getElem?_append_left (by rw [hsz]; exact hi), Array.getElem?_map]
 simp [str, hi]
section
variable {P : Program} {σ : St} {N n TI TL T k i o j ys yb eb id : Nat} {d0 d1 d2 d3 d4 d5 d6 d7 d8 : Nat} {y0 y1 y2 y3 y4 y5 y6 y7 y8 y9 : TypeId} {p0 p1 p2 p3 p4 p5 p6 p7 p8 p9 : String}
/-- a text -/
theorem tell_str (hT : TellT P TI TL) (hs8 : strBytes P ys yb eb = true) (ho1 : one P ys = true) (hf : fieldOff P T k = some o) (hat : σ.lay.at i = some (o, .str)) (hok : tellOK N [d0, d1, d2, d3, d4, d5, d6, d7] [d8] = true) (hj : j < n) : TBlk P N n σ
    (Code.region id #[⟨some d0, .fieldAddr TI (.tmp 3) 3, y0, p0, #[], none⟩, ⟨some d1, .load TL (.tmp d0), y1, p1, #[⟨0, .data⟩], none⟩, ⟨some d2, .move (.tmp 0), y2, p2, #[], none⟩, ⟨some d3, .nilCheck (.tmp d2), y3, p3, #[⟨2, .data⟩], none⟩,
      ⟨some d4, .fieldAddr T (.tmp d3) k, y4, p4, #[⟨3, .data⟩], none⟩, ⟨some d5, .load ys (.tmp d4), y5, p5, #[⟨4, .data⟩], none⟩, ⟨some d6, .convert ys yb (.tmp d5), y6, p6, #[⟨5, .data⟩], none⟩, ⟨some d7, .build TI #[(1, .tmp d6)], y7, p7, #[⟨6, .data⟩], none⟩,
      ⟨some d8, .indexAddr TL (.tmp d1) (.const (.int .i64 (j : Nat))), y8, p8, #[⟨1, .data⟩, ⟨0, .phase⟩, ⟨1, .phase⟩, ⟨2, .phase⟩, ⟨3, .phase⟩, ⟨4, .phase⟩, ⟨5, .phase⟩, ⟨6, .phase⟩, ⟨7, .phase⟩], none⟩,
      ⟨none, .store TI (.tmp d8) (.tmp d7), y9, p9, #[⟨8, .data⟩, ⟨7, .data⟩, ⟨0, .phase⟩, ⟨1, .phase⟩, ⟨2, .phase⟩, ⟨3, .phase⟩, ⟨4, .phase⟩, ⟨5, .phase⟩, ⟨6, .phase⟩, ⟨7, .phase⟩], none⟩] true) j (fun v => v.1.getD i Tr.nul) := by
  intro x Fs v tz uv a w0 w hxn hts hA hC hM
  subst hts
  replace hj : tz.length < x.n := by omega
  obtain ⟨hdl, hnd, htl⟩ := tellOK_dl hok
  obtain ⟨C, tC, hC1, hC2, hC3, _⟩ := hC.mem
  obtain ⟨u, hu, hrep⟩ := RepL.get _ _ _ _ _ _ hat hC3
  simp only [Rep] at hrep
  obtain ⟨bs, hbs, hbl, rfl⟩ := hrep
  have hgd : v.1.getD i Tr.nul = .oct bs := by simp [List.getD, hu]
  show Code.wp _ _ (fun e a' w' => e = .normal /\ TAmb N x a' /\ TMem x w0 w' (tz ++ [v.1.getD i Tr.nul]) uv) _ _
  rw [hgd]
  have hcell : C[x.off + o]? = some (.string (str bs)) := by
    simp only [from', Nat.add_zero, Array.getD_eq_getD_getElem?] at hbs
    cases hc : C[x.off + o]? with
    | none => rw [hc] at hbs; simp [undef] at hbs
    | some q => rw [hc] at hbs; simpa using hbs
  have hnew := hM.new
  have hlt : x.tb < w.heap.size /\ x.lb < w.heap.size /\ x.rb < w.heap.size := by
    obtain ⟨T', hb⟩ := hM.hb
    obtain ⟨D, TD, hl, _⟩ := hM.hl
    obtain ⟨z, Tz, hr, _⟩ := hM.hr
    exact ⟨lt_of_block hb, lt_of_block hl, lt_of_block hr⟩
  have hl0 := hM.mod.size
  have hTF : ∀ k, w.heap.size <= k -> TF x w0 k := fun k hk => ⟨by omega, by omega, by omega, by omega⟩
  refine region_rlt (l := [_, _, _, _, _, _, _, _]) (tl := [_, _]) hT.ord (Mod none') (Mod.refl w).drew (fun _ _ _ h h' => h.trans h') [d0, d1, d2, d3, d4, d5, d6, d7]
    [fun v _ => v = .pointer (some ⟨x.tb, 0 + 3, none⟩), fun v _ => v = .slice (some ⟨x.lb, 0, none⟩) x.n x.n, fun v _ => v = .pointer (some ⟨x.blk, x.off, none⟩), fun v _ => v = .pointer (some ⟨x.blk, x.off, none⟩),
     fun v _ => v = .pointer (some ⟨x.blk, x.off + o, none⟩), fun v _ => v = .string (str bs), fun v w' => Oct w' (TF x w0) v bs false,
     fun v w' => ∃ cs : Array Value, v = .agg cs /\ cs.size = 5 /\ cs.all (·.oneCell') = true /\ TreeR w' (TF x w0) (from' cs 0) (.oct bs)]
    ?_ (by simp [regFormT]) hnd (fun d hd => by rw [hA.size]; exact (hdl d hd).1) (by simp) (by kernel_rfl) ⟨?_, ?_, ?_, ?_, ?_, ?_, ?_, ?_, trivial⟩ ?_
  · intro g hg v1 w1 w2 hv hr
    simp only [List.mem_cons, List.not_mem_nil, or_false] at hg
    rcases hg with rfl | rfl | rfl | rfl | rfl | rfl | rfl | rfl
    · exact hv
    · exact hv
    · exact hv
    · exact hv
    · exact hv
    · exact hv
    · exact Oct.mod hv hr (fun _ _ f => f) (fun _ h => h)
    · obtain ⟨cs, e1, e2, e3, e4⟩ := hv
      exact ⟨cs, e1, e2, e3, e4.mod hr (fun _ _ f => f) (fun _ h => h)⟩
  · intro a1 w1 hr hs hd
    have t3 := (hs.get 3 (fun hm => (hdl 3 hm).2.2.2 rfl)).trans hA.tree
    exact Zw (Za hT.f3 t3) ⟨_, rfl, .refl _, rfl⟩
  · intro a1 w1 hr hs hd
    have e0 : Act.get a1 d0 = .pointer (some ⟨x.tb, 0 + 3, none⟩) := hd ⟨0, .data⟩ (by simp) rfl
    obtain ⟨T', hb⟩ := hM.hb
    exact Zw (Zl hT.one e0 (by rw [Zc (hr.some hb (fun f => f))]; rfl)) ⟨_, rfl, .refl _, rfl⟩
  · intro a1 w1 hr hs hd
    have t0 := (hs.get 0 (fun hm => (hdl 0 hm).2.1 rfl)).trans hA.src
    exact Zw (x_moveV t0) ⟨_, rfl, .refl _, rfl⟩
  · intro a1 w1 hr hs hd
    have e2 : Act.get a1 d2 = .pointer (some ⟨x.blk, x.off, none⟩) := hd ⟨2, .data⟩ (by simp) rfl
    exact Zw (x_nilCheck e2) ⟨_, rfl, .refl _, rfl⟩
  · intro a1 w1 hr hs hd
    have e3 : Act.get a1 d3 = .pointer (some ⟨x.blk, x.off, none⟩) := hd ⟨3, .data⟩ (by simp) rfl
    exact Zw (Za hf e3) ⟨_, rfl, .refl _, rfl⟩
  · intro a1 w1 hr hs hd
    have e4 : Act.get a1 d4 = .pointer (some ⟨x.blk, x.off + o, none⟩) := hd ⟨4, .data⟩ (by simp) rfl
    exact Zw (Zl ho1 e4 (by rw [Zc ((hM.mod.trans hr).some hC1 (fun f => f))]; exact hcell)) ⟨_, rfl, .refl _, rfl⟩
  · intro a1 w1 hr hs hd
    have e5 : Act.get a1 d5 = .string (str bs) := hd ⟨5, .data⟩ (by simp) rfl
    exact Zw (x_strBytes hs8 e5) ⟨_, rfl, (Mod.refl w1).drew.alloc _, bytes_oct hbl (hTF _ hr.size)⟩
  · intro a1 w1 hr hs hd
    have e6 : Oct w1 (TF x w0) (Act.get a1 d6) bs false := hd ⟨6, .data⟩ (by simp) rfl
    have hone := oct_one e6
    have hc6 := one_cells hone
    refine Zw (x_build (cells := #[.int .i64 0, Act.get a1 d6, .bool false, .slice none 0 0, .slice none 0 0]) ?_) ⟨_, rfl, .refl _, _, rfl, rfl, ?_, ?_⟩
    · simp only [List.map_toArray, List.map_cons, List.map_nil, Ze]
      rw [built_of hT.parts]
      show Instr.fill _ #[.int .i64 0, .slice none 0 0, .bool false, .slice none 0 0, .slice none 0 0] [(1, Act.get a1 d6)] = _
      simp [Instr.fill, hc6]
    · simp [hone, Value.oneCell']
      exact hone
    · exact tree_octs rfl e6 rfl rfl rfl
  · intro a1 w1 hr hs hh
    have e1 : Act.get a1 d1 = .slice (some ⟨x.lb, 0, none⟩) x.n x.n := hh 1 (by simp)
    obtain ⟨cs, e7, e8, e9, e10⟩ : ∃ cs : Array Value, Act.get a1 d7 = .agg cs /\ cs.size = 5 /\ cs.all (·.oneCell') = true /\ TreeR w1 (TF x w0) (from' cs 0) (.oct bs) := hh 7 (by simp)
    have hd8 := htl d8 (by simp)
    have sN : a1.tmps.size = N := hs.size.trans hA.size
    have hM1 := hM.grow hr
    obtain ⟨D, TD, hl, hD1, hD2, hD3⟩ := hM1.hl
    refine Zv rfl (Zx (i := tz.length) (elemSize_of hT.elem) e1 rfl hj) ?_
    refine wpl_skip rfl (x_storeN (cs := cs) (b := x.lb) (o := 0 + tz.length * 5) (by rw [e8]; exact hT.size) ?_ ?_ e9 ?_) (wpList_nil ?_)
    · rw [Ze, Zq (by rw [sN]; exact hd8.1)]
    · rw [Ze, Zn (fun e => hd8.2.2.2.2 (by simp [e]))]
      exact e7
    · intro q hq
      have : tz.length * 5 + 5 <= x.n * 5 := by
        have := Nat.mul_le_mul_right 5 (show tz.length + 1 <= x.n by omega)
        omega
      rw [Zc hl, Zz hl, Array.getElem?_eq_getElem (by omega)]
      exact ⟨rfl, rfl⟩
    · have hAB : TAmb N x a1 := hA.same hs (fun hm => (hdl 0 hm).2.1 rfl) (fun hm => (hdl 2 hm).2.2.1 rfl) (fun hm => (hdl 3 hm).2.2.2 rfl)
      exact ⟨rfl, hAB.put ⟨hd8.2.1, hd8.2.2.1, hd8.2.2.2.1⟩ _, hM1.push hj e8 e10⟩
end
/-- code that tells what is left, and ends -/
def TWhole (P : Program) (N n : Nat) (σ : St) (c : Code) (j : Nat) (g : SV -> List Tr) : Prop :=
 ∀ x Fs v ts a w0 w, x.n = n -> n <= 4294967295 -> ts.length = j -> TAmb N x a -> Cur σ Fs x.blk x.off v w0 -> TMem x w0 w ts (.slice none 0 0) ->
  c.wp P (fun e a' w' => e = .ret /\ a'.defers = [] /\ Act.get a' 2 = .pointer (some ⟨x.rb, 0, none⟩) /\ Mod none' w0 w' /\ ∃ cs Tc, w'.heap[x.rb]? = some (.cells cs Tc (0, 0)) /\ cs.size = 5 /\ cs.all (·.oneCell') = true /\ TreeR w' (From w0) (from' cs 0) (.part (ts ++ g v) v.2)) a w
section
variable {P : Program} {σ : St} {N n TI TL id j : Nat} {g : SV -> Tr} {g' : SV -> List Tr} {d0 d1 : Nat} {y0 y1 y2 y3 y4 y5 : TypeId} {p0 p1 p2 p3 p4 p5 : String} {e0 e1 e2 e3 e4 e5 : Array Edge}
theorem twhole_seq {c c' : Code} (h : TBlk P N n σ c j g) (h' : TWhole P N n σ c' (j + 1) g') : TWhole P N n σ (.seq c c') j (fun v => g v :: g' v) := by
 intro x Fs v ts a w0 w hn hb hts hA hC hM
 refine wp_seq (wp_mono (h x Fs v ts _ a w0 w hn hts hA hC hM) ?_)
 rintro e a1 w1 ⟨rfl, hA1, hM1⟩
 refine wp_mono (h' x Fs v _ a1 w0 w1 hn hb (by simp [hts]) hA1 hC hM1) ?_
 rintro e a2 w2 ⟨k1, k2, k3, k4, cs, Tc, k5, k6, k7, k8⟩
 exact ⟨k1, k2, k3, k4, cs, Tc, k5, k6, k7, by simpa using k8⟩
/-- what telling a struct does -/
def TellC (P : Program) (fid : FuncId) (σ : St) (G : SV -> List Tr) : Prop := ∀ blk off v Fs w, Cur σ Fs blk off v w ->
 Calls P fid #[.pointer (some ⟨blk, off, none⟩)] w fun e w' => ∃ r, e = .returned r /\ Mod none' w w' /\ TreeV w' (From w) r (.part (G v) v.2)
theorem results_cellN {fn : Func} {p : Tmp} {ty : TypeId} (h : fn.results = #[.cell p ty]) {P : Program} {tmps : Array Value} {w : World} {b o : Nat} {cs : List Value} (hp : tmps.getD p undef = .pointer (some ⟨b, o, none⟩))
  (h1 : Go.Proofs.YtcldbjehliladaaDoor.many P ty cs.length = true) (hc : w.rangeAt b o cs) : (results fn tmps).run P w = .ok (.agg cs.toArray) w := by
 obtain ⟨ds, hu, hd, hi⟩ := many_spec h1
 have hp' : tmps[p]?.getD undef = .pointer (some ⟨b, o, none⟩) := by simpa using hp
 have := run_loadVar_mid (P := P) w b o ty cs ds hc hu hd hi
 simp [results, h, hp', asAddr, this]
theorem zero_cells {n i q : Nat} (hi : i < n) (hq : q < 5) :
  from' (madeCells #[.int .i64 0, .slice none 0 0, .bool false, .slice none 0 0, .slice none 0 0] (n * 5)) (i * 5) q = zero5 q := by
 have h1 : i * 5 + q < n * 5 := by have := Nat.mul_le_mul_right 5 (show i + 1 <= n by omega); omega
 have h2 : (i * 5 + q) % 5 = q := by omega
 simp only [from', zero5, madeCells, Array.getD_eq_getD_getElem?, Array.getElem?_map]
 rw [Array.getElem?_range, if_pos h1]
 simp only [Option.map_some, Option.getD_some]
 show #[Value.int .i64 0, .slice none 0 0, .bool false, .slice none 0 0, .slice none 0 0][(i * 5 + q) % 5]! = _
 rw [h2]
 rcases (by omega : q = 0 \/ q = 1 \/ q = 2 \/ q = 3 \/ q = 4) with rfl | rfl | rfl | rfl | rfl <;> rfl
theorem tell_plain {fid : FuncId} {fn : Func} {i0 i1 : Nat} {rest : Code} (hf : P.funcs[fid]? = some fn) (hN : fn.ntmps = N) (hres : fn.results = #[.cell 2 TI]) (hT : TellT P TI TL) (hok : tellOK N [] [d0, d1] = true) (h4 : 4 <= N) (hne : d0 ≠ d1) (hn : n <= 4294967295)
  (hbody : fn.body = some (.seq (.region i0 #[⟨some 2, .alloc TI, y0, p0, e0, none⟩] false)
   (.seq (.region i1 #[⟨some d0, .makeSlice TL (.const (.int .i64 (n : Nat))) (.const (.int .i64 (n : Nat))), y1, p1, e1, none⟩, ⟨some d1, .build TI #[(3, .tmp d0)], y2, p2, e2, none⟩, ⟨some 3, .alloc TI, y3, p3, e3, none⟩, ⟨none, .store TI (.tmp 3) (.tmp d1), y4, p4, e4, none⟩] false) rest)))
  (h : TWhole P N n σ rest 0 g') : TellC P fid σ g' := by
 intro blk off v Fs w hC
 obtain ⟨_, _, htl⟩ := tellOK_dl hok
 have hd0 := htl d0 (by simp)
 have hd1 := htl d1 (by simp)
 refine calls_of_wp hf hbody ?_
 rw [hN]
 obtain ⟨aa, haa⟩ : ∃ aa : Act, aa = { tmps := (#[.pointer (some ⟨blk, off, none⟩)] : Array Value) ++ Array.replicate (N - (#[.pointer (some ⟨blk, off, none⟩)] : Array Value).size) undef, defers := [] } := ⟨_, rfl⟩
 rw [<- haa]
 have g0 : Act.get aa 0 = .pointer (some ⟨blk, off, none⟩) := by rw [haa, Zj _ _ _ (by simp)]; rfl
 have gN : aa.tmps.size = N := by rw [haa]; simp; omega
 have gd : aa.defers = [] := by rw [haa]
 clear haa
 obtain ⟨b, hb⟩ : ∃ b, b = w.heap.size := ⟨_, rfl⟩
 have hbl : blk < w.heap.size := by obtain ⟨C, t, h, _⟩ := hC.mem; exact lt_of_block h
 refine wp_seq (wp_region_lit (Zv rfl (x_alloc hT.zero) (wpList_nil ?_)))
 obtain ⟨w1, hw1⟩ : ∃ w1, w1 = w.alloc (.cells (Value.agg #[.int .i64 0, .slice none 0 0, .bool false, .slice none 0 0, .slice none 0 0]).cells TI) := ⟨_, rfl⟩
 have w1b : w1.heap[b]? = some (.cells #[.int .i64 0, .slice none 0 0, .bool false, .slice none 0 0, .slice none 0 0] TI (0, 0)) := by rw [hw1, hb]; exact Zh _ _
 have w1m : Mod none' w w1 := by rw [hw1]; exact (Mod.refl w).alloc _
 have w1s : w1.heap.size = b + 1 := by rw [hw1, hb]; simp
 rw [<- hw1, <- hb]
 clear hw1
 refine wp_seq (wp_region_lit ?_)
 obtain ⟨z, hz, hzs, hmk⟩ := x_makeSlice (P := P) (ρ := (aa.put (some 2) (.pointer (some ⟨b, 0, none⟩))).eval) (w := w1) (d := some d0) (ty := y1) (p := p1) (af := e1) (g := none) (t := TL) (e := TI) (sz := 5) (n := n) (fun _ => rfl) hT.elem (by omega)
 rw [hT.zero] at hz
 obtain rfl : _ = z := Option.some.inj hz
 refine Zv rfl hmk ?_
 obtain ⟨w2, hw2⟩ : ∃ w2, w2 = w1.alloc (.cells (madeCells #[.int .i64 0, .slice none 0 0, .bool false, .slice none 0 0, .slice none 0 0] (n * 5)) TI) := ⟨_, rfl⟩
 have w2b : w2.heap[b + 1]? = some (.cells (madeCells #[.int .i64 0, .slice none 0 0, .bool false, .slice none 0 0, .slice none 0 0] (n * 5)) TI (0, 0)) := by rw [hw2, <- w1s]; exact Zh _ _
 have w2m : Mod none' w1 w2 := by rw [hw2]; exact (Mod.refl w1).alloc _
 have w2s : w2.heap.size = b + 2 := by rw [hw2]; simp; omega
 show wpList _ _ _ _ (Act.put _ (some d0) _) (w1.alloc (.cells (madeCells #[.int .i64 0, .slice none 0 0, .bool false, .slice none 0 0, .slice none 0 0] (n * 5)) TI))
 rw [<- hw2, w1s]
 clear hw2 hmk
 refine Zv rfl (x_build (cells := #[.int .i64 0, .slice none 0 0, .bool false, .slice (some ⟨b + 1, 0, none⟩) n n, .slice none 0 0]) ?_) ?_
 ·simp only [List.map_toArray, List.map_cons, List.map_nil, Ze]
  rw [Zq (by simp only [Zs]; omega), built_of hT.parts]
  rfl
 refine Zv rfl (x_alloc hT.zero) ?_
 obtain ⟨w3, hw3⟩ : ∃ w3, w3 = w2.alloc (.cells (Value.agg #[.int .i64 0, .slice none 0 0, .bool false, .slice none 0 0, .slice none 0 0]).cells TI) := ⟨_, rfl⟩
 have w3b : w3.heap[b + 2]? = some (.cells #[.int .i64 0, .slice none 0 0, .bool false, .slice none 0 0, .slice none 0 0] TI (0, 0)) := by rw [hw3, <- w2s]; exact Zh _ _
 have w3m : Mod none' w2 w3 := by rw [hw3]; exact (Mod.refl w2).alloc _
 rw [<- hw3, w2s]
 clear hw3
 refine wpl_skip rfl (x_storeN (cs := #[.int .i64 0, .slice none 0 0, .bool false, .slice (some ⟨b + 1, 0, none⟩) n n, .slice none 0 0]) (b := b + 2) (o := 0) hT.size ?_ ?_ (by simp [Value.oneCell']) ?_) (wpList_nil ?_)
 ·rw [Ze, Zq (by simp only [Zs]; omega)]
 ·rw [Ze, Zn (Ne.symm hd1.2.2.2.1), Zq (by simp only [Zs]; omega)]
 ·intro j hj
  simp at hj
  rw [Zc w3b, Zz w3b, Array.getElem?_eq_getElem (by simpa using hj)]
  exact ⟨rfl, rfl⟩
 obtain ⟨C3, k1, k2, k3, k4⟩ := heap_setCells (w := w3) [.int .i64 0, .slice none 0 0, .bool false, .slice (some ⟨b + 1, 0, none⟩) n n, .slice none 0 0] 0 _ w3b
 have hC3 : C3 = #[.int .i64 0, .slice none 0 0, .bool false, .slice (some ⟨b + 1, 0, none⟩) n n, .slice none 0 0] := by
  apply Array.ext
  ·rw [k2]; rfl
  ·intro i h1 h2
   have hi : i < 5 := by simpa using h2
   have := k3 i (by simpa using hi) (by simpa using hi)
   rw [Nat.zero_add, Array.getElem?_eq_getElem h1] at this
   simpa using this
 subst hC3
 obtain ⟨w4, hw4⟩ : ∃ w4, w4 = w3.setCells (b + 2) 0 [.int .i64 0, .slice none 0 0, .bool false, .slice (some ⟨b + 1, 0, none⟩) n n, .slice none 0 0] := ⟨_, rfl⟩
 have hm4 : Mod (only (b + 2)) w3 w4 := by rw [hw4]; exact mod_setCells _ _ _ _
 show Code.wp _ _ _ _ (w3.setCells (b + 2) 0 [.int .i64 0, .slice none 0 0, .bool false, .slice (some ⟨b + 1, 0, none⟩) n n, .slice none 0 0])
 rw [<- hw4] at k1 ⊢
 clear hw4 k3 k4
 have hM : TMem ⟨blk, off, b, b + 2, b + 1, n⟩ w w4 [] (.slice none 0 0) := by
  have hz : (madeCells #[Value.int .i64 0, .slice none 0 0, .bool false, .slice none 0 0, .slice none 0 0] (n * 5)).size = n * 5 := size_madeCells _ _
  refine ⟨((w1m.trans w2m).trans w3m).trans' hm4 (fun _ _ f => f) (fun i hi e => by have : i = b + 2 := e; omega), ⟨by show _ <= b + 2; omega, by show _ <= b + 1; omega, by show _ <= b; omega⟩, ⟨by show b + 2 ≠ b + 1; omega, by show b ≠ b + 2; omega, by show b ≠ b + 1; omega⟩, ⟨TI, k1⟩,
   ⟨_, TI, hm4.some (w3m.some w2b (fun f => f)) (fun e => by have : b + 1 = b + 2 := e; omega), hz, Nat.zero_le _, fun i hi => (by simp at hi), fun i _ hi q hq => ?_⟩, ⟨_, TI, hm4.some (w3m.some (w2m.some w1b (fun f => f)) (fun f => f)) (fun e => by have : b = b + 2 := e; omega), rfl⟩⟩
  exact zero_cells hi hq
 refine wp_mono (h ⟨blk, off, b, b + 2, b + 1, n⟩ Fs v [] _ w w4 rfl hn rfl ⟨?_, ?_, ?_, ?_, ?_⟩ hC hM) ?_
 ·simp only [Zs]; exact gN
 ·simp only [Zd]; exact gd
 ·show Act.get _ 0 = _
  simp (disch := first | omega | simp only [Zs]; omega) only [Zo, Zn, Zq, g0]
 ·show Act.get _ 2 = _
  simp (disch := first | omega | simp only [Zs]; omega) only [Zo, Zn, Zq, g0]
 ·show Act.get _ 3 = _
  simp (disch := first | omega | simp only [Zs]; omega) only [Zo, Zn, Zq, g0]
 ·rintro e a' w' ⟨rfl, hdf, hp, hm, cs, Tc, q1, q2, q3, q4⟩
  rw [List.nil_append] at q4
  refine bodyPost_ret (results_cellN hres (cs := cs.toList) hp (by rw [Array.length_toList, q2]; exact hT.many) (fun j v hv => by rw [Zc q1, Nat.zero_add]; simpa using hv)) hdf ⟨_, rfl, hm, cs, by simp, q2, q3, q4⟩
end
end Go.Proofs.YtcldbjehliladaaDoor
