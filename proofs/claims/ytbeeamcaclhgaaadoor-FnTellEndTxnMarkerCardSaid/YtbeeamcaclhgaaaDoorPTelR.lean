/-
  Rules for the code that tells a message's fields. No program in it.
-/
import Derived.Test.YtbeeamcaclhgaaaDoorPAppB
set_option linter.unusedSimpArgs false
set_option linter.unusedVariables false
namespace Go.Proofs.YtbeeamcaclhgaaaDoor
open Go Go.RowKit
/-- the types of a tree and of a list of trees -/
structure TellT (P : Program) (TI TL : Nat) : Prop where
  ord : P.follows .mixedOrders = true
  f3 : fieldOff P TI 3 = some 3
  one : one P TL = true
  elem : elemInfo P TL TI 5 = true
  size : sized P TI 5 = true
  many : many P TI 5 = true
  zero : zeroOf P TI = some (.agg #[.int .i64 0, .slice none 0 0, .bool false, .slice none 0 0, .slice none 0 0])
  parts : structParts P TI = some ([(0, 1), (1, 1), (2, 1), (3, 1), (4, 1)], .agg #[.int .i64 0, .slice none 0 0, .bool false, .slice none 0 0, .slice none 0 0])
/-- the slots of such a region: new ones, all different, none of those that stay -/
def tellOK (N : Nat) (dl : List Nat) (tl : List Nat) : Bool := dl.all (fun d => decide (d < N) && d != 0 && d != 2 && d != 3) && decide dl.Nodup && tl.all (fun d => decide (d < N) && d != 0 && d != 2 && d != 3 && !dl.contains d)
theorem tellOK_dl {N : Nat} {dl tl : List Nat} (h : tellOK N dl tl = true) : (∀ d ∈ dl, d < N ∧ d ≠ 0 ∧ d ≠ 2 ∧ d ≠ 3) ∧ dl.Nodup ∧ (∀ d ∈ tl, d < N ∧ d ≠ 0 ∧ d ≠ 2 ∧ d ≠ 3 ∧ d ∉ dl) := by
  unfold tellOK at h
  simp only [Bool.and_eq_true, List.all_eq_true, decide_eq_true_eq, bne_iff_ne, Bool.not_eq_true'] at h
  obtain ⟨⟨h1, h2⟩, h3⟩ := h
  refine ⟨fun d hd => ?_, h2, fun d hd => ?_⟩
  · have := h1 d hd
    exact ⟨this.1.1.1, this.1.1.2, this.1.2, this.2⟩
  · have := h3 d hd
    exact ⟨this.1.1.1.1, this.1.1.1.2, this.1.1.2, this.1.2, by simpa using this.2⟩
/-- octets out of a text: where they lie -/
theorem bytes_oct {w : World} {F : Nat → Prop} {bs : List UInt8} {e : Nat} (hl : bs.length ≤ 4294967295) (hF : F w.heap.size) :
    Oct (w.drew.alloc (.cells (bytesRow (str bs) (grownCap w (str bs).size 0 e)) e ((bytesRow (str bs) (grownCap w (str bs).size 0 e)).size, (bytesRow (str bs) (grownCap w (str bs).size 0 e)).size + 1))) F
      (.slice (some ⟨w.heap.size, 0, none⟩) (str bs).size (grownCap w (str bs).size 0 e)) bs false := by
  have h1 := grownCap_ge w (str bs).size 0 e
  have h2 := grownCap_le_maxLen w (str bs).size 0 e (by rw [str_size]; simp only [maxLen]; omega)
  refine ⟨w.heap.size, .inr hF, .inr ⟨rfl, 0, _, _, _, _, by rw [str_size], by rw [← str_size]; exact h1, h2, heap_alloc_new w.drew _, fun i hi => ?_⟩⟩
  have hsz : (Array.map (fun b : UInt8 => Value.int .u8 b.toNat) (str bs).data).size = bs.length := by simp [str]
  unfold bytesRow
  rw [Nat.zero_add, Array.getElem?_append_left (by rw [hsz]; exact hi), Array.getElem?_map]
  simp [str, hi]
/-- code that tells what is left, and ends -/
def TWhole (P : Program) (N n : Nat) (σ : St) (c : Code) (j : Nat) (g : SV → List Tr) : Prop :=
  ∀ x Fs v ts a w0 w, x.n = n → n ≤ 4294967295 → ts.length = j → TAmb N x a → Cur σ Fs x.blk x.off v w0 → TMem x w0 w ts (.slice none 0 0) →
    c.wp P (fun e a' w' => e = .ret ∧ a'.defers = [] ∧ Act.get a' 2 = .pointer (some ⟨x.rb, 0, none⟩) ∧ Mod none' w0 w' ∧ ∃ cs Tc, w'.heap[x.rb]? = some (.cells cs Tc (0, 0)) ∧ cs.size = 5 ∧ cs.all (·.oneCell') = true ∧ TreeR w' (From w0) (from' cs 0) (.part (ts ++ g v) v.2)) a w
section
variable {P : Program} {σ : St} {N n TI TL id j : Nat} {g : SV → Tr} {g' : SV → List Tr} {d0 d1 : Nat} {y0 y1 y2 y3 y4 y5 : TypeId} {p0 p1 p2 p3 p4 p5 : String} {e0 e1 e2 e3 e4 e5 : Array Edge}
theorem twhole_seq {c c' : Code} (h : TBlk P N n σ c j g) (h' : TWhole P N n σ c' (j + 1) g') : TWhole P N n σ (.seq c c') j (fun v => g v :: g' v) := by
  intro x Fs v ts a w0 w hn hb hts hA hC hM
  refine wp_seq (wp_mono (h x Fs v ts _ a w0 w hn hts hA hC hM) ?_)
  rintro e a1 w1 ⟨rfl, hA1, hM1⟩
  refine wp_mono (h' x Fs v _ a1 w0 w1 hn hb (by simp [hts]) hA1 hC hM1) ?_
  rintro e a2 w2 ⟨k1, k2, k3, k4, cs, Tc, k5, k6, k7, k8⟩
  exact ⟨k1, k2, k3, k4, cs, Tc, k5, k6, k7, by simpa using k8⟩
/-- what telling a struct does -/
def TellC (P : Program) (fid : FuncId) (σ : St) (G : SV → List Tr) : Prop := ∀ blk off v Fs w, Cur σ Fs blk off v w →
  Calls P fid #[.pointer (some ⟨blk, off, none⟩)] w fun e w' => ∃ r, e = .returned r ∧ Mod none' w w' ∧ TreeV w' (From w) r (.part (G v) v.2)
theorem results_cellN {fn : Func} {p : Tmp} {ty : TypeId} (h : fn.results = #[.cell p ty]) {P : Program} {tmps : Array Value} {w : World} {b o : Nat} {cs : List Value} (hp : tmps.getD p undef = .pointer (some ⟨b, o, none⟩))
    (h1 : Go.Proofs.YtbeeamcaclhgaaaDoor.many P ty cs.length = true) (hc : w.rangeAt b o cs) : (results fn tmps).run P w = .ok (.agg cs.toArray) w := by
  obtain ⟨ds, hu, hd, hi⟩ := many_spec h1
  have hp' : tmps[p]?.getD undef = .pointer (some ⟨b, o, none⟩) := by simpa using hp
  have := run_loadVar_mid (P := P) w b o ty cs ds hc hu hd hi
  simp [results, h, hp', asAddr, this]
theorem zero_cells {n i q : Nat} (hi : i < n) (hq : q < 5) :
    from' (madeCells #[.int .i64 0, .slice none 0 0, .bool false, .slice none 0 0, .slice none 0 0] (n * 5)) (i * 5) q = zero5 q := by
  have h1 : i * 5 + q < n * 5 := by have := Nat.mul_le_mul_right 5 (show i + 1 ≤ n by omega); omega
  have h2 : (i * 5 + q) % 5 = q := by omega
  simp only [from', zero5, madeCells, Array.getD_eq_getD_getElem?, Array.getElem?_map]
  rw [Array.getElem?_range, if_pos h1]
  simp only [Option.map_some, Option.getD_some]
  show #[Value.int .i64 0, .slice none 0 0, .bool false, .slice none 0 0, .slice none 0 0][(i * 5 + q) % 5]! = _
  rw [h2]
  rcases (by omega : q = 0 ∨ q = 1 ∨ q = 2 ∨ q = 3 ∨ q = 4) with rfl | rfl | rfl | rfl | rfl <;> rfl
theorem tell_plain {fid : FuncId} {fn : Func} {i0 i1 : Nat} {rest : Code} (hf : P.funcs[fid]? = some fn) (hN : fn.ntmps = N) (hres : fn.results = #[.cell 2 TI]) (hT : TellT P TI TL) (hok : tellOK N [] [d0, d1] = true) (h4 : 4 ≤ N) (hne : d0 ≠ d1) (hn : n ≤ 4294967295)
    (hbody : fn.body = some (.seq (.region i0 #[⟨some 2, .alloc TI, y0, p0, e0, none⟩] false)
      (.seq (.region i1 #[⟨some d0, .makeSlice TL (.const (.int .i64 (n : Nat))) (.const (.int .i64 (n : Nat))), y1, p1, e1, none⟩, ⟨some d1, .build TI #[(3, .tmp d0)], y2, p2, e2, none⟩, ⟨some 3, .alloc TI, y3, p3, e3, none⟩, ⟨none, .store TI (.tmp 3) (.tmp d1), y4, p4, e4, none⟩] false) rest)))
    (h : TWhole P N n σ rest 0 g') : TellC P fid σ g' := by
  intro blk off v Fs w hC
  obtain ⟨_, _, htl⟩ := tellOK_dl hok
  have hd0 := htl d0 (by simp)
  have hd1 := htl d1 (by simp)
  refine calls_of_wp hf hbody ?_
  rw [hN]
  obtain ⟨aa, haa⟩ : ∃ aa : Act, aa = { tmps := (#[.pointer (some ⟨blk, off, none⟩)] : Array Value) ++ Array.replicate (N - (#[.pointer (some ⟨blk, off, none⟩)] : Array Value).size) undef, defers := [] } := ⟨_, rfl⟩
  rw [← haa]
  have g0 : Act.get aa 0 = .pointer (some ⟨blk, off, none⟩) := by rw [haa, get_nil_args _ _ _ (by simp)]; rfl
  have gN : aa.tmps.size = N := by rw [haa]; simp; omega
  have gd : aa.defers = [] := by rw [haa]
  clear haa
  obtain ⟨b, hb⟩ : ∃ b, b = w.heap.size := ⟨_, rfl⟩
  have hbl : blk < w.heap.size := by obtain ⟨C, t, h, _⟩ := hC.mem; exact lt_of_block h
  refine wp_seq (wp_region_lit (wpl_val rfl (x_alloc hT.zero) (wpList_nil ?_)))
  obtain ⟨w1, hw1⟩ : ∃ w1, w1 = w.alloc (.cells (Value.agg #[.int .i64 0, .slice none 0 0, .bool false, .slice none 0 0, .slice none 0 0]).cells TI) := ⟨_, rfl⟩
  have w1b : w1.heap[b]? = some (.cells #[.int .i64 0, .slice none 0 0, .bool false, .slice none 0 0, .slice none 0 0] TI (0, 0)) := by rw [hw1, hb]; exact heap_alloc_new _ _
  have w1m : Mod none' w w1 := by rw [hw1]; exact (Mod.refl w).alloc _
  have w1s : w1.heap.size = b + 1 := by rw [hw1, hb]; simp
  rw [← hw1, ← hb]
  clear hw1
  refine wp_seq (wp_region_lit ?_)
  obtain ⟨z, hz, hzs, hmk⟩ := x_makeSlice (P := P) (ρ := (aa.put (some 2) (.pointer (some ⟨b, 0, none⟩))).eval) (w := w1) (d := some d0) (ty := y1) (p := p1) (af := e1) (g := none) (t := TL) (e := TI) (sz := 5) (n := n) (fun _ => rfl) hT.elem (by omega)
  rw [hT.zero] at hz
  obtain rfl : _ = z := Option.some.inj hz
  refine wpl_val rfl hmk ?_
  obtain ⟨w2, hw2⟩ : ∃ w2, w2 = w1.alloc (.cells (madeCells #[.int .i64 0, .slice none 0 0, .bool false, .slice none 0 0, .slice none 0 0] (n * 5)) TI) := ⟨_, rfl⟩
  have w2b : w2.heap[b + 1]? = some (.cells (madeCells #[.int .i64 0, .slice none 0 0, .bool false, .slice none 0 0, .slice none 0 0] (n * 5)) TI (0, 0)) := by rw [hw2, ← w1s]; exact heap_alloc_new _ _
  have w2m : Mod none' w1 w2 := by rw [hw2]; exact (Mod.refl w1).alloc _
  have w2s : w2.heap.size = b + 2 := by rw [hw2]; simp; omega
  show wpList _ _ _ _ (Act.put _ (some d0) _) (w1.alloc (.cells (madeCells #[.int .i64 0, .slice none 0 0, .bool false, .slice none 0 0, .slice none 0 0] (n * 5)) TI))
  rw [← hw2, w1s]
  clear hw2 hmk
  refine wpl_val rfl (x_build (cells := #[.int .i64 0, .slice none 0 0, .bool false, .slice (some ⟨b + 1, 0, none⟩) n n, .slice none 0 0]) ?_) ?_
  · simp only [List.map_toArray, List.map_cons, List.map_nil, eval_tmp]
    rw [Act.get_put_eq (by simp only [Act.size_put]; omega), built_of hT.parts]
    rfl
  refine wpl_val rfl (x_alloc hT.zero) ?_
  obtain ⟨w3, hw3⟩ : ∃ w3, w3 = w2.alloc (.cells (Value.agg #[.int .i64 0, .slice none 0 0, .bool false, .slice none 0 0, .slice none 0 0]).cells TI) := ⟨_, rfl⟩
  have w3b : w3.heap[b + 2]? = some (.cells #[.int .i64 0, .slice none 0 0, .bool false, .slice none 0 0, .slice none 0 0] TI (0, 0)) := by rw [hw3, ← w2s]; exact heap_alloc_new _ _
  have w3m : Mod none' w2 w3 := by rw [hw3]; exact (Mod.refl w2).alloc _
  rw [← hw3, w2s]
  clear hw3
  refine wpl_skip rfl (x_storeN (cs := #[.int .i64 0, .slice none 0 0, .bool false, .slice (some ⟨b + 1, 0, none⟩) n n, .slice none 0 0]) (b := b + 2) (o := 0) hT.size ?_ ?_ (by simp [Value.oneCell']) ?_) (wpList_nil ?_)
  · rw [eval_tmp, Act.get_put_eq (by simp only [Act.size_put]; omega)]
  · rw [eval_tmp, Act.get_put_ne (Ne.symm hd1.2.2.2.1), Act.get_put_eq (by simp only [Act.size_put]; omega)]
  · intro j hj
    simp at hj
    rw [cell_of_heap w3b, frozen_of_heap w3b, Array.getElem?_eq_getElem (by simpa using hj)]
    exact ⟨rfl, rfl⟩
  obtain ⟨C3, k1, k2, k3, k4⟩ := heap_setCells (w := w3) [.int .i64 0, .slice none 0 0, .bool false, .slice (some ⟨b + 1, 0, none⟩) n n, .slice none 0 0] 0 _ w3b
  have hC3 : C3 = #[.int .i64 0, .slice none 0 0, .bool false, .slice (some ⟨b + 1, 0, none⟩) n n, .slice none 0 0] := by
    apply Array.ext
    · rw [k2]; rfl
    · intro i h1 h2
      have hi : i < 5 := by simpa using h2
      have := k3 i (by simpa using hi) (by simpa using hi)
      rw [Nat.zero_add, Array.getElem?_eq_getElem h1] at this
      simpa using this
  subst hC3
  obtain ⟨w4, hw4⟩ : ∃ w4, w4 = w3.setCells (b + 2) 0 [.int .i64 0, .slice none 0 0, .bool false, .slice (some ⟨b + 1, 0, none⟩) n n, .slice none 0 0] := ⟨_, rfl⟩
  have hm4 : Mod (only (b + 2)) w3 w4 := by rw [hw4]; exact mod_setCells _ _ _ _
  show Code.wp _ _ _ _ (w3.setCells (b + 2) 0 [.int .i64 0, .slice none 0 0, .bool false, .slice (some ⟨b + 1, 0, none⟩) n n, .slice none 0 0])
  rw [← hw4] at k1 ⊢
  clear hw4 k3 k4
  have hM : TMem ⟨blk, off, b, b + 2, b + 1, n⟩ w w4 [] (.slice none 0 0) := by
    have hz : (madeCells #[Value.int .i64 0, .slice none 0 0, .bool false, .slice none 0 0, .slice none 0 0] (n * 5)).size = n * 5 := size_madeCells _ _
    refine ⟨((w1m.trans w2m).trans w3m).trans' hm4 (fun _ _ f => f) (fun i hi e => by have : i = b + 2 := e; omega), ⟨by show _ ≤ b + 2; omega, by show _ ≤ b + 1; omega, by show _ ≤ b; omega⟩, ⟨by show b + 2 ≠ b + 1; omega, by show b ≠ b + 2; omega, by show b ≠ b + 1; omega⟩, ⟨TI, k1⟩,
      ⟨_, TI, hm4.some (w3m.some w2b (fun f => f)) (fun e => by have : b + 1 = b + 2 := e; omega), hz, Nat.zero_le _, fun i hi => (by simp at hi), fun i _ hi q hq => ?_⟩, ⟨_, TI, hm4.some (w3m.some (w2m.some w1b (fun f => f)) (fun f => f)) (fun e => by have : b = b + 2 := e; omega), rfl⟩⟩
    exact zero_cells hi hq
  refine wp_mono (h ⟨blk, off, b, b + 2, b + 1, n⟩ Fs v [] _ w w4 rfl hn rfl ⟨?_, ?_, ?_, ?_, ?_⟩ hC hM) ?_
  · simp only [Act.size_put]; exact gN
  · simp only [Act.defers_put]; exact gd
  · show Act.get _ 0 = _
    simp (disch := (first | omega | (simp only [Act.size_put]; omega))) only [Act.put_none, Act.get_put_ne, Act.get_put_eq, g0]
  · show Act.get _ 2 = _
    simp (disch := (first | omega | (simp only [Act.size_put]; omega))) only [Act.put_none, Act.get_put_ne, Act.get_put_eq, g0]
  · show Act.get _ 3 = _
    simp (disch := (first | omega | (simp only [Act.size_put]; omega))) only [Act.put_none, Act.get_put_ne, Act.get_put_eq, g0]
  · rintro e a' w' ⟨rfl, hdf, hp, hm, cs, Tc, q1, q2, q3, q4⟩
    rw [List.nil_append] at q4
    refine bodyPost_ret (results_cellN hres (cs := cs.toList) hp (by rw [Array.length_toList, q2]; exact hT.many) (fun j v hv => by rw [cell_of_heap q1, Nat.zero_add]; simpa using hv)) hdf ⟨_, rfl, hm, cs, by simp, q2, q3, q4⟩
end
end Go.Proofs.YtbeeamcaclhgaaaDoor
