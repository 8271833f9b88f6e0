/-
  Telling the tags that a message keeps; texts that may be none, yes or no, octets. No program in it.
  Texts that may be none, yes or no, octets: what is told of them.
  The rule for a field that a function of its own tells. No program in it.
-/
import Derived.Test.YtcldbjehliladaaDoorPSd
import Derived.Test.YtcldbjehliladaaDoorPSame
set_option linter.unusedSimpArgs false
set_option linter.unusedVariables false
namespace Go.Proofs.YtcldbjehliladaaDoor
open Go Go.RowKit
section
variable {P : Program} {ρ : Operand -> Value} {w : World} {d : Option Tmp} {ty : TypeId} {p : String} {af : Array Edge} {g : Option (Nat × Bool)}
/-- a copy of octets -/
theorem x_copy {s x : Operand} {t e : Nat} {v : Value} {bs : List UInt8} {F : Nat -> Prop} {nil : Bool} (hI : elemInfo P t e 1 = true) (hs : ρ s = .slice none 0 0) (hx : ρ x = v) (hv : Oct w F v bs nil) (hl : bs.length <= 4294967295) :
  ∃ v' w', (execOp ρ ⟨d, .call ⟨.builtin .append, #[s, x], #[t, t]⟩, ty, p, af, g⟩).run P w = .ok (.value v') w' /\ Mod none' w w' /\ ∃ nil', Oct w' (fun k => w.heap.size <= k /\ k < w'.heap.size) v' bs nil' := by
 obtain ⟨ao, cap, hvs, hml, hc⟩ := oct_slice hv
 by_cases hb : bs = []
 ·subst hb
  obtain ⟨hu, i, z, hi, hz, h2, h3, h4, h5, h6⟩ := elemInfo_spec hI
  refine ⟨.slice none 0 0, w, ?_, .refl w, true, .inl ⟨gErr, .inl rfl, .inl ⟨rfl, rfl, rfl⟩⟩⟩
  subst hvs
  cases ao <;> simp [execOp, resolve, invoke, builtin, hs, hx, Builtin.append_, run_underlying hu, sizeOf, typeInfo, hi, Builtin.lenOf, Builtin.firstCells, loadCells, loadCellsFrom]
 ·have hpos : 0 < bs.length := List.length_pos_iff.2 hb
  obtain ⟨sb, off, c, tc, fr, rfl, hh, hcc⟩ := hc hpos
  obtain ⟨v', w', hr, ho, hm, hn, _⟩ := x_append (P := P) (ρ := ρ) (w := w) (d := d) (ty := ty) (p := p) (af := af) (g := g) (s := s) (x := x) (base := w.heap.size) (v := .slice none 0 0) (n := 0) (xs := []) (ad := ⟨sb, off, none⟩) (m := bs.length) (c := cap) (news := bs.map fun x => Value.int .u8 x.toNat) hI hs (hx.trans hvs) (World.ownsRow_nil _ _ _ _) (by simp) (fun j u hu => by
   rw [Addr.add_mid, Zc hh]
   simp only [List.getElem?_map, Option.map_eq_some_iff] at hu
   obtain ⟨q, hq, rfl⟩ := hu
   obtain ⟨hj, rfl⟩ := List.getElem?_eq_some_iff.1 hq
   exact hcc j hj) (fun u hu => by obtain ⟨q, _, rfl⟩ := List.mem_map.1 hu; rfl) (by omega) (Nat.le_refl _)
  refine ⟨v', w', hr, hm.mono fun i _ h => by simp [Value.ownBlock] at h, false, ?_⟩
  rcases ho.2 with ⟨h1, h2⟩ | ⟨g', cap', cur, h1, h2, h3, h4, h5, h6, h7⟩
  ·omega
  ·refine .inl ⟨g', .inr ⟨h2, lt_of_block h3⟩, ?_⟩
   rw [Nat.zero_add] at h1 h4 h7
   refine .inr ⟨rfl, 0, cap', cur, e, (0, 0), h1, h4, h5, h3, fun i hi => ?_⟩
   have : (cur.toList.take (bs.length * 1))[i]? = (bs.map fun x => Value.int .u8 x.toNat)[i]? := by rw [h7]; simp
   rw [List.getElem?_take, if_pos (by omega), Array.getElem?_toList] at this
   rw [Nat.zero_add, this]
   simp [hi]
end
/-- these cells are tags told -/
def TagCells (w : World) (G : Nat -> Prop) (u : Tags) (xs : List Value) : Prop := xs.length = u.length * 2 /\ ∀ i (h : i < u.length), xs[i * 2]? = some (.int .u32 (u[i]).1) /\ ∃ v nil, xs[i * 2 + 1]? = some v /\ Oct w G v (u[i]).2 nil
/-- what the function does that a message's tags are handed to -/
def CloC (P : Program) (f : FuncId) (TG : Nat) : Prop := ∀ (w : World) (B tb : Nat) (c0 c1 c2 c3 uv : Value) (T : Nat) (u : Tags) (xs : List Value) (key : Int) (val : Value) (bs : List UInt8) (nil : Bool) (F : Nat -> Prop),
 w.heap[tb]? = some (.cells #[c0, c1, c2, c3, uv] T (0, 0)) -> tb < B -> B <= w.heap.size -> w.ownsRow B TG 2 uv u.length xs -> u.length < 4294967295 -> TagCells w (fun k => B <= k /\ uv.ownBlock ≠ some k) u xs -> Oct w F val bs nil -> bs.length <= 4294967295 ->
 Calls P f #[.int .u32 key, val, .pointer (some ⟨tb, 0, none⟩)] w fun e w' => (∃ r, e = .returned r) /\ ∃ uv' xs', w'.heap[tb]? = some (.cells #[c0, c1, c2, c3, uv'] T (0, 0)) /\ w'.ownsRow B TG 2 uv' (u.length + 1) xs' /\ TagCells w' (fun k => B <= k /\ uv'.ownBlock ≠ some k) (u ++ [(key, bs)]) xs' /\
  Mod (fun k => k = tb \/ B <= k) w w'
/-- the types of a tag told -/
structure TagT (P : Program) (TI UL TG : Nat) (yb eb : Nat) : Prop where
 f4 : fieldOff P TI 4 = some 4
 one : Go.Proofs.YtcldbjehliladaaDoor.one P UL = true
 put : sized P UL 1 = true
 elem : elemInfo P UL TG 2 = true
 oct : elemInfo P yb eb 1 = true
 parts : structParts P TG = some ([(0, 1), (1, 1)], .agg #[.int .u32 0, .slice none 0 0])
 ord : P.follows .mixedOrders = true
section
variable {P : Program} {TI UL TG yb eb id : Nat} {y0 y1 y2 y3 y4 y5 y6 y7 y8 y9 : TypeId} {p0 p1 p2 p3 p4 p5 p6 p7 p8 p9 : String}
set_option maxHeartbeats 1000000 in
theorem clo_rule {fid : FuncId} {fn : Func} (hf : P.funcs[fid]? = some fn) (hN : fn.ntmps = 14) (hres : fn.results = #[]) (hT : TagT P TI UL TG yb eb)
    (hbody : fn.body = some (Code.region id #[⟨some 5, .fieldAddr TI (.tmp 2) 4, y0, p0, #[], none⟩, ⟨some 6, .load UL (.tmp 5), y1, p1, #[⟨0, .data⟩], none⟩, ⟨some 7, .move (.tmp 0), y2, p2, #[], none⟩, ⟨some 8, .move (.tmp 1), y3, p3, #[], none⟩,
      ⟨some 9, .call ⟨.builtin .append, #[.const (.slice none 0 0), .tmp 8], #[yb, yb]⟩, y4, p4, #[⟨3, .data⟩], none⟩, ⟨some 10, .build TG #[(0, .tmp 7), (1, .tmp 9)], y5, p5, #[⟨2, .data⟩, ⟨4, .data⟩], none⟩, ⟨some 11, .buildSlice UL 1 #[(0, .tmp 10)], y6, p6, #[⟨5, .data⟩], none⟩,
      ⟨some 12, .call ⟨.builtin .append, #[.tmp 6, .tmp 11], #[UL, UL]⟩, y7, p7, #[⟨1, .data⟩, ⟨6, .data⟩, ⟨4, .chain⟩], none⟩, ⟨some 13, .fieldAddr TI (.tmp 2) 4, y8, p8, #[⟨0, .phase⟩, ⟨1, .phase⟩, ⟨2, .phase⟩, ⟨3, .phase⟩, ⟨4, .phase⟩, ⟨5, .phase⟩, ⟨6, .phase⟩, ⟨7, .phase⟩], none⟩,
      ⟨none, .store UL (.tmp 13) (.tmp 12), y9, p9, #[⟨8, .data⟩, ⟨7, .data⟩, ⟨7, .chain⟩, ⟨0, .phase⟩, ⟨1, .phase⟩, ⟨2, .phase⟩, ⟨3, .phase⟩, ⟨4, .phase⟩, ⟨5, .phase⟩, ⟨6, .phase⟩, ⟨7, .phase⟩], none⟩] true)) : CloC P fid TG := by
  intro w B tb c0 c1 c2 c3 uv T u xs key val bs nil F hb htB hBw hown hul hTC hoct hbl
  refine calls_of_wp hf hbody ?_
  rw [hN]
  refine wp_act (fun a : Act => Act.get a 0 = .int .u32 key /\ Act.get a 1 = val /\ Act.get a 2 = .pointer (some ⟨tb, 0, none⟩) /\ a.tmps.size = 14 /\ a.defers = []) ⟨by rw [Zj _ _ _ (by simp)]; rfl, by rw [Zj _ _ _ (by simp)]; rfl, by rw [Zj _ _ _ (by simp)]; rfl, by simp, rfl⟩ ?_
  rintro a ⟨a0, a1, a2, aN, ad⟩
  refine region_rlt (l := [_, _, _, _, _, _, _]) (tl := [_, _, _]) hT.ord (Mod none') (Mod.refl w).drew (fun _ _ _ h h' => h.trans h') [5, 6, 7, 8, 9, 10, 11]
    [fun v _ => v = .pointer (some ⟨tb, 0 + 4, none⟩), fun v _ => v = uv, fun v _ => v = .int .u32 key, fun v _ => v = val, fun v w' => ∃ nil', Oct w' (fun k => w.heap.size <= k) v bs nil',
     fun v w' => ∃ v9 nil', v = .agg #[.int .u32 key, v9] /\ Oct w' (fun k => w.heap.size <= k) v9 bs nil',
     fun v w' => ∃ v9 nil' k, v = .slice (some ⟨k, 0, none⟩) 1 1 /\ w'.heap[k]? = some (.cells #[.int .u32 key, v9] TG (0, 0)) /\ Oct w' (fun k => w.heap.size <= k) v9 bs nil']
    ?_ (by simp [regFormT]) (by decide) (fun d hd => by rw [aN]; simp at hd; omega) (by simp) (by kernel_rfl) ⟨?_, ?_, ?_, ?_, ?_, ?_, ?_, trivial⟩ ?_
  · intro g hg v1 w1 w2 hv hr
    simp only [List.mem_cons, List.not_mem_nil, or_false] at hg
    rcases hg with rfl | rfl | rfl | rfl | rfl | rfl | rfl
    · exact hv
    · exact hv
    · exact hv
    · exact hv
    · obtain ⟨nil', e⟩ := hv
      exact ⟨nil', e.mod hr (fun _ _ f => f) (fun _ h => h)⟩
    · obtain ⟨v9, nil', e1, e⟩ := hv
      exact ⟨v9, nil', e1, e.mod hr (fun _ _ f => f) (fun _ h => h)⟩
    · obtain ⟨v9, nil', k, e1, e2, e⟩ := hv
      exact ⟨v9, nil', k, e1, hr.some e2 (fun f => f), e.mod hr (fun _ _ f => f) (fun _ h => h)⟩
  · intro a1 w1 hr hs hd
    have t2 := (hs.get 2 (by simp)).trans a2
    exact Zw (Za hT.f4 t2) ⟨_, rfl, .refl _, rfl⟩
  · intro a1 w1 hr hs hd
    have e0 : Act.get a1 5 = .pointer (some ⟨tb, 0 + 4, none⟩) := hd ⟨0, .data⟩ (by simp) rfl
    exact Zw (Zl hT.one e0 (by rw [Zc (hr.some hb (fun f => f))]; rfl)) ⟨_, rfl, .refl _, rfl⟩
  · intro a1 w1 hr hs hd
    have t0 := (hs.get 0 (by simp)).trans a0
    exact Zw (x_moveV t0) ⟨_, rfl, .refl _, rfl⟩
  · intro a2 w1 hr hs hd
    have t1 := (hs.get 1 (by simp)).trans a1
    exact Zw (x_moveV t1) ⟨_, rfl, .refl _, rfl⟩
  · intro a1 w1 hr hs hd
    have e3 : Act.get a1 8 = val := hd ⟨3, .data⟩ (by simp) rfl
    obtain ⟨v', w', hrun, hm, nil', ho⟩ := x_copy (P := P) (ρ := a1.eval) (w := w1) (d := some 9) (ty := y4) (p := p4) (af := #[⟨3, .data⟩]) (g := none) (s := .const (.slice none 0 0)) (x := .tmp 8) hT.oct rfl e3 (hoct.mod hr (fun _ _ f => f) (fun _ h => h)) hbl
    have := hr.size
    exact Zw hrun ⟨_, rfl, hm, nil', ho.mod (Mod.refl (S := none') w') (fun _ _ f => f) (fun k hk => by have := hk.1; omega)⟩
  · intro a1 w1 hr hs hd
    have e2 : Act.get a1 7 = .int .u32 key := hd ⟨2, .data⟩ (by simp) rfl
    obtain ⟨nil', e4⟩ : ∃ nil', Oct w1 (fun k => w.heap.size <= k) (Act.get a1 9) bs nil' := hd ⟨4, .data⟩ (by simp) rfl
    refine Zw (x_build (cells := #[.int .u32 key, Act.get a1 9]) ?_) ⟨_, rfl, .refl _, Act.get a1 9, nil', rfl, e4⟩
    simp only [List.map_toArray, List.map_cons, List.map_nil, Ze]
    rw [built_of hT.parts, e2]
    have h1 : (Act.get a1 9).cells = #[Act.get a1 9] := one_cells (oct_one e4)
    generalize Act.get a1 9 = q at *
    have h2 : (Value.int .u32 key).cells = #[.int .u32 key] := rfl
    have h3 : (Value.agg #[Value.int IntKind.u32 0, Value.slice none 0 0]).cells = #[.int .u32 0, .slice none 0 0] := rfl
    simp [Instr.fill, h1, h2, h3]
  · intro a1 w1 hr hs hd
    obtain ⟨v9, nil', e5, e6⟩ : ∃ v9 nil', Act.get a1 10 = .agg #[.int .u32 key, v9] /\ Oct w1 (fun k => w.heap.size <= k) v9 bs nil' := hd ⟨5, .data⟩ (by simp) rfl
    refine Zw (x_buildSlice1 hT.elem e5 rfl) ⟨_, rfl, (Mod.refl w1).alloc _, v9, nil', _, rfl, Zh _ _, e6.mod ((Mod.refl w1).alloc _) (fun _ _ f => f) (fun _ h => h)⟩
  · intro a1 w1 hr hs hh
    have e1 : Act.get a1 6 = uv := hh 1 (by simp)
    obtain ⟨v9, nil', k, e6, ek, eo⟩ : ∃ v9 nil' k, Act.get a1 11 = .slice (some ⟨k, 0, none⟩) 1 1 /\ w1.heap[k]? = some (.cells #[.int .u32 key, v9] TG (0, 0)) /\ Oct w1 (fun k => w.heap.size <= k) v9 bs nil' := hh 6 (by simp)
    have sN : a1.tmps.size = 14 := hs.size.trans aN
    have t2 := (hs.get 2 (by simp)).trans a2
    have hsz := hr.size
    have h9 : v9.oneCell' = true := oct_one eo
    have hown1 := ownsRow_mod hown hr (fun _ _ f => f)
    refine wpl_append (base := B) (v := uv) (n := u.length) (xs := xs) (ad := ⟨k, 0, none⟩) (m := 1) (c := 1) (news := [.int .u32 key, v9]) hT.elem (by rw [Ze]; exact e1) (by rw [Ze]; exact e6) hown1 rfl ?_ ?_ (by omega) (by omega) ?_
    · intro j q hq
      rw [Addr.add_mid, Zc ek, Nat.zero_add]
      simpa using hq
    · intro q hq
      simp only [List.mem_cons, List.not_mem_nil, or_false] at hq
      rcases hq with rfl | rfl
      · rfl
      · exact h9
    intro uv' w2 hown2 hm2 _ hblk
    have hub : ∀ k, uv.ownBlock = some k -> B <= k /\ k < w.heap.size := fun k hk => by
      have := hown.lt k hk
      exact ⟨this.1, by have := this.2; omega⟩
    have htb1 := hr.some hb (fun f => f)
    have htb2 := hm2.some htb1 (fun e => by have := (hub tb e).1; omega)
    refine Zv rfl (Za hT.f4 (b := tb) (o0 := 0) ?_) (wpl_skip rfl (x_store1 hT.put (b := tb) (o := 0 + 4) (v := uv') (u := uv) ?_ ?_ (ownsRow_one hown2) ?_ ?_) (wpList_nil ?_))
    · simp (disch := first | omega | simp only [Zs]; omega) only [Zo, Ze, Zn, Zq, t2]
    · simp (disch := first | omega | simp only [Zs]; omega) only [Zo, Ze, Zn, Zq]
    · simp (disch := first | omega | simp only [Zs]; omega) only [Zo, Ze, Zn, Zq]
    · rw [Zc htb2]; rfl
    · exact Zz htb2
    have hm3 : Mod (only tb) w2 (w2.setCell ⟨tb, 0 + 4, none⟩ uv') := (Mod.refl w2).put _ _
    have hub' : ∀ k, uv'.ownBlock = some k -> B <= k := fun k hk => (hown2.lt k hk).1
    have hwB : ∀ k, uv.ownBlock = some k -> (fun k => k = tb \/ B <= k) k := fun k hk => .inr (hub k hk).1
    refine ⟨?_, .tuple #[], by simp [results, hres], ⟨_, rfl⟩, uv', xs ++ [.int .u32 key, v9], ?_, ?_, ⟨?_, ?_⟩, ?_⟩
    · simp only [Zo, Zd]; rw [hs.defers]; exact ad
    · exact heap_setCell_same htb2 _
    · exact ownsRow_mod hown2 hm3 (fun k hk e => by have := hub' k hk; have e' : k = tb := e; omega)
    · simp [hTC.1]; omega
    · intro i hi
      have hlen := hTC.1
      have hF : ∀ k, (w.heap.size <= k /\ k < w1.heap.size) -> B <= k /\ uv'.ownBlock ≠ some k := fun k hk => ⟨by omega, fun e => by
        rcases hblk k e with h | h
        · have := (hub k h).2; omega
        · omega⟩
      by_cases hiu : i < u.length
      · obtain ⟨g1, vi, ni, g2, g3⟩ := hTC.2 i hiu
        refine ⟨?_, vi, ni, ?_, ?_⟩
        · rw [List.getElem?_append_left (by omega), g1, List.getElem_append_left hiu]
        · rw [List.getElem?_append_left (by omega), g2]
        · rw [List.getElem_append_left hiu]
          refine ((g3.lt.mod (F' := fun k => (B <= k /\ uv.ownBlock ≠ some k) /\ k < w.heap.size) hr (fun _ _ f => f) (fun _ h => h)).mod (F' := fun k => B <= k /\ uv'.ownBlock ≠ some k) hm2 (fun k hk => hk.1.2) (fun k hk => ⟨hk.1.1, fun e => by
            rcases hblk k e with h | h
            · exact hk.1.2 h
            · have := hk.2; omega⟩)).mod hm3 (fun k hk e => by have e' : k = tb := e; have := hk.1; omega) (fun _ h => h)
      · have hie : i = u.length := by simp at hi; omega
        subst hie
        refine ⟨?_, v9, nil', ?_, ?_⟩
        · rw [List.getElem?_append_right (by omega), hlen]
          simp
        · rw [List.getElem?_append_right (by omega), hlen]
          simp
        · have : (u ++ [(key, bs)])[u.length] = (key, bs) := by simp
          rw [this]
          exact ((eo.lt.mod (F' := fun k => w.heap.size <= k /\ k < w1.heap.size) hm2 (fun k hk e => by have := (hub k e).2; have := hk.1; omega) (fun _ h => h)).mod (F' := fun k => w.heap.size <= k /\ k < w1.heap.size) hm3 (fun k hk e => by have e' : k = tb := e; have := hk.1; omega) (fun _ h => h)).mod (Mod.refl (S := none') _) (fun _ _ f => f) hF
    · exact (hr.none.trans (hm2.mono fun k _ h => hwB k h)).trans (hm3.mono fun k _ e => .inl e)
end
/-- tags told: where they lie -/
def TagsT (w : World) (F : Nat -> Prop) (uv : Value) (u : Tags) : Prop := u.length <= 4294967295 /\ ∃ g : Nat -> Nat -> Value, Elems w F uv u.length 2 g /\ ∀ i (h : i < u.length), g i 0 = .int .u32 (u[i]).1 /\ fits .u32 (u[i]).1 /\ ∃ nil, Oct w F (g i 1) (u[i]).2 nil
theorem TagsT.mod {w w' : World} {F F' S : Nat -> Prop} {uv : Value} {u : Tags} (h : TagsT w F uv u) (hm : Mod S w w') (hs : ∀ k, F k -> ¬ S k) (hf : ∀ k, F k -> F' k) : TagsT w' F' uv u := by
 obtain ⟨h1, g, h2, h3⟩ := h
 exact ⟨h1, g, h2.mod hm hs hf, fun i hi => by obtain ⟨a, b, nil, c⟩ := h3 i hi; exact ⟨a, b, nil, c.mod hm hs hf⟩⟩
theorem Elems.of_owns {w : World} {B e sz n : Nat} {v : Value} {xs : List Value} {F : Nat -> Prop} (h : w.ownsRow B e sz v n xs) (hF : ∀ k, v.ownBlock = some k -> F k) : Elems w F v n sz (fun i j => xs.getD (i * sz + j) undef) := by
 rcases h.2 with ⟨rfl, rfl⟩ | ⟨g, cap, cur, rfl, hb, hg, hnc, hcm, hsz, ht⟩
 ·exact .inl ⟨rfl, rfl⟩
 ·refine .inr ⟨g, 0, cap, cur, e, (0, 0), hF g rfl, rfl, hnc, hcm, hg, fun i hi j hj => ?_⟩
  have hlt : i * sz + j < n * sz := by
   have := Nat.mul_le_mul_right sz (show i + 1 <= n by omega)
   rw [Nat.add_mul] at this
   omega
  have h1 : (cur.toList.take (n * sz))[i * sz + j]? = xs[i * sz + j]? := by rw [ht]
  rw [List.getElem?_take, if_pos hlt, Array.getElem?_toList] at h1
  rw [Nat.zero_add, h1]
  simp [List.getD, List.getElem?_eq_getElem (show i * sz + j < xs.length by rw [h.1]; exact hlt)]
theorem TagCells.told {w : World} {B e : Nat} {uv : Value} {u : Tags} {xs : List Value} {F : Nat -> Prop} (h : w.ownsRow B e 2 uv u.length xs) (hc : TagCells w (fun k => B <= k /\ uv.ownBlock ≠ some k) u xs) (hF : ∀ k, B <= k -> F k) (hb : u.length <= 4294967295) (hk : ∀ p ∈ u, 0 <= p.1 /\ p.1 < 4294967296) : TagsT w F uv u := by
 refine ⟨hb, _, Elems.of_owns h (fun k hk => hF k (h.lt k hk).1), fun i hi => ?_⟩
 obtain ⟨g1, v, nil, g2, g3⟩ := hc.2 i hi
 have := hk u[i] (List.getElem_mem hi)
 refine ⟨?_, ?_, nil, ?_⟩
 ·show xs.getD (i * 2 + 0) undef = _
  simp [List.getD, g1]
 ·simp [fits, IntKind.min, IntKind.max, IntKind.signed, IntKind.bits]; omega
 ·show Oct w F (xs.getD (i * 2 + 1) undef) _ nil
  simp only [List.getD, g2, Option.getD_some]
  exact g3.mod (Mod.refl (S := none') w) (fun _ _ f => f) (fun k hk => hF k hk.1)
section
variable {P : Program} {σ : St} {N n TI TL UL TG yb eb id T k o : Nat} {d0 d1 d2 d3 d4 d5 d6 d7 d8 : Nat} {y0 y1 y2 y3 y4 y5 y6 y7 y8 y9 : TypeId} {p0 p1 p2 p3 p4 p5 p6 p7 p8 p9 : String} {e0 e1 e2 e3 e4 e5 e6 e7 e8 e9 : Array Edge} {i0 i1 i2 : Nat} {ts1 ts2 : Array TypeId}
theorem tree_partT {x : TX} {w0 w : World} {ts : List Tr} {uv : Value} {u : Tags} (hM : TMem x w0 w ts uv) {F : Nat -> Prop} (hF : ∀ k, w0.heap.size <= k -> F k) {c : Nat -> Value} (hl : ts.length = x.n) (hb : ts.length <= 4294967295) (hn : x.n <= maxLen)
  (h0 : c 0 = .int .i64 0) (h1 : c 1 = .slice none 0 0) (h2 : c 2 = .bool false) (h3 : c 3 = .slice (some ⟨x.lb, 0, none⟩) x.n x.n) (h4 : c 4 = uv) (hU : TagsT w F uv u) : TreeR w F c (.part ts u) := by
 obtain ⟨D, T, e1, e2, _, e4, _⟩ := hM.hl
 have e3 := hl
 obtain ⟨u1, g, u2, u3⟩ := hU
 refine .mk (f := fun i j => from' D (i * 5) j) (g := g) h0 (fits_zero _) (by rw [h1]; exact oct_nil) h2 ⟨hb, u1⟩ ?_ (fun i hi => (e4 i hi).mod (Mod.refl (S := none') w) (fun _ _ f => f) (fun k hk => hF k hk.1)) (by rw [h4]; exact u2) u3
 rw [h3]
 refine .inr ⟨x.lb, 0, x.n, D, T, (0, 0), hF _ hM.new.2.1, by rw [e3], by omega, hn, e1, fun i hi j hj => ?_⟩
 have hij : i * 5 + j < D.size := by rw [e2, <- e3]; have := Nat.mul_le_mul_right 5 (show i + 1 <= ts.length by omega); omega
 rw [Nat.zero_add]
 simp [from', hij]
/-- the last steps: the tree is handed over -/
theorem tell_finish {x : TX} {ts : List Tr} {uv : Value} {u : Tags} {a : Act} {w0 w : World} (hT : TellT P TI TL) (hok : tellOK N [] [d0] = true) (hA : TAmb N x a) (hM : TMem x w0 w ts uv) (hU : TagsT w (fun k => w0.heap.size <= k /\ k ≠ x.rb) uv u) (huv : uv.oneCell' = true) (hl : ts.length = x.n) (hb : ts.length <= 4294967295) :
  (Code.seq (.region id #[⟨some d0, .load TI (.tmp 3), y0, p0, e0, none⟩, ⟨none, .store TI (.tmp 2) (.tmp d0), y1, p1, e1, none⟩] false) .ret).wp P (fun e a' w' => e = .ret /\ a'.defers = [] /\ Act.get a' 2 = .pointer (some ⟨x.rb, 0, none⟩) /\ Mod none' w0 w' /\ ∃ cs Tc, w'.heap[x.rb]? = some (.cells cs Tc (0, 0)) /\ cs.size = 5 /\ cs.all (·.oneCell') = true /\ TreeR w' (From w0) (from' cs 0) (.part ts u)) a w := by
 obtain ⟨_, _, htl⟩ := tellOK_dl hok
 have hd := htl d0 (by simp)
 obtain ⟨T', hbb⟩ := hM.hb
 obtain ⟨z, Tz, hr, hz⟩ := hM.hr
 obtain ⟨cs, hcs⟩ : ∃ cs : Array Value, cs = #[.int .i64 0, .slice none 0 0, .bool false, .slice (some ⟨x.lb, 0, none⟩) x.n x.n, uv] := ⟨_, rfl⟩
 have hcs5 : cs.size = 5 := by rw [hcs]; rfl
 rw [<- hcs] at hbb
 have hall : cs.all (·.oneCell') = true := by rw [hcs]; simp only [List.all_toArray, List.all_cons, List.all_nil, huv]; rfl
 refine wp_seq (wp_region_lit ?_)
 refine Zv rfl (x_loadN (cs := cs.toList) (by rw [Array.length_toList, hcs5]; exact hT.many) hA.tree (fun q v hq => by rw [Zc hbb, Nat.zero_add]; simpa using hq)) ?_
 refine wpl_skip rfl (x_storeN (cs := cs) (b := x.rb) (o := 0) (by rw [hcs5]; exact hT.size) ?_ ?_ hall ?_) (wpList_nil (wp_ret ?_))
 ·rw [Ze, Zn hd.2.2.1]; exact hA.res
 ·rw [Ze, Zq (by rw [hA.size]; exact hd.1)]
 ·intro j hj
  rw [Zc hr, Zz hr, Array.getElem?_eq_getElem (by omega)]
  exact ⟨rfl, rfl⟩
 obtain ⟨C3, k1, k2, k3, k4⟩ := heap_setCells (w := w) cs.toList 0 _ hr
 have hC3 : C3 = cs := by
  apply Array.ext
  ·omega
  ·intro i h1 h2
   have := k3 i (by simpa using h2) (by omega)
   rw [Nat.zero_add, Array.getElem?_eq_getElem h1] at this
   simpa [h2] using this
 subst hC3
 have hm := mod_setCells x.rb w 0 C3.toList
 have hn3 := hM.new.2.2
 have hm' : Mod none' w0 (w.setCells x.rb 0 C3.toList) := hM.mod.trans' hm (fun _ _ f => f) (fun j hj e => by have : j = x.rb := e; omega)
 have hne := hM.ne
 have hM' : TMem x w0 (w.setCells x.rb 0 C3.toList) ts uv := by
  obtain ⟨D, T, e1, e2, e3, e4, e5⟩ := hM.hl
  obtain ⟨T', hbb'⟩ := hM.hb
  refine ⟨hm', hM.new, hM.ne, ⟨T', hm.some hbb' (fun e => hne.2.1 (Eq.symm e))⟩, ⟨D, T, hm.some e1 (fun e => hne.2.2 (Eq.symm e)), e2, e3, fun i hi => (e4 i hi).mod hm (fun k hk e => hk.2.2.2 e) (fun _ h => h), e5⟩, ⟨C3, Tz, k1, hcs5⟩⟩
 refine ⟨rfl, (Zd _ _ _).trans ((Zd _ _ _).trans hA.defers), (Zn hd.2.2.1).trans hA.res, hm', C3, Tz, k1, hcs5, hall, ?_⟩
 refine tree_partT hM' (fun k hk => hk) hl hb ?_ ?_ ?_ ?_ ?_ ?_ (hU.mod hm (fun k hk e => hk.2 e) (fun k hk => hk.1))
 ·simp only [maxLen]; omega
 all_goals (rw [hcs]; rfl)
theorem TMem.tags {x : TX} {w0 w w' : World} {ts : List Tr} {uv uv' : Value} {T : Nat} (h : TMem x w0 w ts uv) (hm : Mod (only x.tb) w w') (hb : w'.heap[x.tb]? = some (.cells #[.int .i64 0, .slice none 0 0, .bool false, .slice (some ⟨x.lb, 0, none⟩) x.n x.n, uv'] T (0, 0))) : TMem x w0 w' ts uv' := by
 obtain ⟨D, TD, h1, h2, h3, h4, h5⟩ := h.hl
 obtain ⟨z, Tz, hr, hz⟩ := h.hr
 have hn := h.new
 have hne := h.ne
 exact ⟨h.mod.trans' hm (fun _ _ f => f) (fun j hj e => by have : j = x.tb := e; omega), h.new, h.ne, ⟨T, hb⟩, ⟨D, TD, hm.some h1 (fun e => hne.1 (Eq.symm e)), h2, h3, fun i hi => (h4 i hi).mod hm (fun k hk e => hk.2.1 e) (fun _ h => h), h5⟩, ⟨z, Tz, hm.some hr (fun e => hne.2.1 e), hz⟩⟩
set_option maxHeartbeats 1000000 in
theorem twhole_tags {fC fE fS : FuncId} (hT : TellT P TI TL) (hG : TagT P TI UL TG yb eb) (htg : σ.tg = some o) (hf : fieldOff P T k = some o) (hok : tellOK N [d0, d1, d2, d3, d4, d5, d6, d7, d8] [] = true) (hbE : bodied P fE = true) (hbS : bodied P fS = true) (hbC : bodied P fC = true) (hE : EachC P fE) (hS : SortedC P fS) (hC : CloC P fC TG) : TWhole P N n σ
  (.seq (.region i0 #[⟨some d0, .move (.tmp 0), y0, p0, e0, none⟩, ⟨some d1, .nilCheck (.tmp d0), y1, p1, e1, none⟩, ⟨some d2, .fieldAddr T (.tmp d1) k, y2, p2, e2, none⟩, ⟨some d3, .makeFunc (.func fC) #[] #[.tmp 3], y3, p3, e3, none⟩, ⟨some d4, .call ⟨.value (.func fE), #[.tmp d2, .tmp d3], ts1⟩, y4, p4, e4, none⟩] false)
  (.seq (.region i1 #[⟨some d5, .fieldAddr TI (.tmp 3) 4, y5, p5, e5, none⟩, ⟨some d6, .load UL (.tmp d5), y6, p6, e6, none⟩, ⟨some d7, .call ⟨.value (.func fS), #[.tmp d6], ts2⟩, y7, p7, e7, none⟩] false)
  (.seq (.region i2 #[⟨some d8, .load TI (.tmp 3), y8, p8, e8, none⟩, ⟨none, .store TI (.tmp 2) (.tmp d8), y9, p9, e9, none⟩] false) .ret))) n (fun _ => []) := by
 intro x Fs v ts a w0 w hn hb hts hA hCur hM
 rw [List.append_nil]
 obtain ⟨hdl, hnd, _⟩ := tellOK_dl hok
 simp only [List.nodup_cons, List.mem_cons, List.not_mem_nil, or_false, not_or] at hnd
 obtain ⟨⟨n01, n02, n03, n04, _⟩, ⟨n12, n13, n14, _⟩, ⟨n23, n24, _⟩, ⟨n34, _⟩, _, ⟨n56, n57, _⟩, ⟨n67, _⟩, _⟩ := hnd
 have D := fun d hd => hdl d hd
 simp only [List.mem_cons, List.not_mem_nil, or_false, forall_eq_or_imp, forall_eq] at hdl
 obtain ⟨q0, q1, q2, q3, q4, q5, q6, q7, q8⟩ := hdl
 have aN := hA.size
 -- the tags' place
 obtain ⟨C, tC, hC1, hC2, _, hC4⟩ := hCur.mem
 rw [htg] at hC4
 obtain ⟨mv, hmv⟩ : ∃ mv, mv = from' C x.off o := ⟨_, rfl⟩
 replace hC4 : TagsR w0 Fs mv v.2 := by rw [hmv]; exact hC4
 have hcell0 : C[x.off + o]? = some mv := by
  have hnu : mv ≠ undef := by rcases hC4 with ⟨h, _⟩ | ⟨r, _, _, _, h, _⟩ <;> (rw [h]; simp [undef])
  simp only [from', Array.getD_eq_getD_getElem?] at hmv
  cases hc : C[x.off + o]? with
  | none => rw [hc] at hmv; exact (hnu hmv).elim
  | some q => rw [hc] at hmv; simp at hmv; rw [hmv]
 have hcell : w.cell? ⟨x.blk, x.off + o, none⟩ = some mv := by rw [Zc (hM.mod.some hC1 (fun f => f))]; exact hcell0
 have hblk : x.blk < w0.heap.size := lt_of_block hC1
 have hsz0 := hM.mod.size
 have hnew := hM.new
 have hTw : TagsR w (fun k => Fs k /\ k < w0.heap.size) mv v.2 := hC4.lt'.mod hM.mod (fun _ _ f => f) (fun _ h => h)
 obtain ⟨hsorted, hulen, hkeys⟩ : v.2.Pairwise (fun p q => p.1 < q.1) /\ v.2.length <= 4294967295 /\ ∀ p ∈ v.2, 0 <= p.1 /\ p.1 < 4294967296 /\ p.2.length <= 4294967295 := by
  rcases hTw with ⟨_, h⟩ | ⟨r, es, cl, _, _, _, h1, h2, h3, _⟩
  ·rw [h]; simp
  ·exact ⟨h1, h2.2, h3⟩
 obtain ⟨T', hbb⟩ := hM.hb
 have htbw := lt_of_block hbb
 -- each tag
 refine wp_seq (wp_region_lit (Zv rfl Zm (Zv rfl (x_nilCheck (q := ⟨x.blk, x.off, none⟩) ?_) (Zv rfl (Za hf (b := x.blk) (o0 := x.off) ?_) (Zv rfl x_makeFunc (wpl_call rfl (Zy hbE rfl)
  (R := fun e w1 => ∃ r, e = .returned r /\ Mod (only x.tb) w w1 /\ ∃ B uv xs, w.heap.size <= B /\ B <= w1.heap.size /\ w1.heap[x.tb]? = some (.cells #[.int .i64 0, .slice none 0 0, .bool false, .slice (some ⟨x.lb, 0, none⟩) x.n x.n, uv] T' (0, 0)) /\ w1.ownsRow B TG 2 uv v.2.length xs /\ TagCells w1 (fun k => B <= k /\ uv.ownBlock ≠ some k) v.2 xs) ?_ ?_))))))
 ·rw [Ze, Zq (by rw [aN]; exact q0.1), Ze]; exact hA.src
 ·rw [Ze, Zq (by simp only [Zs]; rw [aN]; exact q1.1)]
 ·have e1 : ∀ (a : Act) (p : Value), Act.get a d2 = .pointer (some ⟨x.blk, x.off + o, none⟩) -> Act.get a d3 = p -> (#[Operand.tmp d2, .tmp d3] : Array Operand).map a.eval = #[.pointer (some ⟨x.blk, x.off + o, none⟩), p] := fun a p h h' => by simp [Ze, h, h']
  rw [e1 _ (.func (.func fC) #[] #[.pointer (some ⟨x.tb, 0, none⟩)]) ?_ ?_]
  ·refine (hE w x.blk (x.off + o) mv v.2 _ fC #[.pointer (some ⟨x.tb, 0, none⟩)] (only x.tb)
    (fun B pre w1 => ∃ uv xs, w1.heap[x.tb]? = some (.cells #[.int .i64 0, .slice none 0 0, .bool false, .slice (some ⟨x.lb, 0, none⟩) x.n x.n, uv] T' (0, 0)) /\ w1.ownsRow B TG 2 uv pre.length xs /\ TagCells w1 (fun k => B <= k /\ uv.ownBlock ≠ some k) pre xs)
    hcell hTw (fun e => by have e' : x.blk = x.tb := e; omega) (fun k hk e => by have e' : k = x.tb := e; have := hk.2; omega) (fun k e => by have e' : k = x.tb := e; omega) hbC ?_ ?_).mono ?_
   ·intro B w1 h1 h2 hm
    exact ⟨.slice none 0 0, [], hm.some hbb (fun f => f), World.ownsRow_nil _ _ _ _, rfl, fun i hi => by simp at hi⟩
   ·rintro B pre p suf w1 val nil hps hB hBw ⟨uv, xs, g1, g2, g3⟩ hoct hkey
    have hl : pre.length < 4294967295 := by rw [hps] at hulen; simp at hulen; omega
    refine (hC w1 B x.tb _ _ _ _ uv T' pre xs p.1 val p.2 nil _ g1 (by omega) hBw g2 hl g3 hoct hkey.2.2).mono ?_
    rintro e w2 ⟨hr, uv', xs', k1, k2, k3, k4⟩
    exact ⟨hr, ⟨uv', xs', k1, by simpa using k2, k3⟩, k4⟩
   ·rintro e w1 ⟨⟨r, rfl⟩, ⟨B, h1, h2, uv, xs, g1, g2, g3⟩, hm⟩
    exact ⟨r, rfl, hm, B, uv, xs, h1, h2, g1, g2, g3⟩
  ·rw [Zn (fun e => n23 e.symm), Zq (by simp only [Zs]; rw [aN]; exact q2.1)]
  ·rw [Zq (by simp only [Zs]; rw [aN]; exact q3.1)]
   simp only [List.map_toArray, List.map_cons, List.map_nil, Ze]
   rw [Zn q2.2.2.2, Zn q1.2.2.2, Zn q0.2.2.2, hA.tree]
 rintro e w1 ⟨r, rfl, hm1, B, uv, xs, hB, hBw, hb1, hown, hTC⟩
 refine ⟨r, rfl, wpList_nil ?_⟩
 have hM1 : TMem x w0 w1 ts uv := hM.tags hm1 hb1
 have hA1 : ∀ r5 : Value, TAmb N x (Act.put (Act.put (Act.put (Act.put (Act.put a (some d0) (a.eval (.tmp 0))) (some d1) (.pointer (some ⟨x.blk, x.off, none⟩))) (some d2) (.pointer (some ⟨x.blk, x.off + o, none⟩))) (some d3) r5) (some d4) r) := fun r5 => ((((hA.put q0.2 _).put q1.2 _).put q2.2 _).put q3.2 _).put q4.2 _
 refine wp_act (fun a : Act => TAmb N x a) (hA1 _) ?_
 clear hA hA1 aN
 rintro a hA
 have aN := hA.size
 have hrlt : x.rb < w.heap.size := by obtain ⟨z, Tz, hr, _⟩ := hM.hr; exact lt_of_block hr
 have hU : TagsT w1 (fun k => w0.heap.size <= k /\ k ≠ x.rb) uv v.2 := hTC.told hown (fun k hk => ⟨by omega, by omega⟩) hulen (fun p hp => ⟨(hkeys p hp).1, (hkeys p hp).2.1⟩)
 -- they are in order
 refine wp_seq (wp_region_lit (Zv rfl (Za hG.f4 (b := x.tb) (o0 := 0) (by rw [Ze]; exact hA.tree)) (Zv rfl (Zl hG.one (b := x.tb) (o := 0 + 4) (v := uv) ?_ (by rw [Zc hb1]; rfl)) (wpl_call rfl (Zy hbS rfl) (R := fun e w2 => (∃ r, e = .returned r) /\ Mod none' w1 w2) ?_ ?_))))
 ·rw [Ze, Zq (by rw [aN]; exact q5.1)]
 ·have e1 : ∀ (a : Act), Act.get a d6 = uv -> (#[Operand.tmp d6] : Array Operand).map a.eval = #[uv] := fun a h => by simp [Ze, h]
  rw [e1 _ ?_]
  ·obtain ⟨_, g, u2, u3⟩ := hU
   exact hS w1 _ uv v.2 g u2 (fun i hi => (u3 i hi).1) hsorted hulen
  ·rw [Zq (by simp only [Zs]; rw [aN]; exact q6.1)]
 rintro e w2 ⟨⟨r2, rfl⟩, hm2⟩
 refine ⟨r2, rfl, wpList_nil ?_⟩
 exact tell_finish hT (by have := D d8 (by simp); simp [tellOK, this]) (((hA.put q5.2 _).put q6.2 _).put q7.2 _) (hM1.grow hm2) (hU.mod hm2 (fun _ _ f => f) (fun _ h => h)) (ownsRow_one hown) (hts.trans hn.symm) (by omega)
end
end Go.Proofs.YtcldbjehliladaaDoor
set_option linter.unusedSimpArgs false
set_option linter.unusedVariables false
namespace Go.Proofs.YtcldbjehliladaaDoor
open Go Go.RowKit
def isPtr (P : Program) (t : TypeId) : Bool := match P.underlying t with
 | some (.pointer _) => true
 | _ => false
def isSlice (P : Program) (t : TypeId) : Bool := match P.underlying t with
 | some (.slice _) => true
 | _ => false
section
variable {P : Program} {ρ : Operand -> Value} {w : World} {d : Option Tmp} {ty : TypeId} {p : String} {af : Array Edge} {g : Option (Nat × Bool)}
theorem x_eqlPtr {x : Operand} {t u : TypeId} {m : Option Addr} (ht : isPtr P t = true) (hρ : ∀ v, ρ (.const v) = v) (hx : ρ x = .pointer m) : (execOp ρ ⟨d, .binOp .eql t x (.const (.pointer none)) u, ty, p, af, g⟩).run P w = .ok (.value (.bool m.isNone)) w := by
 obtain ⟨e, hu⟩ : ∃ e, P.underlying t = some (.pointer e) := by
  unfold isPtr at ht
  cases hu : P.underlying t with
  | none => simp [hu] at ht
  | some ds => cases ds <;> simp_all
 have he : (Op.equal t (.pointer m) (.pointer none)).run P w = .ok m.isNone w := by
  show (Op.equalIn (9999 + 1) t (.pointer m) (.pointer none)).run P w = _
  rw [Op.equalIn]
  simp only [Sem.run_bind, run_underlying hu, Result.andThen_ok]
  cases m <;> rfl
 simp [execOp, hx, hρ, eqGuard, binOp, he]
theorem x_eqlSlice {x : Operand} {t u : TypeId} {m : Option Addr} {n c : Nat} (ht : isSlice P t = true) (hρ : ∀ v, ρ (.const v) = v) (hx : ρ x = .slice m n c) : (execOp ρ ⟨d, .binOp .eql t x (.const (.slice none 0 0)) u, ty, p, af, g⟩).run P w = .ok (.value (.bool m.isNone)) w := by
 obtain ⟨e, hu⟩ : ∃ e, P.underlying t = some (.slice e) := by
  unfold isSlice at ht
  cases hu : P.underlying t with
  | none => simp [hu] at ht
  | some ds => cases ds <;> simp_all
 have he : (Op.equal t (.slice m n c) (.slice none 0 0)).run P w = .ok m.isNone w := by
  show (Op.equalIn (9999 + 1) t (.slice m n c) (.slice none 0 0)).run P w = _
  rw [Op.equalIn]
  simp only [Sem.run_bind, run_underlying hu, Result.andThen_ok]
  cases m <;> rfl
 simp [execOp, hx, hρ, eqGuard, binOp, he]
end
theorem tellT : TellT Tryd.prog 26 23 where
 ord := rfl
 f3 := by kernel_rfl
 one := by kernel_rfl
 elem := by kernel_rfl
 size := by kernel_rfl
 many := by kernel_rfl
 zero := by kernel_rfl
 parts := by kernel_rfl
theorem tagT : TagT Tryd.prog 26 24 61 22 5 where
 f4 := by kernel_rfl
 one := by kernel_rfl
 put := by kernel_rfl
 elem := by kernel_rfl
 oct := by kernel_rfl
 parts := by kernel_rfl
 ord := rfl
/-- what is told of a field of some kind by a function of its own -/
def LeafC (P : Program) (f : FuncId) (ty : Ty) : Prop := ∀ w F c t, Rep w F ty c t -> Calls P f #[c 0] w fun e w' => ∃ r, e = .returned r /\ Mod none' w w' /\ TreeV w' (From w) r t
theorem put_tree {w : World} {rb : Nat} {z cs : Array Value} {Tz : Nat} (hr : w.heap[rb]? = some (.cells z Tz (0, 0))) (hz : z.size = cs.size) : (w.setCells rb 0 cs.toList).heap[rb]? = some (.cells cs Tz (0, 0)) := by
 obtain ⟨C3, k1, k2, k3, k4⟩ := heap_setCells (w := w) cs.toList 0 _ hr
 have hC3 : C3 = cs := by
  apply Array.ext
  ·omega
  ·intro i h1 h2
   have := k3 i (by simpa using h2) (by omega)
   rw [Nat.zero_add, Array.getElem?_eq_getElem h1] at this
   simpa [h2] using this
 rw [k1, hC3]
/-- a tree is put into the answer's place, and handed over -/
theorem leaf_ret {P : Program} {fn : Func} {TI TL d : Nat} {cs z : Array Value} {Tz rb : Nat} {w0 w : World} {a : Act} {t : Tr} {ops : Array Oper} {Q : Exit -> Act -> World -> Prop} {R : Ending -> World -> Prop} {y : TypeId} {p : String} {e : Array Edge} (hres : fn.results = #[.cell 2 TI]) (hT : TellT P TI TL)
  (h2 : Act.get a 2 = .pointer (some ⟨rb, 0, none⟩)) (hd : Act.get a d = .agg cs) (hc5 : cs.size = 5) (hall : cs.all (·.oneCell') = true) (hr : w.heap[rb]? = some (.cells z Tz (0, 0))) (hz : z.size = 5) (hm : Mod none' w0 w) (hrb : w0.heap.size <= rb)
  (ht : TreeR w (fun k => w0.heap.size <= k /\ k ≠ rb) (from' cs 0) t) (ad : a.defers = []) (hQ : ∀ a w, (bodyPost P fn R .ret a w) -> Q .normal a w)
  (hR : ∀ r w', (∃ r', Ending.returned r = Ending.returned r' /\ Mod none' w0 w' /\ TreeV w' (From w0) r' t) -> R (Ending.returned r) w') :
  wpList P ops Q [⟨none, .store TI (.tmp 2) (.tmp d), y, p, e, none⟩] a w := by
 refine wpl_skip rfl (x_storeN (cs := cs) (b := rb) (o := 0) (by rw [hc5]; exact hT.size) (by rw [Ze]; exact h2) (by rw [Ze]; exact hd) hall ?_) (wpList_nil (hQ _ _ ?_))
 ·intro j hj
  rw [Zc hr, Zz hr, Array.getElem?_eq_getElem (by omega)]
  exact ⟨rfl, rfl⟩
 have k1 := put_tree (cs := cs) hr (by omega)
 have hm2 := mod_setCells rb w 0 cs.toList
 refine bodyPost_ret (results_cellN hres (cs := cs.toList) h2 (by rw [Array.length_toList, hc5]; exact hT.many) (fun j v hv => by rw [Zc k1, Nat.zero_add]; simpa using hv)) ((Zd _ _ _).trans ad) (hR _ _ ⟨_, rfl, hm.trans' hm2 (fun _ _ f => f) (fun j hj e => by have e' : j = rb := e; omega), cs, by simp, hc5, hall, ht.mod hm2 (fun k hk e => hk.2 e) (fun k hk => hk.1)⟩)
theorem leaf_text {TL : Nat} (hT : TellT Tryd.prog 26 TL) : LeafC Tryd.prog 50 .pstr := by
 intro w F c t hrep
 simp only [Rep] at hrep
 refine calls_of_wp Tryd.func50 rfl ?_
 rw [Tryd.ntmps50]
 refine wp_act (fun a : Act => Act.get a 0 = c 0 /\ a.tmps.size = 11 /\ a.defers = []) ⟨by rw [Zj _ _ _ (by simp)]; rfl, by simp, rfl⟩ ?_
 rintro a ⟨a0, aN, ad⟩
 obtain ⟨rb, hrb⟩ : ∃ rb, rb = w.heap.size := ⟨_, rfl⟩
 refine wp_seq (wp_region_lit (Zv rfl (x_alloc hT.zero) (wpList_nil ?_)))
 have r1 := Zh w (.cells (Value.agg #[.int .i64 0, .slice none 0 0, .bool false, .slice none 0 0, .slice none 0 0]).cells 26)
 have m1 : Mod none' w (w.alloc (.cells (Value.agg #[.int .i64 0, .slice none 0 0, .bool false, .slice none 0 0, .slice none 0 0]).cells 26)) := (Mod.refl w).alloc _
 have s1 : (w.alloc (.cells (Value.agg #[.int .i64 0, .slice none 0 0, .bool false, .slice none 0 0, .slice none 0 0]).cells 26)).heap.size = w.heap.size + 1 := by simp
 generalize w.alloc (.cells (Value.agg #[.int .i64 0, .slice none 0 0, .bool false, .slice none 0 0, .slice none 0 0]).cells 26) = w1 at *
 rw [<- hrb] at r1 s1 ⊢
 replace r1 : w1.heap[rb]? = some (.cells #[.int .i64 0, .slice none 0 0, .bool false, .slice none 0 0, .slice none 0 0] 26 (0, 0)) := r1
 obtain ⟨o, ho, hbl, rfl⟩ := hrep
 cases o with
 | none =>
  have hc : c 0 = .pointer none := ho
  refine wp_seq (wp_seq (wp_region_lit (Zv rfl Zm (Zv rfl (x_eqlPtr (m := none) (by kernel_rfl) (fun _ => rfl) ?_) (wpList_nil ?_)))))
  ·simp (disch := first | omega | simp only [Zs]; omega) only [Zo, Ze, Zn, Zq, a0, hc]
  refine wp_cond_true ?_ (wp_seq (wp_region_lit (Zv rfl (x_build (cells := #[.int .i64 0, .slice none 0 0, .bool true, .slice none 0 0, .slice none 0 0]) ?_) ?_)))
  ·simp (disch := first | omega | simp only [Zs]; omega) only [Zo, Ze, Zn, Zq]
   rfl
  ·simp only [List.map_toArray, List.map_cons, List.map_nil]
   rw [built_of hT.parts]
   rfl
  refine leaf_ret (rb := rb) (w0 := w) (t := .nul) ?_ hT ?_ (Zq (by simp only [Zs]; omega)) rfl (by simp [Value.oneCell']) r1 rfl m1 (by omega) (tree_octs rfl oct_nil rfl rfl rfl) ?_ (fun _ _ h => wp_ret (by first | exact h | (simp only [Exit.then]; exact h))) (fun r w' h => h)
  ·rfl
  ·simp (disch := first | omega | simp only [Zs]; omega) only [Zo, Ze, Zn, Zq]
  ·simp only [Zd]; exact ad
 | some bs =>
  obtain ⟨k, tk, hF, hc, hk⟩ := ho
  have hb := hbl bs rfl
  refine wp_seq (wp_seq (wp_region_lit (Zv rfl Zm (Zv rfl (x_eqlPtr (m := some ⟨k, 0, none⟩) (by kernel_rfl) (fun _ => rfl) ?_) (wpList_nil ?_)))))
  ·simp (disch := first | omega | simp only [Zs]; omega) only [Zo, Ze, Zn, Zq, a0, hc]
  refine wp_cond_false ?_ (wp_skip ?_)
  ·simp (disch := first | omega | simp only [Zs]; omega) only [Zo, Ze, Zn, Zq]
   rfl
  have hk1 := m1.some hk (fun f => f)
  refine wp_seq (wp_region_lit (Zv rfl Zm (Zv rfl (x_nilCheck (q := ⟨k, 0, none⟩) ?_) (Zv rfl (Zl (b := k) (o := 0) (v := .string (str bs)) (by kernel_rfl) ?_ ?_) (Zv rfl (x_strBytes (e := 5) (s := str bs) (by kernel_rfl) ?_) (Zv rfl (x_build (cells := #[.int .i64 0, .slice (some ⟨w1.heap.size, 0, none⟩) (str bs).size (grownCap w1 (str bs).size 0 5), .bool false, .slice none 0 0, .slice none 0 0]) ?_) ?_))))))
  ·simp (disch := first | omega | simp only [Zs]; omega) only [Zo, Ze, Zn, Zq, a0, hc]
  ·simp (disch := first | omega | simp only [Zs]; omega) only [Zo, Ze, Zn, Zq]
  ·rw [Zc hk1]; rfl
  ·simp (disch := first | omega | simp only [Zs]; omega) only [Zo, Ze, Zn, Zq]
  ·simp only [List.map_toArray, List.map_cons, List.map_nil]
   rw [built_of hT.parts]
   rw [Ze, Zq (by simp only [Zs]; omega)]
   rfl
  have ho := bytes_oct (w := w1) (F := fun k => w.heap.size <= k /\ k ≠ rb) (bs := bs) (e := 5) hb ⟨by omega, by omega⟩
  have m2 : Mod none' w1 (w1.drew.alloc (.cells (bytesRow (str bs) (grownCap w1 (str bs).size 0 5)) 5 ((bytesRow (str bs) (grownCap w1 (str bs).size 0 5)).size, (bytesRow (str bs) (grownCap w1 (str bs).size 0 5)).size + 1))) := ((Mod.refl w1).drew).alloc _
  refine leaf_ret (rb := rb) (w0 := w) (t := .oct bs) ?_ hT ?_ (Zq (by simp only [Zs]; omega)) rfl (by simp [Value.oneCell']) (m2.some r1 (fun f => f)) rfl (m1.trans m2) (by omega) (tree_octs rfl ho rfl rfl rfl) ?_ (fun _ _ h => wp_ret (by first | exact h | (simp only [Exit.then]; exact h))) (fun r w' h => h)
  ·rfl
  ·simp (disch := first | omega | simp only [Zs]; omega) only [Zo, Ze, Zn, Zq]
  ·simp only [Zd]; exact ad
end Go.Proofs.YtcldbjehliladaaDoor
set_option linter.unusedSimpArgs false
set_option linter.unusedVariables false
namespace Go.Proofs.YtcldbjehliladaaDoor
open Go Go.RowKit
def Ty.leaf : Ty -> Bool
 | .bool => true
 | .pstr => true
 | .bytes => true
 | _ => false
theorem rep_leaf {w : World} {F : Nat -> Prop} {ty : Ty} {c : Nat -> Value} {t : Tr} (h : ty.leaf = true) (hr : Rep w F ty c t) : c 0 ≠ undef := by
 cases ty <;> simp [Ty.leaf] at h
 ·simp only [Rep] at hr; obtain ⟨b, hb, _⟩ := hr; rw [hb]; simp [undef]
 ·simp only [Rep] at hr
  obtain ⟨o, ho, _⟩ := hr
  cases o with
  | none => have e : c 0 = .pointer none := ho; rw [e]; simp [undef]
  | some bs => obtain ⟨k, t, _, e, _⟩ := ho; rw [e]; simp [undef]
 ·simp only [Rep] at hr
  obtain ⟨bs, nil, ho, _⟩ := hr
  obtain ⟨ao, cap, h, _⟩ := oct_slice ho
  rw [h]; simp [undef]
section
variable {P : Program} {σ : St} {N n TI TL T k i o j ys id fL : Nat} {ty : Ty} {d0 d1 d2 d3 d4 d5 d6 d7 d8 : Nat} {ts : Array TypeId} {y0 y1 y2 y3 y4 y5 y6 y7 y8 y9 : TypeId} {p0 p1 p2 p3 p4 p5 p6 p7 p8 p9 : String}
theorem tell_leaf (hT : TellT P TI TL) (hL : LeafC P fL ty) (hbd : bodied P fL = true) (hlf : ty.leaf = true) (ho1 : one P ys = true) (hf : fieldOff P T k = some o) (hat : σ.lay.at i = some (o, ty)) (hok : tellOK N [d0, d1, d2, d3, d4, d5, d6] [d7] = true) (hj : j < n) : TBlk P N n σ
    (Code.region id #[⟨some d0, .fieldAddr TI (.tmp 3) 3, y0, p0, #[], none⟩, ⟨some d1, .load TL (.tmp d0), y1, p1, #[⟨0, .data⟩], none⟩, ⟨some d2, .move (.tmp 0), y2, p2, #[], none⟩, ⟨some d3, .nilCheck (.tmp d2), y3, p3, #[⟨2, .data⟩], none⟩,
      ⟨some d4, .fieldAddr T (.tmp d3) k, y4, p4, #[⟨3, .data⟩], none⟩, ⟨some d5, .load ys (.tmp d4), y5, p5, #[⟨4, .data⟩], none⟩, ⟨some d6, .call ⟨.value (.func fL), #[.tmp d5], ts⟩, y6, p6, #[⟨5, .data⟩], none⟩,
      ⟨some d7, .indexAddr TL (.tmp d1) (.const (.int .i64 (j : Nat))), y7, p7, #[⟨1, .data⟩, ⟨0, .phase⟩, ⟨1, .phase⟩, ⟨2, .phase⟩, ⟨3, .phase⟩, ⟨4, .phase⟩, ⟨5, .phase⟩, ⟨6, .phase⟩], none⟩,
      ⟨none, .store TI (.tmp d7) (.tmp d6), y8, p8, #[⟨7, .data⟩, ⟨6, .data⟩, ⟨6, .chain⟩, ⟨0, .phase⟩, ⟨1, .phase⟩, ⟨2, .phase⟩, ⟨3, .phase⟩, ⟨4, .phase⟩, ⟨5, .phase⟩, ⟨6, .phase⟩], none⟩] true) j (fun v => v.1.getD i Tr.nul) := by
  intro x Fs v tz uv a w0 w hxn hts hA hC hM
  subst hts
  replace hj : tz.length < x.n := by omega
  obtain ⟨hdl, hnd, htl⟩ := tellOK_dl hok
  obtain ⟨C, tC, hC1, hC2, hC3, _⟩ := hC.mem
  obtain ⟨u, hu, hrep⟩ := RepL.get _ _ _ _ _ _ hat hC3
  have hgd : v.1.getD i Tr.nul = u := by simp [List.getD, hu]
  show Code.wp _ _ (fun e a' w' => e = .normal /\ TAmb N x a' /\ TMem x w0 w' (tz ++ [v.1.getD i Tr.nul]) uv) _ _
  rw [hgd]
  obtain ⟨c0, hc0⟩ : ∃ c0, c0 = from' C x.off (o + 0) := ⟨_, rfl⟩
  have hcell : C[x.off + o]? = some c0 := by
    have hnu := rep_leaf hlf hrep
    simp only [<- hc0] at hnu
    simp only [from', Nat.add_zero, Array.getD_eq_getD_getElem?] at hc0
    cases hc : C[x.off + o]? with
    | none => rw [hc] at hc0; exact (hnu hc0).elim
    | some q => rw [hc] at hc0; simp at hc0; rw [hc0]
  have hnew := hM.new
  have hlt : x.tb < w.heap.size /\ x.lb < w.heap.size /\ x.rb < w.heap.size := by
    obtain ⟨T', hb⟩ := hM.hb
    obtain ⟨D, TD, hl, _⟩ := hM.hl
    obtain ⟨z, Tz, hr, _⟩ := hM.hr
    exact ⟨lt_of_block hb, lt_of_block hl, lt_of_block hr⟩
  have hl0 := hM.mod.size
  have hTF : ∀ k, w.heap.size <= k -> TF x w0 k := fun k hk => ⟨by omega, by omega, by omega, by omega⟩
  refine region_rlt (l := [_, _, _, _, _, _, _]) (tl := [_, _]) hT.ord (Mod none') (Mod.refl w).drew (fun _ _ _ h h' => h.trans h') [d0, d1, d2, d3, d4, d5, d6]
    [fun v _ => v = .pointer (some ⟨x.tb, 0 + 3, none⟩), fun v _ => v = .slice (some ⟨x.lb, 0, none⟩) x.n x.n, fun v _ => v = .pointer (some ⟨x.blk, x.off, none⟩), fun v _ => v = .pointer (some ⟨x.blk, x.off, none⟩),
     fun v _ => v = .pointer (some ⟨x.blk, x.off + o, none⟩), fun v _ => v = c0, fun v w' => TreeV w' (TF x w0) v u]
    ?_ (by simp [regFormT]) hnd (fun d hd => by rw [hA.size]; exact (hdl d hd).1) (by simp) (by kernel_rfl) ⟨?_, ?_, ?_, ?_, ?_, ?_, ?_, trivial⟩ ?_
  · intro g hg v1 w1 w2 hv hr
    simp only [List.mem_cons, List.not_mem_nil, or_false] at hg
    rcases hg with rfl | rfl | rfl | rfl | rfl | rfl | rfl
    · exact hv
    · exact hv
    · exact hv
    · exact hv
    · exact hv
    · exact hv
    · exact TreeV.mod hv hr (fun _ _ f => f) (fun _ h => h)
  · intro a1 w1 hr hs hd
    have t3 := (hs.get 3 (fun hm => (hdl 3 hm).2.2.2 rfl)).trans hA.tree
    exact Zw (Za hT.f3 t3) ⟨_, rfl, .refl _, rfl⟩
  · intro a1 w1 hr hs hd
    have e0 : Act.get a1 d0 = .pointer (some ⟨x.tb, 0 + 3, none⟩) := hd ⟨0, .data⟩ (by simp) rfl
    obtain ⟨T', hb⟩ := hM.hb
    exact Zw (Zl hT.one e0 (by rw [Zc (hr.some hb (fun f => f))]; rfl)) ⟨_, rfl, .refl _, rfl⟩
  · intro a1 w1 hr hs hd
    have t0 := (hs.get 0 (fun hm => (hdl 0 hm).2.1 rfl)).trans hA.src
    exact Zw (x_moveV t0) ⟨_, rfl, .refl _, rfl⟩
  · intro a1 w1 hr hs hd
    have e2 : Act.get a1 d2 = .pointer (some ⟨x.blk, x.off, none⟩) := hd ⟨2, .data⟩ (by simp) rfl
    exact Zw (x_nilCheck e2) ⟨_, rfl, .refl _, rfl⟩
  · intro a1 w1 hr hs hd
    have e3 : Act.get a1 d3 = .pointer (some ⟨x.blk, x.off, none⟩) := hd ⟨3, .data⟩ (by simp) rfl
    exact Zw (Za hf e3) ⟨_, rfl, .refl _, rfl⟩
  · intro a1 w1 hr hs hd
    have e4 : Act.get a1 d4 = .pointer (some ⟨x.blk, x.off + o, none⟩) := hd ⟨4, .data⟩ (by simp) rfl
    exact Zw (Zl ho1 e4 (by rw [Zc ((hM.mod.trans hr).some hC1 (fun f => f))]; exact hcell)) ⟨_, rfl, .refl _, rfl⟩
  · intro a1 w1 hr hs hd
    have e5 : Act.get a1 d5 = c0 := hd ⟨5, .data⟩ (by simp) rfl
    refine owp_call (Zy hbd rfl) (R := fun e w' => ∃ r, e = .returned r /\ Mod none' w1 w' /\ TreeV w' (From w1) r u) ?_ ?_
    · have e1 : (#[Operand.tmp d5] : Array Operand).map a1.eval = #[c0] := by simp [Ze, e5]
      rw [e1, hc0]
      exact hL w1 Fs (fun q => from' C x.off (o + q)) u (Rep.mod (hM.mod.trans hr) (fun _ _ f => f) (fun _ h => h) ty _ u hrep)
    · rintro e w2 ⟨r, rfl, hm, ht⟩
      have := hr.size
      exact ⟨r, rfl, r, rfl, hm, ht.mod (Mod.refl (S := none') w2) (fun _ _ f => f) (fun k hk => hTF k (by have hk' : w1.heap.size <= k := hk; omega))⟩
  · intro a1 w1 hr hs hh
    have e1 : Act.get a1 d1 = .slice (some ⟨x.lb, 0, none⟩) x.n x.n := hh 1 (by simp)
    obtain ⟨cs, e7, e8, e9, e10⟩ : TreeV w1 (TF x w0) (Act.get a1 d6) u := hh 6 (by simp)
    have hd7 := htl d7 (by simp)
    have sN : a1.tmps.size = N := hs.size.trans hA.size
    have hM1 := hM.grow hr
    obtain ⟨D, TD, hl, hD1, hD2, hD3⟩ := hM1.hl
    refine Zv rfl (Zx (i := tz.length) (elemSize_of hT.elem) e1 rfl hj) ?_
    refine wpl_skip rfl (x_storeN (cs := cs) (b := x.lb) (o := 0 + tz.length * 5) (by rw [e8]; exact hT.size) ?_ ?_ e9 ?_) (wpList_nil ?_)
    · rw [Ze, Zq (by rw [sN]; exact hd7.1)]
    · rw [Ze, Zn (fun e => hd7.2.2.2.2 (by simp [e]))]
      exact e7
    · intro q hq
      have : tz.length * 5 + 5 <= x.n * 5 := by
        have := Nat.mul_le_mul_right 5 (show tz.length + 1 <= x.n by omega)
        omega
      rw [Zc hl, Zz hl, Array.getElem?_eq_getElem (by omega)]
      exact ⟨rfl, rfl⟩
    · have hAB : TAmb N x a1 := hA.same hs (fun hm => (hdl 0 hm).2.1 rfl) (fun hm => (hdl 2 hm).2.2.1 rfl) (fun hm => (hdl 3 hm).2.2.2 rfl)
      exact ⟨rfl, hAB.put ⟨hd7.2.1, hd7.2.2.1, hd7.2.2.2.1⟩ _, hM1.push hj e8 e10⟩
end
end Go.Proofs.YtcldbjehliladaaDoor
