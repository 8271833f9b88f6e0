/-
  Sixteen octets: the reader's method.
-/
import Derived.Laws.IdiomCopy
import Derived.Test.YtcldbjehliladaaDoorPRu
import Derived.Test.YtcldbjehliladaaDoorPTelL
set_option linter.unusedSimpArgs false
set_option linter.unusedVariables false
namespace Go.Proofs.YtcldbjehliladaaDoor
open Go Go.RowKit
/-- a type of rows of sixteen octets -/
def arr16 (P : Program) (t e : Nat) : Bool := match P.underlying t, P.info? e with
 | some (.array n e'), some i => n == 16 && e' == e && i.size == 1
 | _, _ => false
section
variable {P : Program} {ρ : Operand -> Value} {w : World} {d : Option Tmp} {ty : TypeId} {p : String} {af : Array Edge} {g : Option (Nat × Bool)}
theorem x_sliceArr {x : Operand} {t e b o : Nat} (hA : arr16 P t e = true) (hx : ρ x = .pointer (some ⟨b, o, none⟩)) :
  (execOp ρ ⟨d, .slice t x none none none, ty, p, af, g⟩).run P w = .ok (.value (.slice (some ⟨b, o, none⟩) 16 16)) w := by
 unfold arr16 at hA
 cases hu : P.underlying t with
 | none => simp [hu] at hA
 | some ds =>
  cases ds with
  | array n e' =>
   cases hi : P.info? e with
   | none => simp [hu, hi] at hA
   | some i =>
    simp [hu, hi] at hA
    obtain ⟨⟨rfl, rfl⟩, h2⟩ := hA
    have hl : P.arrayLen t = 16 := by simp [Program.arrayLen, hu]
    have he : P.elem t = e' := by simp [Program.elem, hu]
    have h := run_sliceAt_array_all (P := P) w t ⟨b, o, none⟩ (by rw [hl, he]; exact hu)
    rw [hl, he] at h
    have h0 : (Instr.sliceAt t (.pointer (some ⟨b, o, none⟩)) none none none).run P w = .ok (.slice (some ⟨b, o, none⟩) 16 16) w := by
     rw [h]; simp [sizeOf, typeInfo, hi, slicedAt, Addr.add]
    simp [execOp, hx, h0]
  | _ => simp [hu] at hA
/-- a copy of octets over others -/
theorem x_copyOver {x y : Operand} {t t2 e b o n cap sb off m c : Nat} {cs : List Value} (hI : elemInfo P t e 1 = true) (hx : ρ x = .slice (some ⟨b, o, none⟩) n cap) (hy : ρ y = .slice (some ⟨sb, off, none⟩) m c) (hl : cs.length = Nat.min m n)
  (hsrc : ∀ j v, cs[j]? = some v -> w.cell? ⟨sb, off + j, none⟩ = some v) (hc : ∀ j, j < cs.length -> (w.cell? ⟨b, o + j, none⟩).isSome = true) (hf : ∀ j, j < cs.length -> w.frozen? ⟨b, o + j, none⟩ = false) (h1 : ∀ v ∈ cs, v.oneCell' = true) :
  (execOp ρ ⟨d, .call ⟨.builtin .copy, #[x, y], #[t, t2]⟩, ty, p, af, g⟩).run P w = .ok (.value (goInt cs.length)) (w.setCells b o cs) := by
 obtain ⟨hu, i, z, hi, hz, h2, _⟩ := elemInfo_spec hI
 have h := run_copy_cells (P := P) w t t2 ty e b o n cap ⟨sb, off, none⟩ m c cs hu (by simp [hi, h2]) hl (fun j v hv => by rw [Addr.add_mid]; exact hsrc j v hv) hc hf h1
 simp [execOp, resolve, invoke, builtin, hx, hy, h]
theorem x_copyNone {x y : Operand} {t t2 e n cap : Nat} {a : Option Addr} (hI : elemInfo P t e 1 = true) (hx : ρ x = .slice a n cap) (hy : ρ y = .slice none 0 0) :
  (execOp ρ ⟨d, .call ⟨.builtin .copy, #[x, y], #[t, t2]⟩, ty, p, af, g⟩).run P w = .ok (.value (goInt 0)) w := by
 obtain ⟨hu, i, z, hi, hz, h2, _⟩ := elemInfo_spec hI
 have h := run_copy_none (P := P) w t t2 ty e a none n cap 0 0 hu (by simp [hi, h2]) (by simp [Nat.min_def])
 simp [execOp, resolve, invoke, builtin, hx, hy, h]
end
theorem zeroU' : zeroOf Tryd.prog 80 = some (.agg (Array.replicate 16 (.int .u8 0))) := by kernel_rfl
theorem zeroU : ∃ z : Value, zeroOf Tryd.prog 80 = some z /\ z.cells.size = 16 := ⟨_, zeroU', rfl⟩
theorem Rd.mod' {S : Nat -> Prop} {w w' : World} {rb sb : Nat} {s : RS} (h : Rd w rb sb s) (hm : Mod S w w') (h1 : ¬ S rb) (h2 : s.nil = false -> ¬ S sb) : Rd w' rb sb s := by
 obtain ⟨hl, hn, src, t, hb, hs⟩ := h
 refine ⟨hm.lt hl, hn, src, t, hm.some hb h1, ?_⟩
 cases hnil : s.nil with
 | true =>
  rw [hnil] at hs
  rcases hs with hs | ⟨hs, _⟩
  ·exact .inl hs
  ·cases hs
 | false => rw [hnil] at hs; exact hs.mod hm (h2 hnil)
theorem Rd.live {w : World} {rb sb : Nat} {s : RS} (h : Rd w rb sb s) (hn : s.nil = false) : sb < w.heap.size := by
 obtain ⟨_, _, src, t, hb, hs⟩ := h
 rcases hs with ⟨hs, _⟩ | ⟨_, off, cap, c, t, fr, _, _, _, h6, _⟩
 ·rw [hn] at hs; cases hs
 ·exact lt_of_block h6
theorem rdSpan_snil {l : Int} {s : RS} (h : (rdSpan l s).2.nil = false) : s.nil = false := by
 unfold rdSpan at h
 split at h
 ·cases h
 ·exact h
theorem rdSpan_nil {l : Int} {s : RS} (h : (rdSpan l s).1.2 = false) : ((rdSpan l s).1.1).length = l.toNat := by
 unfold rdSpan at h ⊢
 by_cases hs : (s.bs.length : Int) < l \/ l < 0
 ·rw [if_pos hs] at h; cases h
 ·rw [if_neg hs]
  simp only [List.length_take]
  omega
set_option maxRecDepth 10000 in
theorem rc_Uuid : RdC Tryd.prog 77 .uuid (fun s => (.oct (rdUuid s).1, (rdUuid s).2)) := by
 intro w rb sb s h
 refine calls_of_wp Tryd.func77 rfl ?_
 rw [Tryd.ntmps77]
 refine wp_act (fun a : Act => Act.get a 0 = .pointer (some ⟨rb, 0, none⟩) /\ a.tmps.size = 9 /\ a.defers = []) ⟨by rw [Zj _ _ _ (by simp)]; rfl, by simp, rfl⟩ ?_
 rintro a ⟨a0, aN, ad⟩
 refine wp_seq (wp_region_lit (Zv rfl (x_alloc zeroU') (wpList_nil ?_)))
 obtain ⟨b2, hb2⟩ : ∃ b, b = w.heap.size := ⟨_, rfl⟩
 have r1 := Zh w (.cells (Value.agg (Array.replicate 16 (.int .u8 0))).cells 80)
 have m1 : Mod none' w (w.alloc (.cells (Value.agg (Array.replicate 16 (.int .u8 0))).cells 80)) := (Mod.refl w).alloc _
 have s1 : (w.alloc (.cells (Value.agg (Array.replicate 16 (.int .u8 0))).cells 80)).heap.size = w.heap.size + 1 := by simp
 generalize w.alloc (.cells (Value.agg (Array.replicate 16 (.int .u8 0))).cells 80) = w1 at *
 rw [<- hb2] at r1 s1 ⊢
 replace r1 : w1.heap[b2]? = some (.cells (Array.replicate 16 (.int .u8 0)) 80 (0, 0)) := r1
 refine wp_seq (wp_region_lit (Zv rfl (x_alloc zeroU') (wpList_nil ?_)))
 obtain ⟨kb, hkb⟩ : ∃ b, b = w1.heap.size := ⟨_, rfl⟩
 have r2 := Zh w1 (.cells (Value.agg (Array.replicate 16 (.int .u8 0))).cells 80)
 have m2 : Mod none' w1 (w1.alloc (.cells (Value.agg (Array.replicate 16 (.int .u8 0))).cells 80)) := (Mod.refl w1).alloc _
 have s2 : (w1.alloc (.cells (Value.agg (Array.replicate 16 (.int .u8 0))).cells 80)).heap.size = w1.heap.size + 1 := by simp
 generalize w1.alloc (.cells (Value.agg (Array.replicate 16 (.int .u8 0))).cells 80) = w2 at *
 rw [<- hkb] at r2 s2 ⊢
 replace r2 : w2.heap[kb]? = some (.cells (Array.replicate 16 (.int .u8 0)) 80 (0, 0)) := r2
 replace r1 := m2.some r1 (fun f => f)
 have hrbl : rb < w.heap.size := by obtain ⟨_, _, src, t, hb, _⟩ := h; exact lt_of_block hb
 have h2 : Rd w2 rb sb s := (h.mod m1 (fun f => f) (fun f => f)).mod m2 (fun f => f) (fun f => f)
 refine wp_act (fun a : Act => Act.get a 0 = .pointer (some ⟨rb, 0, none⟩) /\ Act.get a 2 = .pointer (some ⟨b2, 0, none⟩) /\ Act.get a 3 = .pointer (some ⟨kb, 0, none⟩) /\ a.tmps.size = 9 /\ a.defers = []) ⟨?_, ?_, ?_, ?_, ?_⟩ ?_
 ·rw [Zn (by decide), Zn (by decide)]; exact a0
 ·rw [Zn (by decide), Zq (by omega)]
 ·rw [Zq (by simp only [Zs]; omega)]
 ·simp only [Zs]; exact aN
 ·simp only [Zd]; exact ad
 clear a0 aN ad a
 rintro a ⟨a0, a2, a3, aN, ad⟩
 have hms : Mod (only rb) w w2 := (m1.trans m2).mono fun _ _ f => f.elim
 -- what is there behind the copy
 refine wp_seq (wp_mono (Q := fun e a' w' => e = .normal /\ Act.get a' 2 = .pointer (some ⟨b2, 0, none⟩) /\ Act.get a' 3 = .pointer (some ⟨kb, 0, none⟩) /\ a'.tmps.size = 9 /\ a'.defers = [] /\ Rd w' rb sb (rdUuid s).2 /\ Mod (only rb) w w' /\
  w'.heap[b2]? = some (.cells (Array.replicate 16 (.int .u8 0)) 80 (0, 0)) /\ ∃ cs : Array Value, w'.heap[kb]? = some (.cells cs 80 (0, 0)) /\ cs.size = 16 /\ ∀ i (h : i < (rdUuid s).1.length), cs[i]? = some (.int .u8 ((rdUuid s).1[i]).toNat)) ?_ ?_)
 ·refine region_rlq (l := [_, _, _]) (tl := [_]) rfl (Mod (only rb)) (fun a b h => h.none) (fun _ _ _ h h' => h.trans h') [4, 5, 6]
   [fun v _ => v = .slice (some ⟨kb, 0, none⟩) 16 16, fun v _ => v = .pointer (some ⟨rb, 0, none⟩)]
   (fun v w' => Src w' v sb (rdSpan 16 s).1.1 (rdSpan 16 s).1.2 /\ Rd w' rb sb (rdSpan 16 s).2)
   ?_ ?_ (by simp [regFormT]) (by decide) (fun d hd => by simp at hd; omega) (by simp) (by kernel_rfl) ⟨?_, ?_, ?_, trivial⟩ ?_
  ·intro g hg v1 w3 w4 hv hr
   simp only [List.mem_cons, List.not_mem_nil, or_false] at hg
   rcases hg with rfl | rfl <;> exact hv
  ·rintro v1 w3 w4 ⟨g1, g2⟩ hr
   exact ⟨g1.mod hr (fun f => f), g2.mod hr (fun f => f) (fun f => f)⟩
  ·intro a1 w3 hr hp hs hd
   have e3 : Act.get a1 3 = .pointer (some ⟨kb, 0, none⟩) := (hs.get 3 (by decide)).trans a3
   exact Zw (x_sliceArr (e := 5) (by kernel_rfl) e3) ⟨_, rfl, relp_ne (by rfl) (Mod.refl w3), rfl⟩
  ·intro a1 w3 hr hp hs hd
   have e0 : Act.get a1 0 = .pointer (some ⟨rb, 0, none⟩) := (hs.get 0 (by decide)).trans a0
   exact Zw (x_moveV e0) ⟨_, rfl, relp_ne (by rfl) (Mod.refl w3), rfl⟩
  ·intro a1 w3 hr hp hs hd
   have e5 : Act.get a1 5 = .pointer (some ⟨rb, 0, none⟩) := hd ⟨1, .data⟩ (by simp) rfl
   have e1 : (#[Operand.tmp 5, .const (.int .i64 16)] : Array Operand).map a1.eval = #[.pointer (some ⟨rb, 0, none⟩), .int .i64 16] := by simp [Ze, e5]; rfl
   refine owp_call (Zy (by kernel_rfl) rfl) (by rw [e1]; exact rd_Span 16 (h2.mod (hp rfl) (fun f => f) (fun f => f))) ?_
   rintro e w4 ⟨⟨v, rfl, hv⟩, hrd, hm⟩
   exact ⟨v, rfl, v, rfl, relp_eq hm, hv, hrd⟩
  ·intro a1 w3 hr hs hh
   have e4 : Act.get a1 4 = .slice (some ⟨kb, 0, none⟩) 16 16 := hh 0 (by simp)
   obtain ⟨hsrc, hrd⟩ : Src w3 (Act.get a1 6) sb (rdSpan 16 s).1.1 (rdSpan 16 s).1.2 /\ Rd w3 rb sb (rdSpan 16 s).2 := hh 2 (by simp)
   have k2 := hr.some r1 (fun e => by have e' : b2 = rb := e; omega)
   have k3 := hr.some r2 (fun e => by have e' : kb = rb := e; omega)
   have g2 := (hs.get 2 (by decide)).trans a2
   have g3 := (hs.get 3 (by decide)).trans a3
   have gN := hs.size.trans aN
   have gd : a1.defers = [] := hs.defers.trans ad
   rcases hsrc with ⟨q1, q2, q3⟩ | ⟨q1, off, cap, c, t', fr, q2, q3, q4, q5, q6⟩
   ·refine Zv rfl (x_copyNone (e := 5) (n := 16) (cap := 16) (by kernel_rfl) (by rw [Ze]; exact e4) (by rw [Ze]; exact q2)) (wpList_nil ⟨rfl, ?_, ?_, ?_, ?_, hrd, hms.trans hr, k2, _, k3, by simp, ?_⟩)
    ·rw [Zn (by decide)]; exact g2
    ·rw [Zn (by decide)]; exact g3
    ·rw [Zs]; exact gN
    ·rw [Zd]; exact gd
    ·intro i hi
     have e : (rdUuid s).1 = List.replicate 16 0 := by unfold rdUuid; rw [q3]; rfl
     have hi' : i < 16 := by rw [rdUuid_len] at hi; exact hi
     have h0 : (rdUuid s).1[i] = 0 := by simp only [e]; exact List.getElem_replicate _
     rw [h0]; simp [hi']
   ·have hl : (rdSpan 16 s).1.1.length = 16 := rdSpan_nil q1
    have eU : (rdUuid s).1 = (rdSpan 16 s).1.1 := by unfold rdUuid; rw [if_pos hl]
    have hsbk : sb ≠ kb := fun e => by
     obtain ⟨_, _, src, t, _, hs'⟩ := h
     rcases hs' with ⟨n1, n2, n3⟩ | ⟨n1, off', cap', c', t'', fr', _, _, _, n6, _⟩
     ·have : (rdSpan 16 s).1.1.length <= s.bs.length := by unfold rdSpan; split <;> simp <;> omega
      rw [n3] at this; simp at this; rw [this] at hl; simp at hl
     ·have := lt_of_block n6; omega
    refine Zv rfl (x_copyOver (e := 5) (n := 16) (cap := 16) (b := kb) (o := 0) (cs := (rdSpan 16 s).1.1.map fun x => Value.int .u8 x.toNat) (by kernel_rfl) (by rw [Ze]; exact e4) (by rw [Ze]; exact q2) (by rw [List.length_map, hl]; rfl) ?_ ?_ ?_ ?_) (wpList_nil ?_)
    ·intro j v hv
     rw [Zc q5]
     simp only [List.getElem?_map, Option.map_eq_some_iff] at hv
     obtain ⟨q, hq, rfl⟩ := hv
     obtain ⟨hj, rfl⟩ := List.getElem?_eq_some_iff.1 hq
     exact q6 j hj
    ·intro j hj
     rw [List.length_map, hl] at hj
     rw [Zc k3, Nat.zero_add, Array.getElem?_eq_getElem (by simpa using hj)]; rfl
    ·intro j hj; exact Zz k3
    ·intro v hv; obtain ⟨q, _, rfl⟩ := List.mem_map.1 hv; rfl
    obtain ⟨C', z1, z2, z3, z4⟩ := heap_setCells (w := w3) ((rdSpan 16 s).1.1.map fun x => Value.int .u8 x.toNat) 0 _ k3
    have hm3 := mod_setCells kb w3 0 ((rdSpan 16 s).1.1.map fun x => Value.int .u8 x.toNat)
    refine ⟨rfl, ?_, ?_, ?_, ?_, hrd.mod hm3 (fun e => by have e' : rb = kb := e; omega) (fun e => hsbk e), (hms.trans hr).trans' hm3 (fun _ _ h => h) (fun i hi e => by have e' : i = kb := e; omega), hm3.some k2 (fun e => by have e' : b2 = kb := e; omega), C', z1, z2.trans (by simp), ?_⟩
    ·rw [Zn (by decide)]; exact g2
    ·rw [Zn (by decide)]; exact g3
    ·rw [Zs]; exact gN
    ·rw [Zd]; exact gd
    ·intro i hi
     have hi' : i < 16 := by rw [rdUuid_len] at hi; exact hi
     have := z3 i (by rw [List.length_map, hl]; exact hi') (by simp; exact hi')
     rw [Nat.zero_add] at this
     simp only [List.getElem_map] at this
     simp only [eU]; exact this
 clear a0 a2 a3 aN ad a
 rintro e a w3 ⟨rfl, a2, a3, aN, ad, hrd, hmw, k2, cs, k3, hcs, hcells⟩
 have hall : cs.all (·.oneCell') = true := by
  rw [Array.all_eq_true]
  intro i hi
  have := hcells i (by rw [rdUuid_len]; omega)
  rw [Array.getElem?_eq_getElem hi] at this
  rw [Option.some.inj this]; rfl
 refine wp_seq (wp_region_lit (Zv rfl (x_loadN (cs := cs.toList) (b := kb) (o := 0) (by rw [Array.length_toList, hcs]; kernel_rfl) (by rw [Ze]; exact a3) (fun j v hv => by rw [Zc k3, Nat.zero_add]; simpa using hv)) ?_))
 refine wpl_skip rfl (x_storeN (cs := cs) (b := b2) (o := 0) (by rw [hcs]; kernel_rfl) ?_ ?_ hall ?_) (wpList_nil ?_)
 ·rw [Ze, Zn (by decide)]; exact a2
 ·rw [Ze, Zq (by omega)]
 ·intro j hj
  rw [Zc k2, Zz k2, Array.getElem?_eq_getElem (by simp; omega)]
  exact ⟨rfl, rfl⟩
 have hm4 := mod_setCells b2 w3 0 cs.toList
 obtain ⟨C5, z1, z2, z3, z4⟩ := heap_setCells (w := w3) cs.toList 0 _ k2
 have hC5 : C5 = cs := by
  apply Array.ext
  ·rw [z2, hcs]; simp
  ·intro i i1 i2
   have := z3 i (by simpa using i2) (by simp; omega)
   rw [Nat.zero_add, Array.getElem?_eq_getElem i1] at this
   simpa [i2] using this
 subst hC5
 refine wp_ret (by
  refine bodyPost_ret (results_cellN rfl (cs := C5.toList) (b := b2) (o := 0) ?_ (by rw [Array.length_toList, hcs]; kernel_rfl) (fun j v hv => by rw [Zc z1, Nat.zero_add]; simpa using hv)) ?_ ?_
  ·show Act.get _ 2 = _
   rw [Zo, Zn (by decide)]; exact a2
  ·simp only [Zd]; exact ad
  ·refine ⟨⟨_, rfl, fun F _ _ => .inr ⟨rfl, C5, by simp, hcs, hall, ?_⟩⟩, ?_, ?_⟩
   ·simp only [Rep]
    refine ⟨_, rdUuid_len s, fun i hi => ?_, rfl⟩
    exact get_from' (by rw [Nat.zero_add]; exact hcells i hi)
   ·exact hrd.mod' hm4 (fun e => by have e' : rb = b2 := e; omega) (fun hn e => by have e' : sb = b2 := e; have := h.live (rdSpan_snil hn); omega)
   ·exact hmw.trans' hm4 (fun _ _ h => h) (fun i hi e => by have e' : i = b2 := e; omega))
end Go.Proofs.YtcldbjehliladaaDoor
