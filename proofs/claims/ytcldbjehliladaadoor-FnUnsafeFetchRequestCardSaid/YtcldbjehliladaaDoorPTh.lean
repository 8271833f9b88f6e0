/-
  Tags.Set and internalReadTags.
-/
import Derived.Test.YtcldbjehliladaaDoorPTg
import Derived.Test.YtcldbjehliladaaDoorPDoor
set_option linter.unusedSimpArgs false
set_option linter.unusedVariables false
namespace Go.Proofs.YtcldbjehliladaaDoor
open Go Go.RowKit
section
variable {P : Program} {ρ : Operand -> Value} {w : World} {d : Option Tmp} {ty : TypeId} {p : String} {af : Array Edge} {g : Option (Nat × Bool)}
theorem x_eqlMap {x : Operand} {t u : TypeId} {m : Option Nat} (ht : isMap32 P t = true) (hρ : ∀ v, ρ (.const v) = v) (hx : ρ x = .map m) : (execOp ρ ⟨d, .binOp .eql t x (.const (.map none)) u, ty, p, af, g⟩).run P w = .ok (.value (.bool m.isNone)) w := by
 obtain ⟨kt, et, hu, _⟩ := isMap32_spec ht
 have he : (Op.equal t (.map m) (.map none)).run P w = .ok m.isNone w := by
  show (Op.equalIn (9999 + 1) t (.map m) (.map none)).run P w = _
  rw [Op.equalIn]
  simp only [Sem.run_bind, run_underlying hu, Result.andThen_ok]
  cases m <;> rfl
 simp [execOp, hx, hρ, eqGuard, binOp, he]
theorem x_makeMap {t : TypeId} : (execOp ρ ⟨d, .makeMap t none, ty, p, af, g⟩).run P w = .ok (.value (.map (some w.heap.size))) (w.alloc (.map #[] 0)) := by
 simp [execOp, run_makeMap]
theorem x_mapUpdate {x y z : Operand} {t : TypeId} {mv kv v : Value} {w' : World} (hx : ρ x = mv) (hy : ρ y = kv) (hz : ρ z = v) (h : (Instr.mapUpdate t mv kv v).run P w = .ok () w') :
  (execOp ρ ⟨d, .mapUpdate t x y z, ty, p, af, g⟩).run P w = .ok .skip w' := by
 simp [execOp, hx, hy, hz, h]
theorem x_sub {x y : Operand} {t u : TypeId} {k : IntKind} {m n : Int} (hx : ρ x = .int k m) (hy : ρ y = .int k n) : (execOp ρ ⟨d, .binOp .sub t x y u, ty, p, af, g⟩).run P w = .ok (.value (.int k (k.wrap (m - n)))) w := by
 simp [execOp, hx, hy, eqGuard, binOp, Op.intArith]
end
/-- what setting a tag does -/
def SetTagC (P : Program) (f : FuncId) : Prop := ∀ (w : World) (tb off : Nat) (C : Array Value) (t : TypeId) (F : Nat -> Prop) (mv : Value) (u : Tags) (k : Int) (v : Value) (bs : List UInt8) (nil : Bool), w.heap[tb]? = some (.cells C t (0, 0)) -> C[off]? = some mv -> TagsR w F mv u -> ¬ F tb -> F w.heap.size ->
 (0 <= k /\ k < 4294967296) -> Oct w F v bs nil -> u.length < 4294967295 -> bs.length <= 4294967295 -> Calls P f #[.pointer (some ⟨tb, off, none⟩), .int .u32 k, v] w fun e w' => ∃ r', e = .returned r' /\ ∃ r, F r /\ (mv = .map (some r) \/ (mv = .map none /\ r = w.heap.size)) /\ Mod (fun b => b = tb \/ b = r) w w' /\
  (∃ C', w'.heap[tb]? = some (.cells C' t (0, 0)) /\ C'.size = C.size /\ C'[off]? = some (.map (some r)) /\ ∀ j, j ≠ off -> C'[j]? = C[j]?) /\ MapAt w' F r (setTag u k bs)
theorem TagsR.split {w : World} {F : Nat -> Prop} {mv : Value} {u : Tags} (h : TagsR w F mv u) : (mv = .map none /\ u = []) \/ ∃ r, F r /\ mv = .map (some r) /\ MapAt w F r u := by
 rcases h with h | ⟨r, es, clock, h1, h2, h3, h4⟩
 ·exact .inl h
 ·exact .inr ⟨r, h1, h2, es, clock, h3, h4.1, h4.2.1.2, h4.2.2⟩
theorem tagTypes : (fieldOff Tryd.prog 76 0 = some 0) /\ one Tryd.prog 74 = true /\ isMap32 Tryd.prog 74 = true /\ sized Tryd.prog 74 1 = true := ⟨by kernel_rfl, by kernel_rfl, by kernel_rfl, by kernel_rfl⟩
theorem setTag_spec : SetTagC Tryd.prog 72 := by
 intro w tb off C t F mv u k v bs nil hb hc hT htb hfr hk hv hlen hbl
 have hoC : off < C.size := (Array.getElem?_eq_some_iff.1 hc).1
 have hcell : w.cell? ⟨tb, off + 0, none⟩ = some mv := by rw [Zc hb]; exact hc
 refine calls_of_wp Tryd.func72 rfl ?_
 rw [Tryd.ntmps72]
 refine wp_act (fun a : Act => Act.get a 0 = .pointer (some ⟨tb, off, none⟩) /\ Act.get a 1 = .int .u32 k /\ Act.get a 2 = v /\ a.tmps.size = 21 /\ a.defers = []) ⟨by rw [Zj _ _ _ (by simp)]; rfl, by rw [Zj _ _ _ (by simp)]; rfl, by rw [Zj _ _ _ (by simp)]; rfl, by simp, rfl⟩ ?_
 rintro a ⟨a0, a1, a2, aN, ad⟩
 obtain ⟨m, hm⟩ : ∃ m, mv = .map m := by rcases hT.split with ⟨h, _⟩ | ⟨r, _, h, _⟩ <;> exact ⟨_, h⟩
 obtain ⟨hF0, h1, hM, hS⟩ := tagTypes
 refine wp_seq (wp_mono (Q := fun e a w1 => e = .normal /\ Act.get a 0 = .pointer (some ⟨tb, off, none⟩) /\ Act.get a 1 = .int .u32 k /\ Act.get a 2 = v /\ a.tmps.size = 21 /\ a.defers = [] /\ ∃ r C1, w1.heap[tb]? = some (.cells C1 t (0, 0)) /\ C1.size = C.size /\ C1[off]? = some (.map (some r)) /\ (∀ j, j ≠ off -> C1[j]? = C[j]?) /\
   Mod (fun b => b = tb \/ b = r) w w1 /\ F r /\ (mv = .map (some r) \/ (mv = .map none /\ r = w.heap.size)) /\ MapAt w1 F r u /\ Oct w1 F v bs nil) ?_ ?_)
 ·refine wp_seq (wp_region_lit (Zv rfl Zm (Zv rfl (x_nilCheck (q := ⟨tb, off, none⟩) ?_) (Zv rfl (Za hF0 (b := tb) (o0 := off) ?_) (Zv rfl (Zl h1 (b := tb) (o := off + 0) ?_ hcell) (Zv rfl (x_eqlMap (m := m) hM (fun _ => rfl) ?_) (wpList_nil ?_)))))))
  ·simp (disch := first | omega | simp only [Zs]; omega) only [Zo, Ze, Zn, Zq, a0]
  ·simp (disch := first | omega | simp only [Zs]; omega) only [Zo, Ze, Zn, Zq]
  ·simp (disch := first | omega | simp only [Zs]; omega) only [Zo, Ze, Zn, Zq]
  ·simp (disch := first | omega | simp only [Zs]; omega) only [Zo, Ze, Zn, Zq, hm]
  refine wp_act (fun a : Act => Act.get a 0 = .pointer (some ⟨tb, off, none⟩) /\ Act.get a 1 = .int .u32 k /\ Act.get a 2 = v /\ Act.get a 10 = .bool m.isNone /\ a.tmps.size = 21 /\ a.defers = []) ⟨?_, ?_, ?_, ?_, ?_, ?_⟩ ?_
  ·simp (disch := first | omega | simp only [Zs]; omega) only [Zo, Ze, Zn, Zq, a0]
  ·simp (disch := first | omega | simp only [Zs]; omega) only [Zo, Ze, Zn, Zq, a1]
  ·simp (disch := first | omega | simp only [Zs]; omega) only [Zo, Ze, Zn, Zq, a2]
  ·simp (disch := first | omega | simp only [Zs]; omega) only [Zo, Ze, Zn, Zq]
  ·simp only [Zs]; exact aN
  ·simp only [Zd]; exact ad
  clear a0 a1 a2 aN ad
  rintro a ⟨a0, a1, a2, a10, aN, ad⟩
  rcases hT.split with ⟨hmv, hu⟩ | ⟨r, hr, hmv, hMA⟩
  ·have hmn : m = none := by rw [hm] at hmv; simpa using hmv
   subst hmn
   refine wp_cond_true (by rw [Ze]; exact a10) (wp_region_lit (Zv rfl Zm (Zv rfl x_makeMap (Zv rfl (x_nilCheck (q := ⟨tb, off, none⟩) ?_) (Zv rfl (Za hF0 (b := tb) (o0 := off) ?_) ?_)))))
   ·simp (disch := first | omega | simp only [Zs]; omega) only [Zo, Ze, Zn, Zq, a0]
   ·simp (disch := first | omega | simp only [Zs]; omega) only [Zo, Ze, Zn, Zq]
   have hw1 : Mod none' w (w.alloc (.map #[] 0)) := (Mod.refl w).alloc _
   have hMA := mapAt_new w F
   have hb1 := hw1.some hb (fun f => f)
   have htl : tb < w.heap.size := lt_of_block hb
   have hs1 : (w.alloc (.map #[] 0)).heap.size = w.heap.size + 1 := by simp
   have hv1 := hv.mod (F' := F) hw1 (fun _ _ f => f) (fun _ h => h)
   generalize w.alloc (.map #[] 0) = w1 at *
   refine wpl_skip rfl (x_store1 hS (b := tb) (o := off + 0) (v := .map (some w.heap.size)) (u := mv) ?_ ?_ rfl (by rw [Zc hb1]; exact hc) (Zz hb1)) (wpList_nil ?_)
   ·simp (disch := first | omega | simp only [Zs]; omega) only [Zo, Ze, Zn, Zq]
   ·simp (disch := first | omega | simp only [Zs]; omega) only [Zo, Ze, Zn, Zq]
   have hm2 : Mod (only tb) w1 (w1.setCell ⟨tb, off + 0, none⟩ (.map (some w.heap.size))) := (Mod.refl w1).put _ _
   refine ⟨rfl, ?_, ?_, ?_, ?_, ?_, w.heap.size, C.setIfInBounds (off + 0) (.map (some w.heap.size)), heap_setCell_same hb1 _, by simp, by simp [hoC], fun j hj => by rw [Array.getElem?_setIfInBounds_ne (by omega)], hw1.none.trans (hm2.mono fun _ _ e => .inl e), hfr, .inr ⟨hmv, rfl⟩, ?_, ?_⟩
   ·simp (disch := first | omega | simp only [Zs]; omega) only [Zo, Ze, Zn, Zq, a0]
   ·simp (disch := first | omega | simp only [Zs]; omega) only [Zo, Ze, Zn, Zq, a1]
   ·simp (disch := first | omega | simp only [Zs]; omega) only [Zo, Ze, Zn, Zq, a2]
   ·simp only [Zo, Zs]; exact aN
   ·simp only [Zo, Zd]; exact ad
   ·obtain ⟨es, clock, q1, q2, q3, q4, kb, q5, q6, q7, q8⟩ := hMA
    rw [hu]
    have hkb : kb = [] := by simpa using q5
    subst hkb
    exact ⟨es, clock, hm2.some q1 (fun e => by have : w.heap.size = tb := e; omega), q2, q3, q4, [], q5, q6, q7, fun i hi => by simp at hi⟩
   ·exact hv1.mod hm2 (fun q hq e => htb (by have e' : q = tb := e; rw [<- e']; exact hq)) (fun _ h => h)
  ·have hmn : m = some r := by rw [hm] at hmv; simpa using hmv
   subst hmn
   refine wp_cond_false (by rw [Ze]; exact a10) (wp_skip ⟨rfl, a0, a1, a2, aN, ad, r, C, hb, rfl, by rw [hc, hmv], fun _ _ => rfl, .refl w, hr, .inl hmv, hMA, hv⟩)
 clear a0 a1 a2 aN ad hcell
 rintro e a w1 ⟨rfl, a0, a1, a2, aN, ad, r, C1, hb1, hsz, hc1, hout, hmod, hFr, hwhich, hMA, hv1⟩
 obtain ⟨w2, hrun, hm2, hMA2⟩ := run_mapSet (P := Tryd.prog) (t := 74) hM hMA hk hv1 hlen hbl
 refine wp_region_lit (Zv rfl Zm (Zv rfl (x_nilCheck (q := ⟨tb, off, none⟩) ?_) (Zv rfl (Za hF0 (b := tb) (o0 := off) ?_) (Zv rfl (Zl h1 (b := tb) (o := off + 0) (v := .map (some r)) ?_ (by rw [Zc hb1]; exact hc1)) (Zv rfl Zm (Zv rfl Zm (wpl_skip rfl (x_mapUpdate ?_ ?_ ?_ hrun) (wpList_nil ?_))))))))
 ·simp (disch := first | omega | simp only [Zs]; omega) only [Zo, Ze, Zn, Zq, a0]
 ·simp (disch := first | omega | simp only [Zs]; omega) only [Zo, Ze, Zn, Zq]
 ·simp (disch := first | omega | simp only [Zs]; omega) only [Zo, Ze, Zn, Zq]
 ·simp (disch := first | omega | simp only [Zs]; omega) only [Zo, Ze, Zn, Zq]
 ·simp (disch := first | omega | simp only [Zs]; omega) only [Zo, Ze, Zn, Zq, a1]
 ·simp (disch := first | omega | simp only [Zs]; omega) only [Zo, Ze, Zn, Zq, a2]
 have hrt : r ≠ tb := fun e => htb (e ▸ hFr)
 refine ⟨?_, .tuple #[], by simp [results, Tryd.results72], _, rfl, r, hFr, hwhich, hmod.trans (hm2.mono fun _ _ e => .inr e), ⟨C1, hm2.some hb1 (fun e => hrt (Eq.symm e)), hsz, hc1, hout⟩, hMA2⟩
 simp only [Zo, Zd]; exact ad
/-- so many tags are read -/
def rdTagsN : Nat -> Tags -> RS -> Tags × RS
 | 0, u, s => (u, s)
 | n + 1, u, s => rdTagsN n (setTag u (rdUvarint s).1 (rdSpan (rdUvarint (rdUvarint s).2).1 (rdUvarint (rdUvarint s).2).2).1.1) (rdSpan (rdUvarint (rdUvarint s).2).1 (rdUvarint (rdUvarint s).2).2).2
def rdTags (s : RS) : Tags × RS := rdTagsN (rdUvarint s).1.toNat [] (rdUvarint s).2
/-- reading tags -/
def TagC (P : Program) (f : FuncId) : Prop := ∀ w rb sb s, Rd w rb sb s -> sb < w.heap.size -> Calls P f #[.pointer (some ⟨rb, 0, none⟩)] w fun e w' =>
 (∃ mv, e = .returned (.agg #[mv]) /\ ∀ F : Nat -> Prop, F sb -> (∀ k, w.heap.size <= k -> F k) -> TagsR w' F mv (rdTags s).1) /\ Rd w' rb sb (rdTags s).2 /\ Mod (only rb) w w'
theorem zeroTags : zeroOf Tryd.prog 76 = some (.agg #[.map none]) /\ many Tryd.prog 76 1 = true /\ sized Tryd.prog 76 1 = true /\ intTy Tryd.prog 58 .u32 = true /\ intTy Tryd.prog 3 .i64 = true := ⟨by kernel_rfl, by kernel_rfl, by kernel_rfl, by kernel_rfl, by kernel_rfl⟩
set_option maxHeartbeats 1000000 in
theorem readTags_spec : TagC Tryd.prog 85 := by
 intro w0 rb sb s hR hsb
 obtain ⟨hz, hmany, hszT, hi32, hi64⟩ := zeroTags
 have hrb : rb < w0.heap.size := hR.1
 have hne : rb ≠ sb := hR.2.1
 refine calls_of_wp Tryd.func85 rfl ?_
 rw [Tryd.ntmps85]
 refine wp_act (fun a : Act => Act.get a 0 = .pointer (some ⟨rb, 0, none⟩) /\ a.tmps.size = 24 /\ a.defers = []) ⟨by rw [Zj _ _ _ (by simp)]; rfl, by simp, rfl⟩ ?_
 rintro a ⟨a0, aN, ad⟩
 obtain ⟨b0, hb0⟩ : ∃ b0, b0 = w0.heap.size := ⟨_, rfl⟩
 refine wp_seq (wp_region_lit (Zv rfl (x_alloc hz) (wpList_nil ?_)))
 have k1 := Zh w0 (.cells (Value.agg #[.map none]).cells 76)
 have m1 : Mod none' w0 (w0.alloc (.cells (Value.agg #[.map none]).cells 76)) := (Mod.refl w0).alloc _
 have s1 : (w0.alloc (.cells (Value.agg #[.map none]).cells 76)).heap.size = w0.heap.size + 1 := by simp
 generalize w0.alloc (.cells (Value.agg #[.map none]).cells 76) = w1 at *
 refine wp_seq (wp_region_lit (Zv rfl (x_alloc hz) (wpList_nil ?_)))
 have k2 := Zh w1 (.cells (Value.agg #[.map none]).cells 76)
 have m2 : Mod none' w1 (w1.alloc (.cells (Value.agg #[.map none]).cells 76)) := (Mod.refl w1).alloc _
 have s2 : (w1.alloc (.cells (Value.agg #[.map none]).cells 76)).heap.size = w1.heap.size + 1 := by simp
 generalize w1.alloc (.cells (Value.agg #[.map none]).cells 76) = w2 at *
 rw [<- hb0] at k1 s1 ⊢
 rw [s1] at k2 s2 ⊢
 have k1' := m2.some k1 (fun f => f)
 have m02 : Mod none' w0 w2 := m1.trans m2
 have hR2 : Rd w2 rb sb s := hR.mod m02 (fun f => f) (fun f => f)
 replace k1' : w2.heap[b0]? = some (.cells #[.map none] 76 (0, 0)) := k1'
 replace k2 : w2.heap[b0 + 1]? = some (.cells #[.map none] 76 (0, 0)) := k2
 have e0 : ∀ (t : Nat) (a : Act), Act.get a t = .pointer (some ⟨rb, 0, none⟩) -> (#[Operand.tmp t] : Array Operand).map a.eval = #[.pointer (some ⟨rb, 0, none⟩)] := fun t a h => by simp [Ze, h]
 refine wp_seq (wp_seq (wp_region_lit (Zv rfl Zm (wpl_call rfl (Zy (by kernel_rfl) rfl) (R := fun e w' => e = .returned (.int .u32 (rdUvarint s).1) /\ Rd w' rb sb (rdUvarint s).2 /\ Mod (only rb) w2 w') ?_ ?_))))
 ·rw [e0 7 _ (by simp (disch := first | omega | simp only [Zs]; omega) only [Zo, Ze, Zn, Zq, a0])]
  exact rd_Uvarint hR2
 rintro e w3 ⟨rfl, hR3, m3⟩
 refine ⟨_, rfl, Zv rfl Zi (wpList_nil ?_)⟩
 have hin0 := rdUvarint_in s
 refine wp_act (fun a : Act => Act.get a 0 = .pointer (some ⟨rb, 0, none⟩) /\ Act.get a 2 = .pointer (some ⟨b0, 0, none⟩) /\ Act.get a 3 = .pointer (some ⟨b0 + 1, 0, none⟩) /\ Act.get a 4 = .int .u32 (rdUvarint s).1 /\ a.tmps.size = 24 /\ a.defers = []) ⟨?_, ?_, ?_, ?_, ?_, ?_⟩ ?_
 ·simp (disch := first | omega | simp only [Zs]; omega) only [Zo, Ze, Zn, Zq, a0]
 ·simp (disch := first | omega | simp only [Zs]; omega) only [Zo, Ze, Zn, Zq]
 ·simp (disch := first | omega | simp only [Zs]; omega) only [Zo, Ze, Zn, Zq]
 ·simp (disch := first | omega | simp only [Zs]; omega) only [Zo, Ze, Zn, Zq]
 ·simp only [Zs]; exact aN
 ·simp only [Zd]; exact ad
 clear a0 aN ad
 rintro a ⟨a0, a2, a3, a4, aN, ad⟩
 have m03 : Mod (only rb) w0 w3 := m02.none.trans m3
 obtain ⟨G, hG⟩ : ∃ G : Nat -> Prop, G = fun b => b = sb \/ (w0.heap.size <= b /\ b ≠ b0 /\ b ≠ b0 + 1) := ⟨_, rfl⟩
 refine wp_mono (Q := fun e a' w' => e = .normal /\ Act.get a' 2 = .pointer (some ⟨b0, 0, none⟩) /\ Act.get a' 3 = .pointer (some ⟨b0 + 1, 0, none⟩) /\ a'.tmps.size = 24 /\ a'.defers = [] /\ ∃ mv, w'.heap[b0]? = some (.cells #[.map none] 76 (0, 0)) /\ w'.heap[b0 + 1]? = some (.cells #[mv] 76 (0, 0)) /\
   TagsR w' G mv (rdTags s).1 /\ Rd w' rb sb (rdTags s).2 /\ Mod (only rb) w0 w') ?_ ?_
 ·refine wp_for
   (I := fun m a w => Act.get a 0 = .pointer (some ⟨rb, 0, none⟩) /\ Act.get a 2 = .pointer (some ⟨b0, 0, none⟩) /\ Act.get a 3 = .pointer (some ⟨b0 + 1, 0, none⟩) /\ Act.get a 4 = .int .u32 (m : Nat) /\ a.tmps.size = 24 /\ a.defers = [] /\ m <= 4294967295 /\
    ∃ s' u mv, Rd w rb sb s' /\ w.heap[b0]? = some (.cells #[.map none] 76 (0, 0)) /\ w.heap[b0 + 1]? = some (.cells #[mv] 76 (0, 0)) /\ TagsR w G mv u /\ Mod (only rb) w0 w /\ (∀ r, mv = .map (some r) -> w0.heap.size <= r /\ r ≠ b0 /\ r ≠ b0 + 1) /\ rdTags s = rdTagsN m u s' /\ u.length + m <= 4294967295)
   (J := fun m a w => Act.get a 0 = .pointer (some ⟨rb, 0, none⟩) /\ Act.get a 2 = .pointer (some ⟨b0, 0, none⟩) /\ Act.get a 3 = .pointer (some ⟨b0 + 1, 0, none⟩) /\ Act.get a 4 = .int .u32 ((m + 1 : Nat) : Int) /\ a.tmps.size = 24 /\ a.defers = [] /\ m + 1 <= 4294967295 /\
    ∃ s' u mv, Rd w rb sb s' /\ w.heap[b0]? = some (.cells #[.map none] 76 (0, 0)) /\ w.heap[b0 + 1]? = some (.cells #[mv] 76 (0, 0)) /\ TagsR w G mv u /\ Mod (only rb) w0 w /\ (∀ r, mv = .map (some r) -> w0.heap.size <= r /\ r ≠ b0 /\ r ≠ b0 + 1) /\ rdTags s = rdTagsN (m + 1) u s' /\ u.length + (m + 1) <= 4294967295)
   (K := fun m a w => Act.get a 0 = .pointer (some ⟨rb, 0, none⟩) /\ Act.get a 2 = .pointer (some ⟨b0, 0, none⟩) /\ Act.get a 3 = .pointer (some ⟨b0 + 1, 0, none⟩) /\ Act.get a 4 = .int .u32 ((m + 1 : Nat) : Int) /\ a.tmps.size = 24 /\ a.defers = [] /\ m + 1 <= 4294967295 /\
    ∃ s' u mv, Rd w rb sb s' /\ w.heap[b0]? = some (.cells #[.map none] 76 (0, 0)) /\ w.heap[b0 + 1]? = some (.cells #[mv] 76 (0, 0)) /\ TagsR w G mv u /\ Mod (only rb) w0 w /\ (∀ r, mv = .map (some r) -> w0.heap.size <= r /\ r ≠ b0 /\ r ≠ b0 + 1) /\ rdTags s = rdTagsN m u s' /\ u.length + m <= 4294967295)
   (rdUvarint s).1.toNat ?_ ?_ ?_ ?_
  ·refine ⟨a0, a2, a3, ?_, aN, ad, by omega, (rdUvarint s).2, [], .map none, hR3, m3.some k1' (fun e => by have : b0 = rb := e; omega), m3.some k2 (fun e => by have : b0 + 1 = rb := e; omega), .inl ⟨rfl, rfl⟩, m03, (fun r h => by cases h), rfl, by simp; omega⟩
   rw [a4, show (((rdUvarint s).1.toNat : Nat) : Int) = (rdUvarint s).1 from by omega]
  ·clear a0 a2 a3 a4 aN ad a
   rintro m a w ⟨a0, a2, a3, a4, aN, ad, hm, s', u, mv, r1, r2, r3, r4, r5, hnew, r6, r7⟩
   refine wp_region_lit (Zv rfl Zm (Zv rfl (x_gtr (k := .u32) (m := (m : Nat)) (n := 0) ?_ rfl) (wpList_nil ⟨rfl, ?_⟩)))
   ·simp (disch := first | omega | simp only [Zs]; omega) only [Zo, Ze, Zn, Zq, a4]
   cases m with
   | zero =>
    right
    refine ⟨by rw [Zq (by simp only [Zs]; omega)]; rfl, rfl, ?_, ?_, ?_, ?_, mv, r2, r3, by rw [r6]; exact r4, by rw [r6]; exact r1, r5⟩
    ·simp (disch := first | omega | simp only [Zs]; omega) only [Zo, Ze, Zn, Zq, a2]
    ·simp (disch := first | omega | simp only [Zs]; omega) only [Zo, Ze, Zn, Zq, a3]
    ·simp only [Zs]; exact aN
    ·simp only [Zd]; exact ad
   | succ m =>
    left
    refine ⟨m, rfl, ?_, ?_, ?_, ?_, ?_, ?_, ?_, hm, s', u, mv, r1, r2, r3, r4, r5, hnew, r6, r7⟩
    ·rw [Zq (by simp only [Zs]; omega), show decide ((0 : Int) < ((m + 1 : Nat) : Int)) = true from decide_eq_true (by omega)]
    ·simp (disch := first | omega | simp only [Zs]; omega) only [Zo, Ze, Zn, Zq, a0]
    ·simp (disch := first | omega | simp only [Zs]; omega) only [Zo, Ze, Zn, Zq, a2]
    ·simp (disch := first | omega | simp only [Zs]; omega) only [Zo, Ze, Zn, Zq, a3]
    ·simp (disch := first | omega | simp only [Zs]; omega) only [Zo, Ze, Zn, Zq, a4]
    ·simp only [Zs]; exact aN
    ·simp only [Zd]; exact ad
  ·clear a0 a2 a3 a4 aN ad a
   rintro m a w ⟨a0, a2, a3, a4, aN, ad, hm, s', u, mv, r1, r2, r3, r4, r5, hnew, r6, r7⟩
   have hw0 := r5.size
   refine wp_seq (wp_region_lit (Zv rfl Zm (wpl_call rfl (Zy (by kernel_rfl) rfl) (R := fun e w' => e = .returned (.int .u32 (rdUvarint s').1) /\ Rd w' rb sb (rdUvarint s').2 /\ Mod (only rb) w w') ?_ ?_)))
   ·rw [e0 13 _ (by simp (disch := first | omega | simp only [Zs]; omega) only [Zo, Ze, Zn, Zq, a0])]
    exact rd_Uvarint r1
   rintro e wa ⟨rfl, ra, ma⟩
   refine ⟨_, rfl, Zv rfl Zm (wpl_call rfl (Zy (by kernel_rfl) rfl) (R := fun e w' => e = .returned (.int .u32 (rdUvarint (rdUvarint s').2).1) /\ Rd w' rb sb (rdUvarint (rdUvarint s').2).2 /\ Mod (only rb) wa w') ?_ ?_)⟩
   ·rw [e0 15 _ (by simp (disch := first | omega | simp only [Zs]; omega) only [Zo, Ze, Zn, Zq, a0])]
    exact rd_Uvarint ra
   rintro e wb ⟨rfl, rb', mb⟩
   refine ⟨_, rfl, Zv rfl Zi (Zv rfl Zi (wpList_nil ?_))⟩
   have hin1 := rdUvarint_in s'
   have hin2 := rdUvarint_in (rdUvarint s').2
   refine wp_act (fun a : Act => Act.get a 0 = .pointer (some ⟨rb, 0, none⟩) /\ Act.get a 2 = .pointer (some ⟨b0, 0, none⟩) /\ Act.get a 3 = .pointer (some ⟨b0 + 1, 0, none⟩) /\ Act.get a 4 = .int .u32 ((m + 1 : Nat) : Int) /\ Act.get a 5 = .int .u32 (rdUvarint s').1 /\ Act.get a 6 = .int .u32 (rdUvarint (rdUvarint s').2).1 /\ a.tmps.size = 24 /\ a.defers = []) ⟨?_, ?_, ?_, ?_, ?_, ?_, ?_, ?_⟩ ?_
   ·simp (disch := first | omega | simp only [Zs]; omega) only [Zo, Ze, Zn, Zq, a0]
   ·simp (disch := first | omega | simp only [Zs]; omega) only [Zo, Ze, Zn, Zq, a2]
   ·simp (disch := first | omega | simp only [Zs]; omega) only [Zo, Ze, Zn, Zq, a3]
   ·simp (disch := first | omega | simp only [Zs]; omega) only [Zo, Ze, Zn, Zq, a4]
   ·simp (disch := first | omega | simp only [Zs]; omega) only [Zo, Ze, Zn, Zq]
   ·simp (disch := first | omega | simp only [Zs]; omega) only [Zo, Ze, Zn, Zq]
   ·simp only [Zs]; exact aN
   ·simp only [Zd]; exact ad
   clear a0 a2 a3 a4 aN ad a
   rintro a ⟨a0, a2, a3, a4, a5, a6, aN, ad⟩
   have hw64 : IntKind.i64.wrap (rdUvarint (rdUvarint s').2).1 = (rdUvarint (rdUvarint s').2).1 := by rw [IntKind.wrap_i64]; omega
   refine wp_region_lit (Zv rfl Zm (Zv rfl Zm (Zv rfl Zm (Zv rfl (x_convInt (n := (rdUvarint (rdUvarint s').2).1) hi32 hi64 ?_) (wpl_call rfl (Zy (by kernel_rfl) rfl) (R := fun e w' => (∃ v, e = .returned v /\ Src w' v sb (rdSpan (rdUvarint (rdUvarint s').2).1 (rdUvarint (rdUvarint s').2).2).1.1 (rdSpan (rdUvarint (rdUvarint s').2).1 (rdUvarint (rdUvarint s').2).2).1.2) /\ Rd w' rb sb (rdSpan (rdUvarint (rdUvarint s').2).1 (rdUvarint (rdUvarint s').2).2).2 /\ Mod (only rb) wb w') ?_ ?_)))))
   ·simp (disch := first | omega | simp only [Zs]; omega) only [Zo, Ze, Zn, Zq, a6]
   ·have e1 : ∀ (a : Act), Act.get a 18 = .pointer (some ⟨rb, 0, none⟩) -> Act.get a 20 = .int .i64 (rdUvarint (rdUvarint s').2).1 -> (#[Operand.tmp 18, Operand.tmp 20] : Array Operand).map a.eval = #[.pointer (some ⟨rb, 0, none⟩), .int .i64 (rdUvarint (rdUvarint s').2).1] := fun a h h' => by simp [Ze, h, h']
    rw [e1 _ ?_ ?_]
    ·exact rd_Span _ rb'
    ·simp (disch := first | omega | simp only [Zs]; omega) only [Zo, Ze, Zn, Zq, a0]
    ·simp (disch := first | omega | simp only [Zs]; omega) only [Zo, Ze, Zn, Zq, hw64]
   rintro e wc ⟨⟨v, rfl, hsrc⟩, rc, mc⟩
   refine ⟨v, rfl, ?_⟩
   have mabc : Mod (only rb) w wc := (ma.trans mb).trans mc
   have hGrb : ∀ k, G k -> ¬ only rb k := fun k hk e => by
    rw [hG] at hk
    have e' : k = rb := e
    rcases hk with h | h <;> omega
   have hTc : TagsR wc G mv u := r4.mod mabc hGrb (fun _ h => h)
   have kb0 := mabc.some r2 (fun e => by have : b0 = rb := e; omega)
   have kb1 := mabc.some r3 (fun e => by have : b0 + 1 = rb := e; omega)
   have hszc := mabc.size
   have hlb1 := lt_of_block kb1
   refine wpl_call rfl (Zy (by kernel_rfl) rfl) (R := fun e w' => ∃ r', e = .returned r' /\ ∃ r, G r /\ (mv = .map (some r) \/ (mv = .map none /\ r = wc.heap.size)) /\ Mod (fun b => b = b0 + 1 \/ b = r) wc w' /\
    (∃ C', w'.heap[b0 + 1]? = some (.cells C' 76 (0, 0)) /\ C'.size = 1 /\ C'[0]? = some (.map (some r)) /\ ∀ j, j ≠ 0 -> C'[j]? = (#[mv] : Array Value)[j]?) /\ MapAt w' G r (setTag u (rdUvarint s').1 (rdSpan (rdUvarint (rdUvarint s').2).1 (rdUvarint (rdUvarint s').2).2).1.1)) ?_ ?_
   ·have e1 : ∀ (a : Act), Act.get a 3 = .pointer (some ⟨b0 + 1, 0, none⟩) -> Act.get a 17 = .int .u32 (rdUvarint s').1 -> Act.get a 21 = v -> (#[Operand.tmp 3, Operand.tmp 17, Operand.tmp 21] : Array Operand).map a.eval = #[.pointer (some ⟨b0 + 1, 0, none⟩), .int .u32 (rdUvarint s').1, v] := fun a h h' h'' => by simp [Ze, h, h', h'']
    rw [e1 _ ?_ ?_ ?_]
    ·exact setTag_spec wc (b0 + 1) 0 #[mv] _ G mv u (rdUvarint s').1 v _ (rdSpan (rdUvarint (rdUvarint s').2).1 (rdUvarint (rdUvarint s').2).2).1.2 kb1 rfl hTc (by rw [hG]; rintro (h | h) <;> omega) (by rw [hG]; right; omega) hin1 (.inl ⟨sb, .inr (by rw [hG]; exact .inl rfl), hsrc⟩) (by omega) (by unfold rdSpan; split <;> simp <;> omega)
    ·simp (disch := first | omega | simp only [Zs]; omega) only [Zo, Ze, Zn, Zq, a3]
    ·simp (disch := first | omega | simp only [Zs]; omega) only [Zo, Ze, Zn, Zq, a5]
    ·simp (disch := first | omega | simp only [Zs]; omega) only [Zo, Ze, Zn, Zq]
   rintro e wd ⟨r', rfl, r, hGr, hwh, md, ⟨C', kd, hC1, hC2, _⟩, hMA⟩
   have hrn : w0.heap.size <= r /\ r ≠ b0 /\ r ≠ b0 + 1 := by
    rcases hwh with h | ⟨_, h⟩
    ·exact hnew r h
    ·omega
   have hC' : C' = #[.map (some r)] := by
    apply Array.ext
    ·simpa using hC1
    ·intro j h1 h2
     have : j = 0 := by simp at h2; omega
     subst this
     rw [Array.getElem?_eq_getElem h1] at hC2
     simpa using hC2
   rw [hC'] at kd
   refine ⟨r', rfl, wpList_nil ⟨?_, ?_, ?_, ?_, ?_, ?_, hm, _, _, .map (some r), rc.mod md (fun e => by rcases e with e | e <;> omega) (fun e => by rcases e with e | e <;> omega), md.some kb0 (fun e => by rcases e with e | e <;> omega), kd, TagsR.of_map hMA hGr (setTag_ne _ _ _),
    (r5.trans mabc).trans' md (fun _ _ h => h) (fun i hi e => by rcases e with e | e <;> omega), (fun q hq => by cases hq; exact hrn), r6, ?_⟩⟩
   ·simp (disch := first | omega | simp only [Zs]; omega) only [Zo, Ze, Zn, Zq, a0]
   ·simp (disch := first | omega | simp only [Zs]; omega) only [Zo, Ze, Zn, Zq, a2]
   ·simp (disch := first | omega | simp only [Zs]; omega) only [Zo, Ze, Zn, Zq, a3]
   ·simp (disch := first | omega | simp only [Zs]; omega) only [Zo, Ze, Zn, Zq, a4]
   ·simp only [Zs]; exact aN
   ·simp only [Zd]; exact ad
   ·have := setTag_len u (rdUvarint s').1 (rdSpan (rdUvarint (rdUvarint s').2).1 (rdUvarint (rdUvarint s').2).2).1.1
    omega
  ·clear a0 a2 a3 a4 aN ad a
   rintro m a w ⟨a0, a2, a3, a4, aN, ad, hm, s', u, mv, r1, r2, r3, r4, r5, hnew, r6, r7⟩
   refine wp_region_lit (Zv rfl Zm (Zv rfl (x_sub (k := .u32) (m := ((m + 1 : Nat) : Int)) (n := 1) ?_ rfl) (Zv rfl Zi (wpList_nil ⟨rfl, ?_, ?_, ?_, ?_, ?_, ?_, by omega, s', u, mv, r1, r2, r3, r4, r5, hnew, r6, r7⟩))))
   ·simp (disch := first | omega | simp only [Zs]; omega) only [Zo, Ze, Zn, Zq, a4]
   ·simp (disch := first | omega | simp only [Zs]; omega) only [Zo, Ze, Zn, Zq, a0]
   ·simp (disch := first | omega | simp only [Zs]; omega) only [Zo, Ze, Zn, Zq, a2]
   ·simp (disch := first | omega | simp only [Zs]; omega) only [Zo, Ze, Zn, Zq, a3]
   ·simp (disch := first | omega | simp only [Zs]; omega) only [Zo, Ze, Zn, Zq]
    rw [show IntKind.u32.wrap (((m + 1 : Nat) : Int) - 1) = (m : Int) from by simp only [IntKind.wrap, IntKind.bits, IntKind.signed]; simp; omega]
   ·simp only [Zs]; exact aN
   ·simp only [Zd]; exact ad
 ·clear a0 a2 a3 a4 aN ad a
  rintro e a w ⟨rfl, a2, a3, aN, ad, mv, r2, r3, r4, r1, r5⟩
  have hone : mv.oneCell' = true := by rcases r4.split with ⟨h, _⟩ | ⟨r, _, h, _⟩ <;> (rw [h]; rfl)
  refine wp_seq (wp_region_lit (Zv rfl (x_loadN (cs := [mv]) (b := b0 + 1) (o := 0) hmany (by rw [Ze, a3]) (fun j v hv => by rw [Zc r3, Nat.zero_add]; simpa using hv)) ?_))
  refine wpl_skip rfl (x_storeN (cs := #[mv]) (b := b0) (o := 0) hszT ?_ ?_ (by simp [hone]) ?_) (wpList_nil ?_)
  ·simp (disch := first | omega | simp only [Zs]; omega) only [Zo, Ze, Zn, Zq, a2]
  ·simp (disch := first | omega | simp only [Zs]; omega) only [Zo, Ze, Zn, Zq]
  ·intro j hj
   simp at hj
   subst hj
   rw [Zc r2, Zz r2]
   exact ⟨rfl, rfl⟩
  obtain ⟨C', q1, q2, q3, q4⟩ := heap_setCells (w := w) [mv] 0 _ r2
  have hm : Mod (only b0) w (w.setCells b0 0 [mv]) := mod_setCells _ _ _ _
  have q30 := q3 0 (by simp) (by simp)
  have hC' : C' = #[mv] := by
   apply Array.ext
   ·rw [q2]; rfl
   ·intro j h1 h2
    have : j = 0 := by simp at h2; omega
    subst this
    rw [Nat.zero_add, Array.getElem?_eq_getElem h1] at q30
    simpa using q30
  subst hC'
  generalize hw4 : w.setCells b0 0 (#[mv] : Array Value).toList = w4
  have hw4' : w.setCells b0 0 [mv] = w4 := hw4
  rw [hw4'] at q1 hm
  have hmod : Mod (only rb) w0 w4 := r5.trans' hm (fun _ _ h => h) (fun i hi e => by have : i = b0 := e; omega)
  refine wp_act (c := .ret) (fun a : Act => a.tmps.getD 2 undef = .pointer (some ⟨b0, 0, none⟩) /\ a.defers = []) ⟨?_, ?_⟩ ?_
  ·rw [show ∀ (a : Act) t, a.tmps.getD t undef = Act.get a t from fun _ _ => rfl]
   simp (disch := first | omega | simp only [Zs]; omega) only [Zo, Ze, Zn, Zq, a2]
  ·simp only [Zo, Zd]; exact ad
  rintro a9 ⟨z2, zd⟩
  refine wp_ret ?_
  refine bodyPost_ret (results_cellN Tryd.results85 (b := b0) (o := 0) (cs := [mv]) z2 hmany (fun j v hv => by rw [Zc q1, Nat.zero_add]; simpa using hv)) zd ⟨⟨mv, rfl, fun F hF1 hF2 => ?_⟩, r1.mod hm (fun e => by have : rb = b0 := e; omega) (fun e => by have : sb = b0 := e; omega), hmod⟩
  have h := r4.mod hm (fun k hk e => by
   have e' : k = b0 := e
   rw [hG] at hk
   rcases hk with h | h <;> omega) (fun _ h => h)
  refine TagsR.mod h (Mod.refl (S := none') w4) (fun _ _ f => f) (fun k hk => ?_)
  rw [hG] at hk
  rcases hk with rfl | hk
  ·exact hF1
  ·exact hF2 k (by omega)
theorem rc_ArrayLen : RdC Tryd.prog 75 (.int .i32) (fun s => (.num (rdALen s).1, (rdALen s).2)) := fun w rb sb s h =>
 (rd_ArrayLen h).mono fun e w' ⟨he, h2, h3⟩ => ⟨⟨_, he, fun F _ _ => repv_one rfl rfl ⟨_, rfl, by
  have := rdInt32_in s
  unfold rdALen lenOr; split <;> (simp [fits, IntKind.min, IntKind.max, IntKind.signed, IntKind.bits]; try omega), rfl⟩⟩, h2, h3⟩
theorem rc_CompactArrayLen : RdC Tryd.prog 74 (.int .i32) (fun s => (.num (rdCALen s).1, (rdCALen s).2)) := fun w rb sb s h =>
 (rd_CompactArrayLen h).mono fun e w' ⟨he, h2, h3⟩ => ⟨⟨_, he, fun F _ _ => repv_one rfl rfl ⟨_, rfl, by
  have g4 : -2147483648 <= wrap32 (wrap32 (rdUvarint s).1 - 1) /\ wrap32 (wrap32 (rdUvarint s).1 - 1) <= 2147483647 := by unfold wrap32; omega
  unfold rdCALen lenOr; split <;> (simp [fits, IntKind.min, IntKind.max, IntKind.signed, IntKind.bits]; try omega), rfl⟩⟩, h2, h3⟩
end Go.Proofs.YtcldbjehliladaaDoor
