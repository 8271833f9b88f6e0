/-
  Rules for the code that reads a message: tests of the version, choices, loops, lists. No program in it.
  Rules for the code that reads a list. No program in it.
  Rules for the code that reads a message's parts: a list as a field; elements; parts within. No program in it.
  Rules for the code that reads a message's parts: a list as a field. No program in it.
-/
import Derived.Deep.LoopGhost
import Derived.Lib.AppendZerosOnto
import Derived.Test.YtcldbjehliladaaDoorPAppB
set_option linter.unusedSimpArgs false
set_option linter.unusedVariables false
namespace Go.Proofs.YtcldbjehliladaaDoor
open Go Go.RowKit
/-- a loop that counts -/
theorem wp_for {P : Program} {Q : Exit -> Act -> World -> Prop} {a : Act} {w : World} {b0 b1 t : Nat} {ct body inc : Code}
  (I J K : Nat -> Act -> World -> Prop) (n : Nat) (h0 : I n a w)
  (ht : ∀ m a w, I m a w -> ct.wp P (fun e a' w' => e = .normal /\ ((∃ m', m = m' + 1 /\ Act.get a' t = .bool true /\ J m' a' w') \/ (Act.get a' t = .bool false /\ Q .normal a' w'))) a w)
  (hbd : ∀ m a w, J m a w -> body.wp P (fun e a' w' => match e with | .normal => K m a' w' | .ret => Q .ret a' w' | _ => False) a w)
  (hi : ∀ m a w, K m a w -> inc.wp P (fun e a' w' => e = .normal /\ I m a' w') a w) :
  (Code.block b0 (.loop (.seq (.seq ct (.cond (.tmp t) .skip (.exit b0))) (.seq (.block b1 body) inc)))).wp P Q a w := by
 refine wp_block (wp_loop_ghost I n h0 ?_)
 intro m a w hI
 refine wp_seq (wp_seq (wp_mono (ht m a w hI) ?_))
 rintro e a1 w1 ⟨rfl, h⟩
 rcases h with ⟨m', rfl, hb1, hJ⟩ | ⟨hb1, hQ⟩
 ·refine wp_cond_true (by rw [Ze]; exact hb1) (wp_skip ?_)
  refine wp_seq (wp_block (wp_mono (hbd m' a1 w1 hJ) ?_))
  intro e a2 w2 h2
  cases e with
  | normal => exact wp_mono (hi m' a2 w2 h2) (by rintro e a3 w3 ⟨rfl, h3⟩; exact ⟨m', Nat.lt_succ_self _, h3⟩)
  | ret => exact h2
  | _ => exact h2.elim
 ·refine wp_cond_false (by rw [Ze]; exact hb1) (wp_exit ?_)
  simp [Exit.then, Exit.inBlock]
  exact hQ
theorem R.then_ok {α : Type} (r : R α) : r.then (fun v s => .ok v s) = r := by cases r <;> rfl
theorem R.then_assoc {α β γ : Type} (r : R α) (f : α -> RS -> R β) (g : β -> RS -> R γ) : (r.then f).then g = r.then fun v s => (f v s).then g := by cases r <;> rfl
section
variable {w : World} {F : Nat -> Prop}
theorem Oct.lt' {v : Value} {bs : List UInt8} {nil : Bool} (h : Oct w F v bs nil) : Oct w (fun k => F k /\ k < w.heap.size) v bs nil := by
 rcases h with ⟨sb, h1, h2⟩ | h
 ·left
  rcases h1 with rfl | h1
  ·exact ⟨sb, .inl rfl, h2⟩
  ·rcases h2 with h2 | h2
   ·obtain ⟨rfl, h3, h4⟩ := h2
    exact ⟨sb, .inl rfl, .inl ⟨rfl, h3, h4⟩⟩
   ·obtain ⟨h3, off, cap, c, t, fr, h4, h5, h6, h7, h8⟩ := h2
    exact ⟨sb, .inr ⟨h1, lt_of_block h7⟩, .inr ⟨h3, off, cap, c, t, fr, h4, h5, h6, h7, h8⟩⟩
 ·exact .inr h
theorem PStr.lt' {v : Value} {o : Option (List UInt8)} (h : PStr w F v o) : PStr w (fun k => F k /\ k < w.heap.size) v o := by
 cases o with
 | none => exact h
 | some bs => obtain ⟨k, t, h1, h2, h3⟩ := h; exact ⟨k, t, ⟨h1, lt_of_block h3⟩, h2, h3⟩
theorem TagsR.lt' {v : Value} {u : Tags} (h : TagsR w F v u) : TagsR w (fun k => F k /\ k < w.heap.size) v u := by
 rcases h with h | ⟨r, es, clock, h1, h2, h3, h4, hlen, h4', kb, h5, h6, h7, h8⟩
 ·exact .inl h
 ·refine .inr ⟨r, es, clock, ⟨h1, lt_of_block h3⟩, h2, h3, h4, hlen, h4', kb, h5, h6, h7, fun i hi => ?_⟩
  obtain ⟨e, nil, g1, g2, g3, g4⟩ := h8 i hi
  exact ⟨e, nil, g1, g2, g3.lt', g4⟩
mutual
theorem Rep.lt : ∀ (ty : Ty) (c : Nat -> Value) (t : Tr), Rep w F ty c t -> Rep w (fun k => F k /\ k < w.heap.size) ty c t
 | .int k, c, t, h => h
 | .bool, c, t, h => h
 | .float, c, t, h => h
 | .str, c, t, h => h
 | .pstr, c, t, h => by
  simp only [Rep] at h ⊢
  obtain ⟨o, h1, h2⟩ := h; exact ⟨o, h1.lt', h2⟩
 | .bytes, c, t, h => by
  simp only [Rep] at h ⊢
  obtain ⟨bs, nil, h1, h2⟩ := h; exact ⟨bs, nil, h1.lt', h2⟩
 | .uuid, c, t, h => h
 | .list e sz, c, t, h => by
  simp only [Rep] at h ⊢
  rcases h with h | ⟨l, f, ⟨k, cap, C, ty, g1, g2, g3, g4, g5, g6⟩, hb, h2, h3⟩
  ·exact .inl h
  ·exact .inr ⟨l, f, ⟨k, cap, C, ty, ⟨g1, lt_of_block g5⟩, g2, g3, g4, g5, g6⟩, hb, fun i hi => Rep.lt e _ _ (h2 i hi), h3⟩
 | .struct lay tg sz, c, t, h => by
  simp only [Rep] at h ⊢
  obtain ⟨vs, u, h1, h2, h3⟩ := h
  refine ⟨vs, u, RepL.lt lay _ _ h1, ?_, h3⟩
  cases tg with
  | none => exact h2
  | some o => exact TagsR.lt' h2
 | .pstruct lay tg sz, c, t, h => by
  simp only [Rep] at h ⊢
  rcases h with h | ⟨k, C, ty, vs, u, h1, h2, h3, h4, h5, h6, h7⟩
  ·exact .inl h
  ·refine .inr ⟨k, C, ty, vs, u, ⟨h1, lt_of_block h3⟩, h2, h3, h4, RepL.lt lay _ _ h5, ?_, h7⟩
   cases tg with
   | none => exact h6
   | some o => exact TagsR.lt' h6
theorem RepL.lt : ∀ (lay : Lay) (c : Nat -> Value) (vs : List Tr), RepL w F lay c vs -> RepL w (fun k => F k /\ k < w.heap.size) lay c vs
 | .nil, c, vs, h => h
 | .cons o t r, c, vs, h => by
  simp only [RepL] at h ⊢
  obtain ⟨v, vs', h1, h2, h3⟩ := h
  exact ⟨v, vs', h1, Rep.lt t _ _ h2, RepL.lt r _ _ h3⟩
end
end
theorem Cur.lt {σ : St} {F : Nat -> Prop} {blk off : Nat} {v : SV} {w : World} (h : Cur σ F blk off v w) : Cur σ (fun k => F k /\ k < w.heap.size) blk off v w := by
 obtain ⟨C, t, h1, h2, h3, h4⟩ := h.mem
 refine ⟨C, t, h1, h2, RepL.lt _ _ _ h3, ?_⟩
 cases hg : σ.tg with
 | none => rw [hg] at h4; exact h4
 | some o => rw [hg] at h4; exact TagsR.lt' h4
theorem Cur.weaken {σ : St} {F F' : Nat -> Prop} {blk off : Nat} {v : SV} {w : World} (h : Cur σ F blk off v w) (hf : ∀ k, F k -> F' k) : Cur σ F' blk off v w := by
 obtain ⟨C, t, h1, h2, h3, h4⟩ := h.mem
 refine ⟨C, t, h1, h2, h3.mod (Mod.refl (S := none') w) (fun _ _ f => f) hf, ?_⟩
 cases hg : σ.tg with
 | none => rw [hg] at h4; exact h4
 | some o => rw [hg] at h4; exact TagsR.mod h4 (Mod.refl (S := none') w) (fun _ _ f => f) hf
/-- a test: of the version, or whether the message is flexible -/
def Tst (P : Program) (Γ : Sl) (c : Code) (t : Nat) (p : Int -> Bool -> Bool) : Prop :=
 ∀ x s a w, Amb Γ x s a w -> c.wp P (fun e a' w' => e = .normal /\ w' = w /\ Amb Γ x s a' w' /\ Act.get a' t = .bool (p x.ver x.flex) /\ SameBut (W c) a a') a w
section
variable {P : Program} {Γ : Sl} {σ : St} {f g : FT} {id id' : Nat} {ty : Ty} {rd rd' : Int -> Bool -> RS -> Tr × RS} {p q : Int -> Bool -> Bool}
 {y1 y2 y3 y4 y5 y6 : TypeId} {p1 p2 p3 p4 p5 p6 : String} {e1 e2 e3 e4 e5 e6 : Array Edge} {ts : Array TypeId} {u t : Nat} {k : Int} {yg yh : TypeId}
theorem tst_geq (hs : (Γ.free u && Γ.free t) = true) :
  Tst P Γ (.region id #[⟨some u, .move (.tmp Γ.ver), y1, p1, e1, none⟩, ⟨some t, .binOp .geq yg (.tmp u) (.const (.int .i16 k)) yh, y2, p2, e2, none⟩] false) t (fun v _ => decide (k <= v)) := by
 intro x s a w hA
 simp only [Bool.and_eq_true] at hs
 refine wp_region_lit (Zv rfl Zm (Zv rfl (x_geq (k := .i16) (m := x.ver) (n := k) ?_ rfl) (wpList_nil ⟨rfl, rfl, (hA.put hs.1 _).put hs.2 _, ?_, ?_⟩)))
 ·rw [Ze, Zq (hA.lt hs.1), Ze, hA.ver]
 ·rw [Zq (by rw [Zs]; exact hA.lt hs.2)]
 ·exact ((SameBut.refl a).put (by simp [W, writes]) _).put (by simp [W, writes]) _
theorem tst_flex {fl : Nat} (hf : Γ.flex = some fl) (hs : Γ.free t = true) :
  Tst P Γ (.region id #[⟨some t, .move (.tmp fl), y1, p1, e1, none⟩] false) t (fun _ f => f) := by
 intro x s a w hA
 refine wp_region_lit (Zv rfl Zm (wpList_nil ⟨rfl, rfl, hA.put hs _, ?_, ?_⟩))
 ·rw [Zq (hA.lt hs), Ze, hA.flex fl hf]
 ·exact (SameBut.refl a).put (by simp [W, writes]) _
theorem blk_skip : Blk P Γ σ .skip idF := by
 intro x F blk off v s a w hA hp hC hS _
 exact wp_skip ⟨v, s, rfl, hA, hC, .refl a, .refl w⟩
def ifF (p : Int -> Bool -> Bool) (f g : FT) : FT := fun ver fl v s => if p ver fl then f ver fl v s else g ver fl v s
theorem blk_if {c0 c1 c2 : Code} (h0 : Tst P Γ c0 t p) (h1 : Blk P Γ σ c1 f) (h2 : Blk P Γ σ c2 g) (hs : (writes c0).contains σ.s = false) : Blk P Γ σ (.seq c0 (.cond (.tmp t) c1 c2)) (ifF p f g) := by
 intro x F blk off v s a w hA hp hC hS hns
 have hs' : ¬ σ.s ∈ writes c0 := by simpa using hs
 refine wp_seq (wp_mono (h0 x s a w hA) ?_)
 rintro e a1 w1 ⟨rfl, rfl, hA1, hb, hsb⟩
 have hp1 := (hsb.get _ hs').trans hp
 cases hpv : p x.ver x.flex with
 | true =>
  have e1 : ifF p f g x.ver x.flex v s = f x.ver x.flex v s := by simp [ifF, hpv]
  rw [e1] at hns ⊢
  refine wp_cond_true (by rw [Ze, hb, hpv]) (wp_mono (h1 x F blk off v s a1 w1 hA1 hp1 hC hS hns) ?_)
  intro e a2 w2 h
  cases e with
  | normal =>
   obtain ⟨v2, s2, e2, hA2, hC2, hsb2, hst2⟩ := h
   exact ⟨v2, s2, e2, hA2, hC2, (hsb.mono fun t ht => by simp only [W, writes, List.mem_append] at *; exact .inl ht).trans (hsb2.mono fun t ht => by simp only [W, writes, List.mem_append] at *; exact .inr (.inl ht)), hst2⟩
  | ret => exact h
  | _ => exact h.elim
 | false =>
  have e1 : ifF p f g x.ver x.flex v s = g x.ver x.flex v s := by simp [ifF, hpv]
  rw [e1] at hns ⊢
  refine wp_cond_false (by rw [Ze, hb, hpv]) (wp_mono (h2 x F blk off v s a1 w1 hA1 hp1 hC hS hns) ?_)
  intro e a2 w2 h
  cases e with
  | normal =>
   obtain ⟨v2, s2, e2, hA2, hC2, hsb2, hst2⟩ := h
   exact ⟨v2, s2, e2, hA2, hC2, (hsb.mono fun t ht => by simp only [W, writes, List.mem_append] at *; exact .inl ht).trans (hsb2.mono fun t ht => by simp only [W, writes, List.mem_append] at *; exact .inr (.inr ht)), hst2⟩
  | ret => exact h
  | _ => exact h.elim
end
section
variable {P : Program} {ρ : Operand -> Value} {w : World} {d : Option Tmp} {ty : TypeId} {p : String} {af : Array Edge} {g : Option (Nat × Bool)}
theorem x_slice0 {x : Operand} {t e sz n cap : Nat} {ao : Option Addr} (hI : elemInfo P t e sz = true) (hρ : ∀ v, ρ (.const v) = v) (hx : ρ x = .slice ao n cap) :
  (execOp ρ ⟨d, .slice t x none (some (.const (.int .i64 0))) none, ty, p, af, g⟩).run P w = .ok (.value (.slice ao 0 cap)) w := by
 obtain ⟨hu, i, z, hi, hz, h2, h3, h4, h5, h6⟩ := elemInfo_spec hI
 have he : P.elem t = e := by simp [Program.elem, hu]
 have hu' : P.underlying t = some (.slice (P.elem t)) := by rw [he]; exact hu
 have h := run_slice_h (P := P) (w := w) t ao n cap hu' .i64 0 (Int.le_refl _) (by omega)
 have h0 : (Instr.sliceAt t (.slice ao n cap) none (some (.int .i64 0)) none).run P w = .ok (.slice ao 0 cap) w := by
  rw [run_sliceAt_slice _ t _ _ _ _ hu', h, he]
  cases ao <;> simp [sizeOf, typeInfo, hi, sliced, Addr.add]
 simp [execOp, hx, hρ, h0]
/-- so many new elements behind a slice without room -/
theorem x_zeros {x y : Operand} {t tn e sz n : Nat} {ao : Option Addr} {kq : IntKind} (hI : elemInfo P t e sz = true) (htn : ∃ kn, P.underlying tn = some (.int kn)) (hx : ρ x = .slice ao 0 0) (hy : ρ y = .int kq (n : Int)) (h0 : 0 < n) (hn : n <= 4294967296) :
  ∃ z : Value, zeroOf P e = some z /\ z.cells.size = sz /\ ∃ C : Array Value, C.size = grownCap w n 0 e * sz /\ n <= grownCap w n 0 e /\ grownCap w n 0 e <= maxLen /\ (∀ i, i < n -> ∀ j, j < sz -> C[i * sz + j]? = z.cells[j]?) /\
  (execOp ρ ⟨d, .call ⟨.builtin .append, #[x, y], #[t, tn]⟩, ty, p, af, g⟩).run P w = .ok (.value (.slice (some ⟨w.heap.size, 0, none⟩) n (grownCap w n 0 e))) (w.drew.alloc (.cells C e)) := by
 obtain ⟨hu, i, z, hi, hz, h2, h3, h4, h5, h6⟩ := elemInfo_spec hI
 obtain ⟨kn, htn⟩ := htn
 have hcap1 := grownCap_ge w n 0 e
 have hcap2 := grownCap_le_maxLen w n 0 e (by simp only [maxLen]; omega)
 have hz' : zeroOf P e = some z := by simp [zeroOf, hi, hz]
 have hzc : ∀ m, (Builtin.zeroCells z.cells m).size = m * sz := fun m => by simp [Builtin.zeroCells, h3]
 have hb : n * i.bytes <= 281474976710656 := Nat.le_trans (Nat.mul_le_mul hn h4) (by omega)
 have hns : Builtin.nextslicecap (0 + n) 0 = n := by simp [Builtin.nextslicecap, h0]
 have hr := Go.Lib.run_append_grow_zeros (P := P) w t tn ty e i z kq kn hu htn hi hz ao 0 0 [] (by rw [h2]; cases ao <;> simp [Builtin.firstCells, loadCells, loadCellsFrom]) n h0 (by omega) (by omega) (by omega) hb (by rw [hns]; exact hb)
 simp only [Nat.zero_add] at hr
 refine ⟨z, hz', h3, Builtin.zeroCells z.cells n ++ Builtin.zeroCells z.cells (grownCap w n 0 e - n), ?_, hcap1, hcap2, ?_, ?_⟩
 ·rw [Array.size_append, hzc, hzc, <- Nat.add_mul]; congr 1; omega
 ·intro i hi' j hj
  have hij : i * sz + j < n * sz := by have := Nat.mul_le_mul_right sz (show i + 1 <= n by omega); rw [Nat.add_mul] at this; omega
  rw [Array.getElem?_append_left (by rw [hzc]; exact hij)]
  have hm : (i * sz + j) % sz = j := by rw [Nat.mul_comm, Nat.mul_add_mod, Nat.mod_eq_of_lt hj]
  have hj2 : j < z.cells.size := by omega
  simp only [Builtin.zeroCells, h3, Array.getElem?_map, Array.getElem?_range, hij, if_true, Option.map_some, hm]
  rw [Array.getElem?_eq_getElem hj2, getElem!_pos z.cells j hj2]
 ·simp [execOp, resolve, invoke, builtin, hx, hy, hr]
end
end Go.Proofs.YtcldbjehliladaaDoor
set_option linter.unusedSimpArgs false
set_option linter.unusedVariables false
namespace Go.Proofs.YtcldbjehliladaaDoor
open Go Go.RowKit
/-- reading so many elements -/
def elemsR (ef : RS -> R Tr) : Nat -> RS -> R (List Tr)
 | 0, s => .ok [] s
 | n + 1, s => (ef s).then fun t s => (elemsR ef n s).then fun ts s => .ok (t :: ts) s
abbrev EF := Int -> Bool -> RS -> R Tr
/-- a row of so many cells each, some of whose elements have been read -/
structure Row (w : World) (F : Nat -> Prop) (k cap sz : Nat) (ety : Ty) (z : Nat -> Value) (n : Nat) (ts : List Tr) : Prop where
 len : ts.length <= n
 room : n <= cap
 mem : ∃ C t, w.heap[k]? = some (.cells C t (0, 0)) /\ C.size = cap * sz /\ (∀ i (h : i < ts.length), Rep w F ety (from' C (i * sz)) ts[i]) /\ ∀ i, ts.length <= i -> i < n -> ∀ j, j < sz -> C[i * sz + j]? = some (z j)
theorem Row.mod {w w' : World} {F S : Nat -> Prop} {k cap sz n : Nat} {ety : Ty} {z : Nat -> Value} {ts : List Tr} (h : Row w F k cap sz ety z n ts) (hm : Mod S w w') (hk : ¬ S k) (hs : ∀ b, F b -> ¬ S b) : Row w' F k cap sz ety z n ts := by
 obtain ⟨C, t, h1, h2, h3, h4⟩ := h.mem
 exact ⟨h.len, h.room, C, t, hm.some h1 hk, h2, fun i hi => Rep.mod hm hs (fun _ h => h) _ _ _ (h3 i hi), h4⟩
theorem Row.step {w w' : World} {F S : Nat -> Prop} {k cap sz n : Nat} {ety : Ty} {z : Nat -> Value} {ts : List Tr} {t : Tr} (h : Row w F k cap sz ety z n ts) (hlt : ts.length < n) (hok : ety.ok = true) (hsz : ety.size = sz) (hm : Mod S w w') (hS : ∀ b, F b -> ¬ S b)
  (hout : ∀ C tc, w.heap[k]? = some (.cells C tc (0, 0)) -> ∃ C', w'.heap[k]? = some (.cells C' tc (0, 0)) /\ C'.size = C.size /\ (∀ j, j < ts.length * sz \/ ts.length * sz + sz <= j -> C'[j]? = C[j]?) /\ Rep w' F ety (from' C' (ts.length * sz)) t) :
  Row w' F k cap sz ety z n (ts ++ [t]) := by
 obtain ⟨C, tc, h1, h2, h3, h4⟩ := h.mem
 obtain ⟨C', g1, g2, g3, g4⟩ := hout C tc h1
 refine ⟨by simp; omega, h.room, C', tc, g1, g2.trans h2, fun i hi => ?_, fun i hi1 hi2 j hj => ?_⟩
 ·by_cases hil : i < ts.length
  ·rw [List.getElem_append_left hil]
   refine Rep.congr ety _ _ _ hok (fun j hj => ?_) (Rep.mod hm hS (fun _ h => h) _ _ _ (h3 i hil))
   rw [hsz] at hj
   have := Nat.mul_le_mul_right sz (show i + 1 <= ts.length by omega)
   rw [Nat.add_mul] at this
   simp only [from', Array.getD_eq_getD_getElem?]
   rw [g3 _ (.inl (by omega))]
  ·have : i = ts.length := by simp at hi; omega
   subst this
   simpa using g4
 ·simp at hi1
  have := Nat.mul_le_mul_right sz (show ts.length + 1 <= i by omega)
  rw [Nat.add_mul] at this
  rw [g3 _ (.inr (by omega))]
  exact h4 i (by omega) hi2 j hj
/-- code that reads an element of the slice in slot sa, whose number is in slot si -/
def ElemC (P : Program) (Γ : Sl) (c : Code) (sa si : Nat) (ety : Ty) (sz : Nat) (z : Nat -> Value) (ef : EF) : Prop :=
 ∀ x F k cap n ts s a w, Amb Γ x s a w -> Act.get a sa = .slice (some ⟨k, 0, none⟩) n cap -> Act.get a si = .int .i32 (ts.length : Nat) -> ts.length < n -> Row w F k cap sz ety z n ts -> Sep x F k w -> ef x.ver x.flex s ≠ .stuck ->
  c.wp P (fun e a' w' => match e with
   | .normal => ∃ t s', ef x.ver x.flex s = .ok t s' /\ Amb Γ x s' a' w' /\ Row w' F k cap sz ety z n (ts ++ [t]) /\ SameBut (W c) a a' /\ Mod (fun b => b = x.rb \/ b = k) w w'
   | .ret => ef x.ver x.flex s = .early /\ Act.get a' Γ.res = x.ev /\ a'.defers = [] /\ Mod (fun b => b = x.rb \/ b = k) w w'
   | _ => False) a w
/-- 'if !b.Ok() { return b.Complete() }' -/
def OkC (P : Program) (Γ : Sl) (c : Code) : Prop := ∀ x s a w, Amb Γ x s a w -> c.wp P (fun e a' w' => match e with
 | .normal => s.bad = false /\ w' = w /\ Amb Γ x s a' w' /\ SameBut (W c) a a'
 | .ret => s.bad = true /\ w' = w /\ Act.get a' Γ.res = x.ev /\ a'.defers = []
 | _ => False) a w
/-- 'a = a[:0]' -/
def CutC (P : Program) (Γ : Sl) (c : Code) (sa : Nat) : Prop := ∀ x s a w ao n cap, Amb Γ x s a w -> Act.get a sa = .slice ao n cap ->
 c.wp P (fun e a' w' => e = .normal /\ w' = w /\ Amb Γ x s a' w' /\ Act.get a' sa = .slice ao 0 cap /\ SameBut (W c) a a') a w
/-- 'if l > 0 { a = append(a, make([]T, l)...) }' -/
def GrowC (P : Program) (Γ : Sl) (c : Code) (sa sl sz : Nat) (z : Nat -> Value) : Prop := ∀ x s a w ao n, Amb Γ x s a w -> Act.get a sa = .slice ao 0 0 -> Act.get a sl = .int .i32 n -> n <= 2147483647 ->
 c.wp P (fun e a' w' => e = .normal /\ Amb Γ x s a' w' /\ SameBut (W c) a a' /\ Mod none' w w' /\
  ((n <= 0 /\ w' = w /\ Act.get a' sa = .slice ao 0 0) \/ (0 < n /\ ∃ cap, Act.get a' sa = .slice (some ⟨w.heap.size, 0, none⟩) n.toNat cap /\ n.toNat <= cap /\ cap <= maxLen /\
   ∃ C t, w'.heap[w.heap.size]? = some (.cells C t (0, 0)) /\ C.size = cap * sz /\ ∀ i, i < n.toNat -> ∀ j, j < sz -> C[i * sz + j]? = some (z j)))) a w
/-- the elements, one by one -/
def LoopC (P : Program) (Γ : Sl) (c : Code) (sa sl : Nat) (ety : Ty) (sz : Nat) (z : Nat -> Value) (ef : EF) : Prop :=
 ∀ x F k cap (n : Int) s a w (_ : Unit), Amb Γ x s a w -> Act.get a sl = .int .i32 n -> n <= 2147483647 -> (0 < n -> Act.get a sa = .slice (some ⟨k, 0, none⟩) n.toNat cap /\ Row w F k cap sz ety z n.toNat []) -> (0 < n -> Sep x F k w) ->
  elemsR (ef x.ver x.flex) n.toNat s ≠ .stuck ->
  c.wp P (fun e a' w' => match e with
   | .normal => ∃ ts s', elemsR (ef x.ver x.flex) n.toNat s = .ok ts s' /\ Amb Γ x s' a' w' /\ (0 < n -> Row w' F k cap sz ety z n.toNat ts /\ ts.length = n.toNat) /\ SameBut (W c) a a' /\ Mod (fun b => b = x.rb \/ (0 < n /\ b = k)) w w'
   | .ret => elemsR (ef x.ver x.flex) n.toNat s = .early /\ Act.get a' Γ.res = x.ev /\ a'.defers = [] /\ Mod (fun b => b = x.rb \/ (0 < n /\ b = k)) w w'
   | _ => False) a w
section
variable {P : Program} {Γ : Sl} {σ : St} {f g : FT} {id id' id2 id3 : Nat} {ty ety : Ty} {rd rd' : Int -> Bool -> RS -> Tr × RS} {sa sl si sz b0 b1 : Nat} {z : Nat -> Value} {ef : EF}
 {y1 y2 y3 y4 y5 y6 y7 y8 y9 : TypeId} {p1 p2 p3 p4 p5 p6 p7 p8 p9 : String} {e1 e2 e3 e4 e5 e6 e7 e8 e9 : Array Edge} {ts ts1 ts2 : Array TypeId} {t1 t2 t3 t4 t5 t6 : Nat} {yg yh ym yn : TypeId}
theorem ok_rule {fok fc : Nat} (h1 : ∀ {w : World} {rb sb : Nat} {s : RS}, Rd w rb sb s -> Calls P fok #[.pointer (some ⟨rb, 0, none⟩)] w fun e w' => e = .returned (.bool (!s.bad)) /\ w = w')
  (h2 : ∀ {w : World} {rb sb : Nat} {s : RS} {ev : Value}, ErrIs w ev -> Rd w rb sb s -> Calls P fc #[.pointer (some ⟨rb, 0, none⟩)] w fun e w' => e = .returned (endErr ev s.bad) /\ w = w') (hb1 : bodied P fok = true) (hb2 : bodied P fc = true)
  (hs : (Γ.free t1 && Γ.free t2 && Γ.free t3 && Γ.free Γ.res) = true) :
  OkC P Γ (.seq (.region id #[⟨some t1, .call ⟨.value (.func fok), #[.tmp Γ.b], ts1⟩, y1, p1, e1, none⟩, ⟨some t2, .unOp .not yg (.tmp t1), y2, p2, e2, none⟩] false)
   (.cond (.tmp t2) (.seq (.region id2 #[⟨some t3, .call ⟨.value (.func fc), #[.tmp Γ.b], ts2⟩, y3, p3, e3, none⟩, ⟨some Γ.res, .assign (.tmp t3), y4, p4, e4, none⟩] false) .ret) .skip)) := by
 intro x s a w hA
 simp only [Bool.and_eq_true] at hs
 obtain ⟨⟨⟨s1, s2⟩, s3⟩, s4⟩ := hs
 have e0 : ∀ a : Act, Act.get a Γ.b = .pointer (some ⟨x.rb, 0, none⟩) -> (#[Operand.tmp Γ.b] : Array Operand).map a.eval = #[.pointer (some ⟨x.rb, 0, none⟩)] := fun a h => by simp [Ze, h]
 refine wp_seq (wp_region_lit (wpl_call rfl (Zy hb1 rfl) (by rw [e0 _ hA.b]; exact h1 hA.rd) ?_))
 rintro e w' ⟨rfl, rfl⟩
 have hA1 := hA.put s1 (.bool (!s.bad))
 refine ⟨_, rfl, Zv rfl (x_notV (b := !s.bad) (c := s.bad) (by rw [Ze, Zq (hA.lt s1)]) (by simp)) (wpList_nil ?_)⟩
 have hA2 := hA1.put s2 (.bool s.bad)
 have hv : Act.eval ((a.put (some t1) (.bool (!s.bad))).put (some t2) (.bool s.bad)) (.tmp t2) = .bool s.bad := by rw [Ze, Zq (by rw [Zs]; exact hA.lt s2)]
 cases hbad : s.bad with
 | true =>
  rw [hbad] at hv hA2
  refine wp_cond_true hv (wp_seq (wp_region_lit (wpl_call rfl (Zy hb2 rfl) (by rw [e0 _ hA2.b]; exact h2 hA2.err hA2.rd) ?_)))
  rintro e w' ⟨rfl, rfl⟩
  refine ⟨_, rfl, Zv rfl Zi (wpList_nil (wp_ret ⟨rfl, rfl, ?_, ?_⟩))⟩
  ·rw [Zq (by simp only [Zs]; exact hA.lt s4), Ze, Zq (by simp only [Zs]; exact hA.lt s3), hbad]
   rfl
  ·simp only [Zd]; exact hA.defers
 | false =>
  rw [hbad] at hv hA2
  refine wp_cond_false hv (wp_skip ⟨rfl, rfl, hA2, ?_⟩)
  exact ((SameBut.refl a).put (by simp [W, writes]) _).put (by simp [W, writes]) _
theorem cut_rule {LT e : Nat} (hI : elemInfo P LT e sz = true) (hs : (Γ.free t1 && Γ.free t2 && Γ.free sa) = true) :
  CutC P Γ (.region id #[⟨some t1, .move (.tmp sa), y1, p1, e1, none⟩, ⟨some t2, .slice LT (.tmp t1) none (some (.const (.int .i64 0))) none, y2, p2, e2, none⟩, ⟨some sa, .assign (.tmp t2), y3, p3, e3, none⟩] false) sa := by
 intro x s a w ao n cap hA hv
 simp only [Bool.and_eq_true] at hs
 obtain ⟨⟨s1, s2⟩, s3⟩ := hs
 refine wp_region_lit (Zv rfl Zm (Zv rfl (x_slice0 (n := n) (cap := cap) (ao := ao) hI (fun _ => rfl) ?_) (Zv rfl Zi (wpList_nil ⟨rfl, rfl, ?_, ?_, ?_⟩))))
 ·rw [Ze, Zq (hA.lt s1), Ze, hv]
 ·exact ((hA.put s1 _).put s2 _).put s3 _
 ·rw [Zq (by simp only [Zs]; exact hA.lt s3), Ze, Zq (by simp only [Zs]; exact hA.lt s2)]
 ·exact (((SameBut.refl a).put (by simp [W, writes]) _).put (by simp [W, writes]) _).put (by simp [W, writes]) _
theorem grow_rule {LT IT e : Nat} {zs : Array Value} (hI : elemInfo P LT e sz = true) (hIT : P.underlying IT = some (.int .i32)) (hz : (zeroOf P e).map (·.cells) = some zs)
  (hs : (Γ.free t1 && Γ.free t2 && Γ.free t3 && Γ.free t4 && Γ.free t5 && Γ.free sa && t3 != t4 && t1 != sa && t1 != sl && t2 != sa && t2 != sl && t3 != sl) = true) :
  GrowC P Γ (.seq (.region id #[⟨some t1, .move (.tmp sl), y1, p1, e1, none⟩, ⟨some t2, .binOp .gtr yg (.tmp t1) (.const (.int .i32 0)) yh, y2, p2, e2, none⟩] false)
   (.cond (.tmp t2) (.region id2 #[⟨some t3, .move (.tmp sa), y3, p3, e3, none⟩, ⟨some t4, .move (.tmp sl), y4, p4, e4, none⟩, ⟨some t5, .call ⟨.builtin .append, #[.tmp t3, .tmp t4], #[LT, IT]⟩, y5, p5, e5, none⟩, ⟨some sa, .assign (.tmp t5), y6, p6, e6, none⟩] false) .skip)) sa sl sz (from' zs 0) := by
 intro x s a w ao n hA hva hvl hn
 simp only [Bool.and_eq_true, bne_iff_ne] at hs
 obtain ⟨⟨⟨⟨⟨⟨⟨⟨⟨⟨⟨s1, s2⟩, s3⟩, s4⟩, s5⟩, s6⟩, n34⟩, n1a⟩, n1l⟩, n2a⟩, n2l⟩, n3l⟩ := hs
 have l1 := hA.lt s1
 have l2 := hA.lt s2
 have l3 := hA.lt s3
 have l4 := hA.lt s4
 have l5 := hA.lt s5
 have l6 := hA.lt s6
 refine wp_seq (wp_region_lit (Zv rfl Zm (Zv rfl (x_gtr (k := .i32) (m := n) (n := 0) ?_ rfl) (wpList_nil ?_))))
 ·rw [Ze, Zq l1, Ze, hvl]
 have hA2 := (hA.put s1 (a.eval (.tmp sl))).put s2 (.bool (decide (0 < n)))
 have hv : Act.eval ((a.put (some t1) (a.eval (.tmp sl))).put (some t2) (.bool (decide (0 < n)))) (.tmp t2) = .bool (decide (0 < n)) := by rw [Ze, Zq (by rw [Zs]; exact l2)]
 have hsb0 : SameBut (fun t => t = t1 \/ t = t2) a ((a.put (some t1) (a.eval (.tmp sl))).put (some t2) (.bool (decide (0 < n)))) := ((SameBut.refl a).put (.inl rfl) _).put (.inr rfl) _
 have hva2 : Act.get ((a.put (some t1) (a.eval (.tmp sl))).put (some t2) (.bool (decide (0 < n)))) sa = .slice ao 0 0 := by rw [Zn n2a, Zn n1a, hva]
 have hvl2 : Act.get ((a.put (some t1) (a.eval (.tmp sl))).put (some t2) (.bool (decide (0 < n)))) sl = .int .i32 n := by rw [Zn n2l, Zn n1l, hvl]
 generalize ((a.put (some t1) (a.eval (.tmp sl))).put (some t2) (.bool (decide (0 < n)))) = a2 at *
 by_cases h0 : 0 < n
 ·refine wp_cond_true (by rw [hv]; simp [h0]) ?_
  obtain ⟨m, hm⟩ : ∃ m : Nat, n = m := ⟨n.toNat, by omega⟩
  subst hm
  have hm0 : 0 < m := by omega
  have k2 : a2.tmps.size = a.tmps.size := hsb0.size
  refine wp_region_lit (Zv rfl Zm (Zv rfl Zm ?_))
  simp only [Ze]
  rw [Zn n3l, hva2, hvl2]
  obtain ⟨v, hv1, hv2, C, c1, c2, c3, c4, hr⟩ := x_zeros (P := P) (ρ := Act.eval ((a2.put (some t3) (.slice ao 0 0)).put (some t4) (.int .i32 (m : Nat)))) (w := w) (d := some t5) (ty := y5) (p := p5) (af := e5) (g := none) (x := .tmp t3) (y := .tmp t4) (kq := .i32) (n := m) (ao := ao) hI ⟨_, hIT⟩
   (by rw [Ze, Zn (Ne.symm n34), Zq (by rw [k2]; exact l3)]) (by rw [Ze, Zq (by rw [Zs, k2]; exact l4)]) hm0 (by omega)
  refine Zv rfl hr (Zv rfl Zi (wpList_nil ⟨rfl, ?_, ?_, ?_, .inr ⟨h0, _, ?_, c2, c3, C, e, ?_, c1, ?_⟩⟩))
  ·have hm' : Mod none' w (w.drew.alloc (.cells C e)) := (Mod.refl w).drew.alloc _
   have := (((hA2.put s3 (.slice ao 0 0)).put s4 (.int .i32 (m : Nat))).put s5 (.slice (some ⟨w.heap.size, 0, none⟩) m (grownCap w m 0 e))).put s6 (Act.eval (((a2.put (some t3) (.slice ao 0 0)).put (some t4) (.int .i32 (m : Nat))).put (some t5) (.slice (some ⟨w.heap.size, 0, none⟩) m (grownCap w m 0 e))) (.tmp t5))
   exact this.world (this.rd.mod hm' (fun f => f) (fun f => f)) (this.err.mod hm' (fun f => f))
  ·refine (hsb0.mono fun t ht => ?_).trans (((((SameBut.refl a2).put ?_ _).put ?_ _).put ?_ _).put ?_ _)
   ·rcases ht with rfl | rfl <;> simp [W, writes]
   all_goals simp [W, writes]
  ·exact (Mod.refl w).drew.alloc _
  ·rw [Zq (by simp only [Zs]; rw [k2]; exact l6), Ze, Zq (by simp only [Zs]; rw [k2]; exact l5)]
   simp
  ·exact Zh w.drew _
  ·intro i hi j hj
   rw [c4 i (by simpa using hi) j hj]
   rw [hv1] at hz
   obtain rfl : v.cells = zs := by simpa using hz
   have : j < v.cells.size := by omega
   simp [from', this]
 ·refine wp_cond_false (by rw [hv]; simp [h0]) (wp_skip ⟨rfl, hA2, hsb0.mono fun t ht => ?_, .refl w, .inl ⟨by omega, rfl, hva2⟩⟩)
  rcases ht with rfl | rfl <;> simp [W, writes]
theorem loop_rule {cb : Code} (hE : ElemC P Γ cb sa si ety sz z ef)
  (hs : (Γ.free si && Γ.free t1 && Γ.free t2 && Γ.free t3 && Γ.free t4 && Γ.free t5 && t1 != t2 && t1 != si && t2 != si && t3 != si && t1 != sl && t2 != sl && t3 != sl && t4 != sl && t5 != sl && si != sl && t1 != sa && t2 != sa && t3 != sa && t4 != sa && t5 != sa && si != sa &&
   !(writes cb).contains sa && !(writes cb).contains sl && !(writes cb).contains si) = true) :
  LoopC P Γ (.seq (.region id #[⟨some si, .assign (.const (.int .i32 0)), y1, p1, e1, none⟩] false) (.block b0 (.loop (.seq (.seq (.region id2 #[⟨some t1, .move (.tmp si), y2, p2, e2, none⟩, ⟨some t2, .move (.tmp sl), y3, p3, e3, none⟩, ⟨some t3, .binOp .lss yg (.tmp t1) (.tmp t2) yh, y4, p4, e4, none⟩] false) (.cond (.tmp t3) .skip (.exit b0)))
   (.seq (.block b1 cb) (.region id3 #[⟨some t4, .move (.tmp si), y5, p5, e5, none⟩, ⟨some t5, .binOp .add ym (.tmp t4) (.const (.int .i32 1)) yn, y6, p6, e6, none⟩, ⟨some si, .assign (.tmp t5), y7, p7, e7, none⟩] false)))))) sa sl ety sz z ef := by
 intro x F k cap n s a w _ hA hvl hn hrow hS hns
 simp only [Bool.and_eq_true, bne_iff_ne, Bool.not_eq_true', List.contains_eq_mem, decide_eq_false_iff_not] at hs
 obtain ⟨⟨⟨⟨⟨⟨⟨⟨⟨⟨⟨⟨⟨⟨⟨⟨⟨⟨⟨⟨⟨⟨⟨⟨si0, s1⟩, s2⟩, s3⟩, s4⟩, s5⟩, n12⟩, n1i⟩, n2i⟩, n3i⟩, n1l⟩, n2l⟩, n3l⟩, n4l⟩, n5l⟩, nil'⟩, n1a⟩, n2a⟩, n3a⟩, n4a⟩, n5a⟩, nia⟩, wa⟩, wl⟩, wi⟩ := hs
 have li := hA.lt si0
 have l1 := hA.lt s1
 have l2 := hA.lt s2
 have l3 := hA.lt s3
 have l4 := hA.lt s4
 have l5 := hA.lt s5
 refine wp_seq (wp_region_lit (Zv rfl Zi (wpList_nil ?_)))
 obtain ⟨WL, hWL⟩ : ∃ WL : Nat -> Prop, WL = W (.seq (.region id #[⟨some si, .assign (.const (.int .i32 0)), y1, p1, e1, none⟩] false) (.block b0 (.loop (.seq (.seq (.region id2 #[⟨some t1, .move (.tmp si), y2, p2, e2, none⟩, ⟨some t2, .move (.tmp sl), y3, p3, e3, none⟩, ⟨some t3, .binOp .lss yg (.tmp t1) (.tmp t2) yh, y4, p4, e4, none⟩] false) (.cond (.tmp t3) .skip (.exit b0)))
   (.seq (.block b1 cb) (.region id3 #[⟨some t4, .move (.tmp si), y5, p5, e5, none⟩, ⟨some t5, .binOp .add ym (.tmp t4) (.const (.int .i32 1)) yn, y6, p6, e6, none⟩, ⟨some si, .assign (.tmp t5), y7, p7, e7, none⟩] false)))))) := ⟨_, rfl⟩
 rw [<- hWL]
 have wsi : WL si := by rw [hWL]; simp [W, writes]
 have ww1 : WL t1 := by rw [hWL]; simp [W, writes]
 have ww2 : WL t2 := by rw [hWL]; simp [W, writes]
 have ww3 : WL t3 := by rw [hWL]; simp [W, writes]
 have ww4 : WL t4 := by rw [hWL]; simp [W, writes]
 have ww5 : WL t5 := by rw [hWL]; simp [W, writes]
 have wcb : ∀ t, W cb t -> WL t := fun t ht => by
  rw [hWL]
  have : t ∈ writes cb := ht
  simp [W, writes, this]
 clear hWL
 refine wp_for
  (I := fun m a1 w1 => ∃ s1 ts, Amb Γ x s1 a1 w1 /\ ts.length + m = n.toNat /\ Act.get a1 si = .int .i32 (ts.length : Nat) /\ Act.get a1 sl = .int .i32 n /\ (0 < n -> Act.get a1 sa = .slice (some ⟨k, 0, none⟩) n.toNat cap /\ Row w1 F k cap sz ety z n.toNat ts) /\ SameBut WL a a1 /\
   Mod (fun b => b = x.rb \/ (0 < n /\ b = k)) w w1 /\ elemsR (ef x.ver x.flex) n.toNat s = (elemsR (ef x.ver x.flex) m s1).then fun r s2 => .ok (ts ++ r) s2)
  (J := fun m a1 w1 => ∃ s1 ts, Amb Γ x s1 a1 w1 /\ ts.length + (m + 1) = n.toNat /\ Act.get a1 si = .int .i32 (ts.length : Nat) /\ Act.get a1 sl = .int .i32 n /\ (0 < n -> Act.get a1 sa = .slice (some ⟨k, 0, none⟩) n.toNat cap /\ Row w1 F k cap sz ety z n.toNat ts) /\ SameBut WL a a1 /\
   Mod (fun b => b = x.rb \/ (0 < n /\ b = k)) w w1 /\ elemsR (ef x.ver x.flex) n.toNat s = (elemsR (ef x.ver x.flex) (m + 1) s1).then fun r s2 => .ok (ts ++ r) s2)
  (K := fun m a1 w1 => ∃ s1 ts, Amb Γ x s1 a1 w1 /\ ts.length + m = n.toNat /\ 0 < ts.length /\ Act.get a1 si = .int .i32 ((ts.length - 1 : Nat) : Int) /\ Act.get a1 sl = .int .i32 n /\ (0 < n -> Act.get a1 sa = .slice (some ⟨k, 0, none⟩) n.toNat cap /\ Row w1 F k cap sz ety z n.toNat ts) /\ SameBut WL a a1 /\
   Mod (fun b => b = x.rb \/ (0 < n /\ b = k)) w w1 /\ elemsR (ef x.ver x.flex) n.toNat s = (elemsR (ef x.ver x.flex) m s1).then fun r s2 => .ok (ts ++ r) s2)
  n.toNat ?_ ?_ ?_ ?_
 ·refine ⟨s, [], hA.put si0 _, by simp, ?_, ?_, fun h => ?_, (SameBut.refl a).put wsi _, .refl w, ?_⟩
  ·rw [Zq li]; rfl
  ·rw [Zn nil', hvl]
  ·rw [Zn nia]; exact hrow h
  ·simp only [List.nil_append]; exact (R.then_ok _).symm
 ·rintro m a1 w1 ⟨s1', ts, hA1, hlen, hi, hl, hr, hsb, hmod, heq⟩
  have z1 := hA1.lt s1
  have z2 := hA1.lt s2
  have z3 := hA1.lt s3
  refine wp_region_lit (Zv rfl Zm (Zv rfl Zm (Zv rfl (x_lss (k := .i32) (m := (ts.length : Nat)) (n := n) ?_ ?_) (wpList_nil ⟨rfl, ?_⟩))))
  ·rw [Ze, Zn (Ne.symm n12), Zq z1, Ze, hi]
  ·rw [Ze, Zq (by rw [Zs]; exact z2), Ze, Zn n1l, hl]
  ·rw [Zq (by simp only [Zs]; exact z3)]
   cases m with
   | zero =>
    right
    refine ⟨by congr 1; simp; omega, ts, s1', ?_, ((hA1.put s1 _).put s2 _).put s3 _, fun h => ⟨(hr h).2, by simpa using hlen⟩, ((hsb.put ww1 _).put ww2 _).put ww3 _, hmod⟩
    rw [heq]; simp [elemsR, R.then]
   | succ m =>
    left
    refine ⟨m, rfl, by congr 1; simp; omega, s1', ts, ((hA1.put s1 _).put s2 _).put s3 _, hlen, ?_, ?_, fun h => ⟨?_, (hr h).2⟩, ((hsb.put ww1 _).put ww2 _).put ww3 _, hmod, heq⟩
    ·rw [Zn n3i, Zn n2i, Zn n1i, hi]
    ·rw [Zn n3l, Zn n2l, Zn n1l, hl]
    ·rw [Zn n3a, Zn n2a, Zn n1a]; exact (hr h).1
 ·rintro m a1 w1 ⟨s1', ts, hA1, hlen, hi, hl, hr, hsb, hmod, heq⟩
  have h0 : 0 < n := by omega
  have hns1 : ef x.ver x.flex s1' ≠ .stuck := fun e => hns (by rw [heq]; simp [elemsR, e, R.then])
  refine wp_mono (hE x F k cap n.toNat ts s1' a1 w1 hA1 (hr h0).1 hi (by omega) (hr h0).2 ((hS h0).later hmod.size) hns1) ?_
  intro e a2 w2 h2
  cases e with
  | normal =>
   obtain ⟨t, s2', he, hA2, hrow2, hsb2, hmod2⟩ := h2
   refine ⟨s2', ts ++ [t], hA2, by simp; omega, by simp, ?_, ?_, fun h => ⟨?_, hrow2⟩, hsb.trans (hsb2.mono wcb), hmod.trans (hmod2.mono fun _ _ e => e.imp (fun q => q) fun e => ⟨h0, e⟩), ?_⟩
   ·rw [hsb2.get _ wi, hi]; simp
   ·rw [hsb2.get _ wl, hl]
   ·rw [hsb2.get _ wa]; exact (hr h).1
   ·rw [heq]
    simp only [elemsR, he, R.then_assoc]
    show (elemsR (ef x.ver x.flex) m s2').then _ = _
    congr 1
    funext r s3
    simp [R.then]
  | ret =>
   refine ⟨?_, h2.2.1, h2.2.2.1, hmod.trans (h2.2.2.2.mono fun _ _ e => e.imp (fun q => q) fun e => ⟨h0, e⟩)⟩
   rw [heq]; simp [elemsR, h2.1, R.then]
  | _ => exact h2.elim
 ·rintro m a1 w1 ⟨s1', ts, hA1, hlen, hpos, hi, hl, hr, hsb, hmod, heq⟩
  have z4 := hA1.lt s4
  have z5 := hA1.lt s5
  have zi := hA1.lt si0
  refine wp_region_lit (Zv rfl Zm (Zv rfl (x_add (k := .i32) (m := ((ts.length - 1 : Nat) : Int)) (n := 1) ?_ rfl) (Zv rfl Zi (wpList_nil ⟨rfl, s1', ts, ?_, hlen, ?_, ?_, fun h => ⟨?_, (hr h).2⟩, ?_, hmod, heq⟩))))
  ·rw [Ze, Zq z4, Ze, hi]
  ·exact ((hA1.put s4 _).put s5 _).put si0 _
  ·rw [Zq (by simp only [Zs]; exact zi), Ze, Zq (by simp only [Zs]; exact z5)]
   congr 1
   rw [wrap32_eq]
   simp only [wrap32]
   omega
  ·rw [Zn nil', Zn n5l, Zn n4l, hl]
  ·rw [Zn nia, Zn n5a, Zn n4a]; exact (hr h).1
  ·exact ((hsb.put ww4 _).put ww5 _).put wsi _
end
end Go.Proofs.YtcldbjehliladaaDoor
set_option linter.unusedSimpArgs false
set_option linter.unusedVariables false
namespace Go.Proofs.YtcldbjehliladaaDoor
open Go Go.RowKit
section
variable {P : Program} {Γ : Sl} {σ σ' : St} {f g : FT} {id id' id2 id3 : Nat} {ty ety : Ty} {rd rd' : Int -> Bool -> RS -> Tr × RS} {sa sl si sv sz b0 b1 : Nat} {z : Nat -> Value} {ef : EF}
 {y1 y2 y3 y4 y5 y6 y7 y8 y9 : TypeId} {p1 p2 p3 p4 p5 p6 p7 p8 p9 : String} {e1 e2 e3 e4 e5 e6 e7 e8 e9 : Array Edge} {ts ts1 ts2 : Array TypeId} {t1 t2 t3 t4 t5 t6 : Nat} {yg yh ym yn : TypeId}
/-- 's.F = v', where v is known -/
theorem put_region {tv T k i o yt : Nat} (hat : σ.lay.at i = some (o, ty)) (hok : σ.okAt i o ty = true) (hf : fieldOff P T k = some o) (hsz : sized P yt ty.size = true)
  (hs : (Γ.free t1 && Γ.free t2 && Γ.free t3 && Γ.free t4 && t1 != tv && t2 != t1 && t3 != t2 && t4 != t2 && t1 != σ.s && t2 != σ.s && t3 != σ.s && t4 != σ.s) = true)
  {x : Cx} {F : Nat -> Prop} {blk off : Nat} {v : SV} {s : RS} {a : Act} {w : World} {u : Tr} (hA : Amb Γ x s a w) (hp : Act.get a σ.s = .pointer (some ⟨blk, off, none⟩)) (hC : Cur σ F blk off v w) (hS : Sep x F blk w) (hV : RepV w F ty (Act.get a tv) u) :
  (Code.region id #[⟨some t1, .move (.tmp σ.s), y1, p1, e1, none⟩, ⟨some t2, .move (.tmp tv), y2, p2, e2, none⟩, ⟨some t3, .nilCheck (.tmp t1), y3, p3, e3, none⟩,
   ⟨some t4, .fieldAddr T (.tmp t3) k, y4, p4, e4, none⟩, ⟨none, .store yt (.tmp t4) (.tmp t2), y5, p5, e5, none⟩] false).wp P
   (fun e a' w' => e = .normal /\ Amb Γ x s a' w' /\ Cur σ F blk off (v.1.set i u, v.2) w' /\ SameBut (fun t => t = t1 \/ t = t2 \/ t = t3 \/ t = t4) a a' /\ Stp x blk off σ.sz w w') a w := by
 simp only [Bool.and_eq_true, bne_iff_ne] at hs
 obtain ⟨⟨⟨⟨⟨⟨⟨⟨⟨⟨⟨f1, f2⟩, f3⟩, f4⟩, n1⟩, n2⟩, n3⟩, n4⟩, m1⟩, m2⟩, m3⟩, m4⟩ := hs
 refine wp_region_lit ?_
 refine Zv rfl Zm (Zv rfl Zm ?_)
 simp only [Ze]
 rw [Zn n1, hp]
 have z1 := hA.lt f1
 have z2 := hA.lt f2
 have z3 := hA.lt f3
 have z4 := hA.lt f4
 refine Zv rfl (x_nilCheck (q := ⟨blk, off, none⟩) (by rw [Ze, Zn n2, Zq z1])) ?_
 refine Zv rfl (Za hf (b := blk) (o0 := off) (by rw [Ze, Zq (by simp only [Zs]; exact z3)])) ?_
 obtain ⟨C, t, h1, h2, h3, h4⟩ := hC.mem
 simp only [St.okAt, Bool.and_eq_true] at hok
 have hin := Lay.at_in _ _ _ _ _ _ hok.1.1 hat
 have htg : ∀ q, σ.tg = some q -> q < σ.sz /\ (q < o \/ o + ty.size <= q) := fun q hq => by
  have := hok.1.2
  rw [hq] at this
  simpa using this
 have hFb : ∀ k, F k -> k ≠ blk := fun k hk => (hS.apart k hk).2
 have hsb : ∀ u1 u2 u3 u4, SameBut (fun t => t = t1 \/ t = t2 \/ t = t3 \/ t = t4) a ((((a.put (some t1) u1).put (some t2) u2).put (some t3) u3).put (some t4) u4) := fun u1 u2 u3 u4 =>
  ((((SameBut.refl a).put (.inl rfl) _).put (.inr (.inl rfl)) _).put (.inr (.inr (.inl rfl))) _).put (.inr (.inr (.inr rfl))) _
 have key : ∀ (w2 : World) (C' : Array Value), Mod (only blk) w w2 -> w2.heap[blk]? = some (.cells C' t (0, 0)) -> C'.size = C.size -> (∀ j, j < off + o \/ off + o + ty.size <= j -> C'[j]? = C[j]?) ->
   Rep w F ty (fun j => from' C' off (o + j)) u -> ∀ a2, Amb Γ x s a2 w -> SameBut (fun t => t = t1 \/ t = t2 \/ t = t3 \/ t = t4) a a2 ->
   Amb Γ x s a2 w2 /\ Cur σ F blk off (v.1.set i u, v.2) w2 /\ SameBut (fun t => t = t1 \/ t = t2 \/ t = t3 \/ t = t4) a a2 /\ Stp x blk off σ.sz w w2 := by
  intro w2 C' hm hb hsize hout hrep a2 hA2 hsb2
  refine ⟨hA2.world (hA2.rd.mod hm (fun e => hS.rb e.symm) (fun e => (hS.apart _ hS.src).2 e)) (hA2.err.mod hm (fun e => hS.glob e.symm)), ?_, hsb2, ?_⟩
  ·exact cur_store hok.1.1 htg hat hC hFb hm h1 hb hsize hout hrep
  ·refine ⟨hm.mono fun _ _ e => .inr e, fun D td hD => ?_⟩
   rw [h1] at hD
   obtain ⟨rfl, rfl⟩ : C = D /\ t = td := by simpa using hD
   exact ⟨C', hb, hsize, fun j hj => hout j (by omega)⟩
 have hx2 : Act.get (((((a.put (some t1) (.pointer (some ⟨blk, off, none⟩))).put (some t2) (Act.get a tv)).put (some t3) (.pointer (some ⟨blk, off, none⟩))).put (some t4) (.pointer (some ⟨blk, off + o, none⟩)))) t2 = Act.get a tv := by
  rw [Zn n4, Zn n3, Zq (by simp only [Zs]; exact z2)]
 rcases hV with ⟨hone, hov, hrep⟩ | ⟨rfl, cs, hcs, hn, hall, hrep⟩
 ·rw [hone] at hsz
  have hbo : off + o < C.size := by omega
  refine wpl_skip rfl (x_store1 hsz (b := blk) (o := off + o) (v := Act.get a tv) (u := C[off + o]) (by rw [Ze, Zq (by simp only [Zs]; exact z4)]) (by rw [Ze]; exact hx2) hov
   (by rw [Zc h1]; exact Array.getElem?_eq_getElem hbo) (Zz h1)) (wpList_nil ?_)
  refine ⟨rfl, key _ (C.setIfInBounds (off + o) (Act.get a tv)) ((Mod.refl w).put _ _) (heap_setCell_same h1 _) (by simp) (fun j hj => by rw [Array.getElem?_setIfInBounds_ne (by omega)]) ?_ _ ((((hA.put f1 _).put f2 _).put f3 _).put f4 _) (hsb _ _ _ _)⟩
  refine Rep.congr ty (fun _ => Act.get a tv) _ _ hin.2.2 (fun j hj => ?_) hrep
  have : j = 0 := by omega
  subst this
  exact get_from' (by simp [hbo])
 ·simp only [Ty.size] at hsz hin key
  rw [<- hn] at hsz
  have hthere : w.there blk (off + o) cs.size := fun j hj => by
   rw [Zc h1, Zz h1, Array.getElem?_eq_getElem (by omega)]
   exact ⟨rfl, rfl⟩
  refine wpl_skip rfl (x_storeN hsz (b := blk) (o := off + o) (cs := cs) (by rw [Ze, Zq (by simp only [Zs]; exact z4)]) (by rw [Ze, hx2]; exact hcs) hall hthere) (wpList_nil ?_)
  obtain ⟨C', g1, g2, g3, g4⟩ := heap_setCells (w := w) cs.toList (off + o) C h1
  simp only [Array.length_toList] at g3 g4
  refine ⟨rfl, key _ C' (mod_setCells _ _ _ _) g1 g2 (fun j hj => g4 j (by omega)) ?_ _ ((((hA.put f1 _).put f2 _).put f3 _).put f4 _) (hsb _ _ _ _)⟩
  refine Rep.congr .uuid (from' cs 0) _ _ rfl (fun j hj => ?_) hrep
  simp only [Ty.size] at hj
  have h5 := g3 j (by omega) (by omega)
  refine get_from' ?_
  rw [<- Nat.add_assoc, h5]
  simp [from', show j < cs.size by omega]
/-- an element of one cell -/
theorem elem_scalar {c : Code} {tv LT ET e : Nat} (hg : Get P Γ c tv ety rd) (h1 : ety.size = 1) (hok : ety.ok = true) (hI : elemInfo P LT e 1 = true) (hsz : sized P ET 1 = true)
  (hs : (Γ.free t1 && Γ.free t2 && Γ.free t3 && Γ.free t4 && t1 != si && t1 != tv && t2 != tv && t2 != t1 && t3 != t1 && t3 != t2 && t4 != t3 && !(writes c).contains sa && !(writes c).contains si) = true) :
  ElemC P Γ (.seq c (.region id #[⟨some t1, .move (.tmp sa), y1, p1, e1, none⟩, ⟨some t2, .move (.tmp si), y2, p2, e2, none⟩, ⟨some t3, .move (.tmp tv), y3, p3, e3, none⟩, ⟨some t4, .indexAddr LT (.tmp t1) (.tmp t2), y4, p4, e4, none⟩,
   ⟨none, .store ET (.tmp t4) (.tmp t3), y5, p5, e5, none⟩] false)) sa si ety 1 z (fun ver fl s => .ok (rd ver fl s).1 (rd ver fl s).2) := by
 intro x F k cap n tl s a w hA ha hi hlt hR hS _
 simp only [Bool.and_eq_true, bne_iff_ne, Bool.not_eq_true', List.contains_eq_mem, decide_eq_false_iff_not] at hs
 obtain ⟨⟨⟨⟨⟨⟨⟨⟨⟨⟨⟨⟨f1, f2⟩, f3⟩, f4⟩, n1i⟩, n1v⟩, n2v⟩, n21⟩, n31⟩, n32⟩, n43⟩, wa⟩, wi⟩ := hs
 refine wp_seq (wp_mono (hg x s a w hA) ?_)
 rintro e a1 w1 ⟨rfl, hA1, hV, hsb, hmod⟩
 have hS1 := hS.later hmod.size
 have hR1 : Row w1 F k cap 1 ety z n tl := hR.mod hmod hS.rb (fun b hb => (hS.apart b hb).1)
 have hV1 := hV F hS.src hS.fresh
 have ha1 := (hsb.get _ wa).trans ha
 have hi1 := (hsb.get _ wi).trans hi
 have z1 := hA1.lt f1
 have z2 := hA1.lt f2
 have z3 := hA1.lt f3
 have z4 := hA1.lt f4
 obtain ⟨C, tc, hb, hC, hrep, hzero⟩ := hR1.mem
 have hcap := hR1.room
 rcases hV1 with ⟨_, hov, hrepv⟩ | ⟨rfl, _⟩
 ·refine wp_region_lit (Zv rfl Zm (Zv rfl Zm (Zv rfl Zm (Zv rfl (Zx (b := k) (o := 0) (n := n) (cap := cap) (i := tl.length) (sz := 1) (k := .i32) (elemSize_of hI) ?_ ?_ hlt) ?_))))
  ·rw [Ze, Zn n31, Zn n21, Zq z1, Ze, ha1]
  ·rw [Ze, Zn n32, Zq (by simp only [Zs]; exact z2), Ze, Zn n1i, hi1]
  refine wpl_abs (fun a2 => Amb Γ x (rd x.ver x.flex s).2 a2 w1 /\ SameBut (fun t => t = t1 \/ t = t2 \/ t = t3 \/ t = t4) a1 a2 /\ Act.get a2 t4 = .pointer (some ⟨k, 0 + tl.length * 1, none⟩) /\ Act.get a2 t3 = Act.get a1 tv) ⟨(((hA1.put f1 _).put f2 _).put f3 _).put f4 _, ((((SameBut.refl a1).put (.inl rfl) _).put (.inr (.inl rfl)) _).put (.inr (.inr (.inl rfl))) _).put (.inr (.inr (.inr rfl))) _, ?_, ?_⟩ ?_
  ·rw [Zq (by simp only [Zs]; exact z4)]
  ·rw [Zn n43, Zq (by simp only [Zs]; exact z3), Ze, Zn n2v, Zn n1v]
  rintro a2 ⟨hA2, hsb2, hg4, hg3⟩
  have hlC : 0 + tl.length * 1 < C.size := by omega
  refine wpl_skip rfl (x_store1 hsz (b := k) (o := 0 + tl.length * 1) (v := Act.get a1 tv) (u := C[0 + tl.length * 1]) (by rw [Ze, hg4]) (by rw [Ze, hg3]) hov (by rw [Zc hb]; exact Array.getElem?_eq_getElem hlC) (Zz hb)) (wpList_nil ?_)
  rw [Zo]
  have hm2 : Mod (only k) w1 (w1.setCell ⟨k, 0 + tl.length * 1, none⟩ (Act.get a1 tv)) := (Mod.refl w1).put _ _
  refine ⟨_, _, rfl, hA2.world (hA2.rd.mod hm2 (fun e => hS.rb e.symm) (fun e => (hS.apart _ hS.src).2 e)) (hA2.err.mod hm2 (fun e => hS.glob e.symm)), ?_, ?_, ?_⟩
  ·refine hR1.step hlt hok h1 hm2 (fun b hb e => (hS.apart b hb).2 e) (fun D td hD => ?_)
   rw [hb] at hD
   obtain ⟨rfl, rfl⟩ : C = D /\ tc = td := by simpa using hD
   refine ⟨_, heap_setCell_same hb _, by simp, fun j hj => ?_, ?_⟩
   ·rw [Array.getElem?_setIfInBounds_ne (by omega)]
   ·refine Rep.mod hm2 (fun b hb e => (hS.apart b hb).2 e) (fun _ h => h) _ _ _ (Rep.congr ety (fun _ => Act.get a1 tv) _ _ hok (fun j hj => ?_) hrepv)
    have : j = 0 := by omega
    subst this
    refine get_from' ?_
    have hq : tl.length < C.size := by omega
    simp only [Nat.zero_add, Nat.mul_one, Nat.add_zero]
    simp [hq]
  ·refine (hsb.mono fun t ht => by simp only [W, writes, List.mem_append] at *; exact .inl ht).trans (hsb2.mono fun t ht => ?_)
   rcases ht with rfl | rfl | rfl | rfl <;> simp [W, writes]
  ·exact (hmod.mono fun _ _ h => .inl h).trans (hm2.mono fun _ _ h => .inr h)
 ·simp [Ty.size] at h1
/-- what is made of an element that is a struct -/
def structE (f : FT) (z : SV) : EF := fun ver fl s => (f ver fl z s).then fun v s => .ok (.part v.1 v.2) s
/-- an element that is a struct -/
theorem elem_struct {rest : Code} {sp fd LT e : Nat} {d : SV -> SV} {z0 : SV} (hr : Blk P Γ σ rest f) (hd : DfC P fd σ d) (hbd : bodied P fd = true) (hI : elemInfo P LT e sz = true) (hsz : σ.sz = sz) (hok : (Ty.struct σ.lay σ.tg σ.sz).ok = true)
  (hz : ∀ w F, RepL w F σ.lay z z0.1 /\ (match σ.tg with | some o => TagsR w F (z o) z0.2 | none => z0.2 = []))
  (hs : (Γ.free t1 && Γ.free t2 && Γ.free t3 && Γ.free t4 && Γ.free t5 && Γ.free t6 && Γ.free sp && Γ.free σ.s && t1 != si && t2 != t1 && t4 != sp && t5 != sp) = true) :
  ElemC P Γ (.seq (.region id #[⟨some t1, .move (.tmp sa), y1, p1, e1, none⟩, ⟨some t2, .move (.tmp si), y2, p2, e2, none⟩, ⟨some t3, .indexAddr LT (.tmp t1) (.tmp t2), y3, p3, e3, none⟩, ⟨some sp, .assign (.tmp t3), y4, p4, e4, none⟩] false)
   (.seq (.region id2 #[⟨some t4, .move (.tmp sp), y5, p5, e5, none⟩, ⟨some t5, .call ⟨.value (.func fd), #[.tmp t4], ts⟩, y6, p6, e6, none⟩] false)
   (.seq (.region id3 #[⟨some t6, .move (.tmp sp), y7, p7, e7, none⟩, ⟨some σ.s, .assign (.tmp t6), y8, p8, e8, none⟩] false) rest))) sa si (.struct σ.lay σ.tg σ.sz) sz z
   (structE f (d z0)) := by
 unfold structE
 intro x F k cap n tl s a w hA ha hi hlt hR hS hns
 simp only [Bool.and_eq_true, bne_iff_ne] at hs
 obtain ⟨⟨⟨⟨⟨⟨⟨⟨⟨⟨⟨f1, f2⟩, f3⟩, f4⟩, f5⟩, f6⟩, fp⟩, fs⟩, n1i⟩, n21⟩, n4p⟩, n5p⟩ := hs
 have hns1 : f x.ver x.flex (d z0) s ≠ .stuck := fun e => hns (by simp [e, R.then])
 have z1 := hA.lt f1
 have z2 := hA.lt f2
 have z3 := hA.lt f3
 have z4 := hA.lt f4
 have z5 := hA.lt f5
 have z6 := hA.lt f6
 have zp := hA.lt fp
 have zs := hA.lt fs
 obtain ⟨C, tc, hb, hC, hrep, hzero⟩ := hR.mem
 have hcap := hR.room
 have hroom : tl.length * sz + sz <= C.size := by
  have := Nat.mul_le_mul_right sz (show tl.length + 1 <= cap by omega)
  rw [Nat.add_mul] at this
  omega
 simp only [Ty.ok, Bool.and_eq_true] at hok
 refine wp_seq (wp_region_lit (Zv rfl Zm (Zv rfl Zm (Zv rfl (Zx (b := k) (o := 0) (n := n) (cap := cap) (i := tl.length) (sz := sz) (k := .i32) (elemSize_of hI) ?_ ?_ hlt) (Zv rfl Zi (wpList_nil ?_))))))
 ·rw [Ze, Zn n21, Zq z1, Ze, ha]
 ·rw [Ze, Zq (by simp only [Zs]; exact z2), Ze, Zn n1i, hi]
 obtain ⟨a1, ha1⟩ : ∃ a1, a1 = ((((a.put (some t1) (a.eval (.tmp sa))).put (some t2) (Act.eval (a.put (some t1) (a.eval (.tmp sa))) (.tmp si))).put (some t3) (.pointer (some ⟨k, 0 + tl.length * sz, none⟩))).put (some sp) (Act.eval (((a.put (some t1) (a.eval (.tmp sa))).put (some t2) (Act.eval (a.put (some t1) (a.eval (.tmp sa))) (.tmp si))).put (some t3) (.pointer (some ⟨k, 0 + tl.length * sz, none⟩))) (.tmp t3))) := ⟨_, rfl⟩
 rw [<- ha1]
 have hA1 : Amb Γ x s a1 w := by rw [ha1]; exact (((hA.put f1 _).put f2 _).put f3 _).put fp _
 have hsb1 : SameBut (fun t => t = t1 \/ t = t2 \/ t = t3 \/ t = sp) a a1 := by rw [ha1]; exact ((((SameBut.refl a).put (.inl rfl) _).put (.inr (.inl rfl)) _).put (.inr (.inr (.inl rfl))) _).put (.inr (.inr (.inr rfl))) _
 have hp1 : Act.get a1 sp = .pointer (some ⟨k, tl.length * sz, none⟩) := by
  rw [ha1, Zq (by simp only [Zs]; exact zp), Ze, Zq (by simp only [Zs]; exact z3), Nat.zero_add]
 clear ha1
 have q1 : a1.tmps.size = a.tmps.size := hsb1.size
 have hcur : Cur σ F k (tl.length * sz) z0 w := by
  have hc : ∀ j, j < sz -> from' C (tl.length * sz) j = z j := fun j hj => get_from' (hzero _ (Nat.le_refl _) hlt j hj)
  obtain ⟨g1, g2⟩ := hz w F
  refine ⟨C, tc, hb, by omega, RepL.congr _ 0 σ.sz _ _ _ hok.1 (fun j _ hj => hc j (by omega)) g1, ?_⟩
  cases hg : σ.tg with
  | none => rw [hg] at g2; exact g2
  | some o =>
   rw [hg] at g2
   have : TagIn σ.tg σ.sz = true := hok.2
   rw [hg] at this
   simp only [TagIn, decide_eq_true_eq] at this
   show TagsR w F (from' C (tl.length * sz) o) z0.2
   rw [hc o (by omega)]; exact g2
 have e0 : ∀ a : Act, Act.get a t4 = .pointer (some ⟨k, tl.length * sz, none⟩) -> (#[Operand.tmp t4] : Array Operand).map a.eval = #[.pointer (some ⟨k, tl.length * sz, none⟩)] := fun a h => by simp [Ze, h]
 refine wp_seq (wp_region_lit (Zv rfl Zm (wpl_call rfl (Zy hbd rfl) (R := fun e w' => (∃ r, e = .returned r) /\ Mod (only k) w w' /\ Cur σ F k (tl.length * sz) (d z0) w' /\
  ∀ C t, w.heap[k]? = some (.cells C t (0, 0)) -> ∃ C', w'.heap[k]? = some (.cells C' t (0, 0)) /\ C'.size = C.size /\ ∀ j, j < tl.length * sz \/ tl.length * sz + σ.sz <= j -> C'[j]? = C[j]?) ?_ ?_)))
 ·rw [e0 _ (by rw [Zq (by rw [q1]; exact z4), Ze, hp1])]
  exact hd F k (tl.length * sz) z0 w hcur (fun b hb => (hS.apart b hb).2)
 rintro e w1 ⟨⟨r, rfl⟩, hm1, hcur1, hout1⟩
 refine ⟨r, rfl, wpList_nil ?_⟩
 have hS1 := hS.later hm1.size
 obtain ⟨a2, ha2⟩ : ∃ a2, a2 = ((a1.put (some t4) (a1.eval (.tmp sp))).put (some t5) r) := ⟨_, rfl⟩
 have hA2 : Amb Γ x s a2 w1 := by
  have h := (hA1.put f4 (a1.eval (.tmp sp))).put f5 r
  rw [<- ha2] at h
  exact h.world (h.rd.mod hm1 (fun e => hS.rb e.symm) (fun e => (hS.apart _ hS.src).2 e)) (h.err.mod hm1 (fun e => hS.glob e.symm))
 have hp2 : Act.get a2 sp = .pointer (some ⟨k, tl.length * sz, none⟩) := by rw [ha2, Zn n5p, Zn n4p, hp1]
 have hsb2 : SameBut (fun t => t = t4 \/ t = t5) a1 a2 := by rw [ha2]; exact ((SameBut.refl a1).put (.inl rfl) _).put (.inr rfl) _
 show Code.wp _ _ _ ((a1.put (some t4) (a1.eval (.tmp sp))).put (some t5) r) w1
 rw [<- ha2]
 clear ha2
 have q2 : a2.tmps.size = a1.tmps.size := hsb2.size
 refine wp_seq (wp_region_lit (Zv rfl Zm (Zv rfl Zi (wpList_nil ?_))))
 have hA3 := (hA2.put f6 (a2.eval (.tmp sp))).put fs (Act.eval (a2.put (some t6) (a2.eval (.tmp sp))) (.tmp t6))
 have hp3 : Act.get ((a2.put (some t6) (a2.eval (.tmp sp))).put (some σ.s) (Act.eval (a2.put (some t6) (a2.eval (.tmp sp))) (.tmp t6))) σ.s = .pointer (some ⟨k, tl.length * sz, none⟩) := by
  rw [Zq (by simp only [Zs]; rw [q2, q1]; exact zs), Ze, Zq (by rw [q2, q1]; exact z6), Ze, hp2]
 have hsb3 : SameBut (fun t => t = t6 \/ t = σ.s) a2 ((a2.put (some t6) (a2.eval (.tmp sp))).put (some σ.s) (Act.eval (a2.put (some t6) (a2.eval (.tmp sp))) (.tmp t6))) := ((SameBut.refl a2).put (.inl rfl) _).put (.inr rfl) _
 generalize ((a2.put (some t6) (a2.eval (.tmp sp))).put (some σ.s) (Act.eval (a2.put (some t6) (a2.eval (.tmp sp))) (.tmp t6))) = a3 at *
 refine wp_mono (hr x F k (tl.length * sz) (d z0) s a3 w1 hA3 hp3 hcur1 hS1 hns1) ?_
 intro e a4 w4 h4
 have hmd : ∀ w4, Stp x k (tl.length * sz) σ.sz w1 w4 -> Mod (fun b => b = x.rb \/ b = k) w w4 := fun w4 h => (hm1.mono fun _ _ e => .inr e).trans h.mod
 cases e with
 | normal =>
  obtain ⟨v', s', e4, hA4, hC4, hsb4, hst⟩ := h4
  refine ⟨.part v'.1 v'.2, s', by simp [e4, R.then], hA4, ?_, ?_, hmd w4 hst⟩
  ·refine hR.step hlt (by simp only [Ty.ok, Bool.and_eq_true]; exact hok) hsz (hmd w4 hst) (fun b hb e => ?_) (fun D td hD => ?_)
   ·rcases e with e | e
    ·exact (hS.apart b hb).1 e
    ·exact (hS.apart b hb).2 e
   ·obtain ⟨C1, c1, c2, c3⟩ := hout1 D td hD
    obtain ⟨C2, d1, d2, d3⟩ := hst.out C1 td c1
    rw [hsz] at c3 d3
    refine ⟨C2, d1, d2.trans c2, fun j hj => (d3 j hj).trans (c3 j hj), ?_⟩
    obtain ⟨C4, t4', k1, k2, k3, k4⟩ := hC4.mem
    rw [d1] at k1
    obtain ⟨rfl, rfl⟩ : C2 = C4 /\ td = t4' := by simpa using k1
    simp only [Rep]
    refine ⟨v'.1, v'.2, k3, ?_, rfl⟩
    cases hg : σ.tg with
    | none => rw [hg] at k4; exact k4
    | some o => rw [hg] at k4; exact k4
  ·refine (hsb1.mono fun t ht => ?_).trans ((hsb2.mono fun t ht => ?_).trans ((hsb3.mono fun t ht => ?_).trans (hsb4.mono fun t ht => ?_)))
   ·rcases ht with rfl | rfl | rfl | rfl <;> simp [W, writes]
   ·rcases ht with rfl | rfl <;> simp [W, writes]
   ·rcases ht with rfl | rfl <;> simp [W, writes]
   ·have : t ∈ writes rest := ht
    simp [W, writes, this]
 | ret =>
  refine ⟨by simp [h4.1, R.then], h4.2.1, h4.2.2.1, hmd w4 h4.2.2.2⟩
 | _ => exact h4.elim
end
end Go.Proofs.YtcldbjehliladaaDoor
set_option linter.unusedSimpArgs false
set_option linter.unusedVariables false
namespace Go.Proofs.YtcldbjehliladaaDoor
open Go Go.RowKit
/-- whether a field is null -/
def isNul : Option Tr -> Bool
 | some (.mk n s b l u) => n == 0 && s.isEmpty && b && l.isEmpty && u.isEmpty
 | none => false
theorem isNul_spec {o : Option Tr} (h : isNul o = true) : o = some .nul := by
 cases o with
 | none => simp [isNul] at h
 | some t =>
  cases t with
  | mk n s b l u =>
   simp [isNul] at h
   obtain ⟨⟨⟨⟨h1, h2⟩, h3⟩, h4⟩, h5⟩ := h
   subst h1; subst h2; subst h3; subst h4; subst h5
   rfl
def tailR (i : Nat) (e0 : Bool) (n : Int) (ef : RS -> R Tr) (v : SV) (s : RS) : R SV :=
 if s.bad then .early else (elemsR ef n.toNat s).then fun ts s2 => .ok (v.1.set i (if 0 < n then .list ts false else if e0 then .list [] false else .nul), v.2) s2
/-- a list as a field -/
def listF (i : Nat) (rdl : Int -> Bool -> RS -> Tr × RS) (nv : Int -> Int -> Bool) (ef : EF) : FT := fun ver fl v s =>
 if isNul v.1[i]? then tailR i (nv ver (rdl ver fl s).1.N) (rdl ver fl s).1.N (ef ver fl) v (rdl ver fl s).2 else .stuck
/-- a slice without elements: nil, or not -/
def EmptyV (e0 : Bool) (val : Value) (w : World) (F : Nat -> Prop) : Prop :=
 (e0 = false /\ val = .slice none 0 0) \/ (e0 = true /\ ∃ k t, F k /\ val = .slice (some ⟨k, 0, none⟩) 0 0 /\ w.heap[k]? = some (.cells #[] t (0, 0)))
theorem EmptyV.shape {e0 : Bool} {val : Value} {w : World} {F : Nat -> Prop} (h : EmptyV e0 val w F) : ∃ ao, val = .slice ao 0 0 := by
 rcases h with ⟨_, h⟩ | ⟨_, k, t, _, h, _⟩ <;> exact ⟨_, h⟩
theorem EmptyV.mod {e0 : Bool} {val : Value} {w w' : World} {F S : Nat -> Prop} (h : EmptyV e0 val w F) (hm : Mod S w w') (hs : ∀ k, F k -> ¬ S k) : EmptyV e0 val w' F := by
 rcases h with h | ⟨h1, k, t, h2, h3, h4⟩
 ·exact .inl h
 ·exact .inr ⟨h1, k, t, h2, h3, hm.some h4 (hs k h2)⟩
theorem Stp.of_mod {x : Cx} {blk off sz : Nat} {S : Nat -> Prop} {a b : World} (h : Mod S a b) (hs : ∀ k, k < a.heap.size -> S k -> k = x.rb) (hne : blk ≠ x.rb) : Stp x blk off sz a b :=
 ⟨h.mono fun i hi e => .inl (hs i hi e), fun C t hc => ⟨C, (h.mono fun i hi e => hs i hi e).some hc hne, rfl, fun _ _ => rfl⟩⟩
section
variable {P : Program} {Γ : Sl} {σ σ' : St} {f g : FT} {id id' id1 id2 id3 id4 id5 : Nat} {ty ety : Ty} {rdl : Int -> Bool -> RS -> Tr × RS} {sa sl si sv sz b0 b1 : Nat} {z : Nat -> Value} {ef : EF} {nv : Int -> Int -> Bool}
 {y1 y2 y3 y4 y5 y6 y7 y8 y9 y10 y11 y12 y13 y14 y15 : TypeId} {p1 p2 p3 p4 p5 p6 p7 p8 p9 p10 p11 p12 p13 p14 p15 : String} {e1 e2 e3 e4 e5 e6 e7 e8 e9 e10 e11 e12 e13 e14 e15 : Array Edge} {ts ts1 ts2 : Array TypeId} {t1 t2 t3 t4 t5 t6 t7 t8 t9 t10 : Nat} {yg yh ym yn : TypeId}
 {co cc cg cL cl cn : Code} {i o k T LT : Nat}
theorem list_tail (hat : σ.lay.at i = some (o, .list ety sz)) (hok : σ.okAt i o (.list ety sz) = true) (hf : fieldOff P T k = some o) (hsz : sized P LT 1 = true)
  (ho : OkC P Γ co) (hc : CutC P Γ cc sa) (hg : GrowC P Γ cg sa sl sz z) (hL : LoopC P Γ cL sa sl ety sz z ef)
  (hs : (Γ.free t1 && Γ.free t2 && Γ.free t3 && Γ.free t4 && Γ.free t5 && Γ.free sv && t2 != sv && t3 != t2 && t4 != t3 && t5 != t3 && t1 != σ.s && t2 != σ.s && t3 != σ.s && t4 != σ.s && t5 != σ.s && sv != σ.s &&
   !(writes co).contains σ.s && !(writes cc).contains σ.s && !(writes cg).contains σ.s && !(writes cL).contains σ.s && !(writes co).contains sa && !(writes co).contains sl && !(writes cc).contains sl && !(writes cg).contains sl && !(writes cL).contains sa) = true)
  {x : Cx} {F : Nat -> Prop} {blk off : Nat} {v : SV} {s : RS} {a : Act} {w : World} {n : Int} {e0 : Bool} (hA : Amb Γ x s a w) (hp : Act.get a σ.s = .pointer (some ⟨blk, off, none⟩)) (hC : Cur σ F blk off v w) (hS : Sep x F blk w)
  (hvl : Act.get a sl = .int .i32 n) (hn : n <= 2147483647) (hE : EmptyV e0 (Act.get a sa) w F) (hns : tailR i e0 n (ef x.ver x.flex) v s ≠ .stuck) :
  (Code.seq co (.seq cc (.seq cg (.seq cL (.seq (.region id1 #[⟨some t1, .move (.tmp sa), y1, p1, e1, none⟩, ⟨some sv, .assign (.tmp t1), y2, p2, e2, none⟩] false)
   (.region id2 #[⟨some t2, .move (.tmp σ.s), y3, p3, e3, none⟩, ⟨some t3, .move (.tmp sv), y4, p4, e4, none⟩, ⟨some t4, .nilCheck (.tmp t2), y5, p5, e5, none⟩, ⟨some t5, .fieldAddr T (.tmp t4) k, y6, p6, e6, none⟩, ⟨none, .store LT (.tmp t5) (.tmp t3), y7, p7, e7, none⟩] false)))))).wp P
  (fun e a' w' => match e with
   | .normal => ∃ v' s', tailR i e0 n (ef x.ver x.flex) v s = .ok v' s' /\ Amb Γ x s' a' w' /\ Cur σ F blk off v' w' /\ SameBut (fun t => W co t \/ W cc t \/ W cg t \/ W cL t \/ t = t1 \/ t = sv \/ t = t2 \/ t = t3 \/ t = t4 \/ t = t5) a a' /\ Stp x blk off σ.sz w w'
   | .ret => tailR i e0 n (ef x.ver x.flex) v s = .early /\ Act.get a' Γ.res = x.ev /\ a'.defers = [] /\ Stp x blk off σ.sz w w'
   | _ => False) a w := by
 simp only [Bool.and_eq_true, bne_iff_ne, Bool.not_eq_true', List.contains_eq_mem, decide_eq_false_iff_not] at hs
 obtain ⟨⟨⟨⟨⟨⟨⟨⟨⟨⟨⟨⟨⟨⟨⟨⟨⟨⟨⟨⟨⟨⟨⟨⟨f1, f2⟩, f3⟩, f4⟩, f5⟩, fv⟩, n2v⟩, n32⟩, n43⟩, n53⟩, m1⟩, m2⟩, m3⟩, m4⟩, m5⟩, mv⟩, wo⟩, wc⟩, wg⟩, wL⟩, woa⟩, wol⟩, wcl⟩, wgl⟩, wLa⟩ := hs
 -- is it all right?
 refine wp_seq (wp_mono (ho x s a w hA) ?_)
 intro e a1 w1 h
 cases e with
 | ret =>
  obtain ⟨hb, rfl, hr, hd⟩ := h
  exact ⟨by simp [tailR, hb], hr, hd, .refl _⟩
 | normal =>
  obtain ⟨hbad, rfl, hA1, hsb1⟩ := h
  have etail : tailR i e0 n (ef x.ver x.flex) v s = (elemsR (ef x.ver x.flex) n.toNat s).then fun ts s2 => .ok (v.1.set i (if 0 < n then .list ts false else if e0 then .list [] false else .nul), v.2) s2 := by simp [tailR, hbad]
  rw [etail] at hns ⊢
  have hns1 : elemsR (ef x.ver x.flex) n.toNat s ≠ .stuck := fun e => hns (by simp [e, R.then])
  -- a = a[:0]
  obtain ⟨ao, hao⟩ := hE.shape
  refine wp_seq (wp_mono (hc x s a1 w1 ao 0 0 hA1 ((hsb1.get _ woa).trans hao)) ?_)
  rintro e a2 w2 ⟨rfl, rfl, hA2, hva2, hsb2⟩
  -- new elements
  have hvl2 : Act.get a2 sl = .int .i32 n := by rw [hsb2.get _ wcl, hsb1.get _ wol, hvl]
  refine wp_seq (wp_mono (hg x s a2 w2 ao n hA2 hva2 hvl2 hn) ?_)
  rintro e a3 w3 ⟨rfl, hA3, hsb3, hm3, hrow⟩
  have hvl3 : Act.get a3 sl = .int .i32 n := (hsb3.get _ wgl).trans hvl2
  have hS3 := hS.later hm3.size
  have hC0 : Cur σ (fun b => F b /\ b < w2.heap.size) blk off v w3 := hC.lt.later hm3 (fun f => f) (fun _ _ f => f)
  have hblk : blk < w2.heap.size := by obtain ⟨C, t, h, _⟩ := hC.mem; exact lt_of_block h
  -- the loop
  obtain ⟨kk, hkk⟩ : ∃ kk, kk = w2.heap.size := ⟨_, rfl⟩
  obtain ⟨cap, hcap⟩ : ∃ cap, 0 < n -> Act.get a3 sa = .slice (some ⟨kk, 0, none⟩) n.toNat cap /\ cap <= maxLen /\ kk < w3.heap.size /\ Row w3 (fun b => F b /\ b ≠ kk) kk cap sz ety z n.toNat [] := by
   rcases hrow with ⟨h0, _⟩ | ⟨h0, cap, q1, q2, q3, C, t, q4, q5, q6⟩
   ·exact ⟨0, fun h => by omega⟩
   ·exact ⟨cap, fun _ => ⟨by rw [hkk]; exact q1, q3, by rw [hkk]; exact lt_of_block q4, by simp, q2, C, t, by rw [hkk]; exact q4, q5, fun i hi => by simp at hi, fun i _ hi j hj => q6 i hi j hj⟩⟩
  have hSin : 0 < n -> Sep x (fun b => F b /\ b ≠ kk) kk w3 := fun h0 => by
   have hk3 := (hcap h0).2.2.1
   have hgl : gErr < w2.heap.size := World.block_lt_of_cell? _ _ hA2.err.1
   have hrb : x.rb < w2.heap.size := hA2.rd.1
   have hold := hS.old
   have hsz3 := hm3.size
   exact ⟨fun b hb => ⟨(hS.apart b hb.1).1, hb.2⟩, fun b hb => ⟨hS.fresh b (by omega), by omega⟩, ⟨hS.src, by omega⟩, by omega, by omega, by omega⟩
  refine wp_seq (wp_mono (hL x (fun b => F b /\ b ≠ kk) kk cap n s a3 w3 () hA3 hvl3 hn (fun h0 => ⟨(hcap h0).1, (hcap h0).2.2.2⟩) hSin hns1) ?_)
  have hstp : ∀ w4, Mod (fun b => b = x.rb \/ (0 < n /\ b = kk)) w3 w4 -> Stp x blk off σ.sz w2 w4 := fun w4 hm4 =>
   Stp.of_mod (hm3.none.trans hm4) (fun k hk e => by rcases e with e | ⟨_, e⟩; exact e; omega) hS.rb
  intro e a4 w4 h4
  cases e with
  | ret => exact ⟨by simp [h4.1, R.then], h4.2.1, h4.2.2.1, hstp w4 h4.2.2.2⟩
  | normal =>
   obtain ⟨ts, s', e4, hA4, hr4, hsb4, hm4⟩ := h4
   have hC4 : Cur σ F blk off v w4 := (hC0.later hm4 (fun e => by rcases e with e | ⟨_, e⟩; exact hS.rb e; omega) (fun b hb e => by rcases e with e | ⟨_, e⟩; exact (hS.apart b hb.1).1 e; have := hb.2; omega)).weaken (fun b hb => hb.1)
   have hS4 := hS3.later hm4.size
   have hsa4 : Act.get a4 sa = Act.get a3 sa := hsb4.get _ wLa
   have hV : RepV w4 F (.list ety sz) (Act.get a4 sa) (if 0 < n then .list ts false else if e0 then .list [] false else .nul) := by
    by_cases h0 : 0 < n
    ·rw [if_pos h0]
     obtain ⟨hr, hl⟩ := hr4 h0
     obtain ⟨C, tc, q1, q2, q3, q4⟩ := hr.mem
     rw [hsa4, (hcap h0).1]
     refine .inl ⟨rfl, rfl, ?_⟩
     simp only [Rep]
     refine .inr ⟨ts, fun i j => from' C (i * sz) j, ⟨kk, cap, C, tc, hS.fresh _ (by omega), by rw [hl], by rw [hl]; exact hr.room, (hcap h0).2.1, q1, q2, fun i hi j hj => ?_⟩, by omega, fun i hi => ?_, rfl⟩
     ·have := Nat.mul_le_mul_right sz (show i + 1 <= cap by have := hr.room; omega)
      rw [Nat.add_mul] at this
      simp [from', show i * sz + j < C.size by omega]
     ·exact Rep.mod (Mod.refl (S := none') w4) (fun _ _ f => f) (fun b hb => hb.1) _ _ _ (q3 i hi)
    ·rw [if_neg h0]
     rcases hrow with ⟨_, rfl, hva3⟩ | ⟨h0', _⟩
     ·have hE4 : EmptyV e0 (Act.get a4 sa) w4 F := by
       rw [hsa4, hva3, <- hao]
       exact hE.mod hm4 (fun b hb e => by rcases e with e | ⟨e, _⟩; exact (hS.apart b hb).1 e; exact h0 e)
      rcases hE4 with ⟨rfl, hv⟩ | ⟨rfl, k', t, hk', hv, hb⟩
      ·rw [hv]; exact .inl ⟨rfl, rfl, by simp only [Rep]; exact .inl ⟨trivial, rfl⟩⟩
      ·rw [hv]
       refine .inl ⟨rfl, rfl, ?_⟩
       simp only [Rep]
       exact .inr ⟨[], fun _ _ => undef, ⟨k', 0, #[], t, hk', rfl, Nat.le_refl _, by simp [maxLen], hb, by simp, fun i hi => by simp at hi⟩, by simp, fun i hi => by simp at hi, rfl⟩
     ·exact (h0 h0').elim
   refine wp_seq (wp_region_lit (Zv rfl Zm (Zv rfl Zi (wpList_nil ?_))))
   have hA5 := (hA4.put f1 (a4.eval (.tmp sa))).put fv (Act.eval (a4.put (some t1) (a4.eval (.tmp sa))) (.tmp t1))
   have hg5 : Act.get ((a4.put (some t1) (a4.eval (.tmp sa))).put (some sv) (Act.eval (a4.put (some t1) (a4.eval (.tmp sa))) (.tmp t1))) sv = Act.get a4 sa := by
    rw [Zq (by rw [Zs]; exact hA4.lt fv), Ze, Zq (hA4.lt f1), Ze]
   have hp5 : Act.get ((a4.put (some t1) (a4.eval (.tmp sa))).put (some sv) (Act.eval (a4.put (some t1) (a4.eval (.tmp sa))) (.tmp t1))) σ.s = .pointer (some ⟨blk, off, none⟩) := by
    rw [Zn mv, Zn m1, hsb4.get _ wL, hsb3.get _ wg, hsb2.get _ wc, hsb1.get _ wo, hp]
   have hsb5 : SameBut (fun t => t = t1 \/ t = sv) a4 ((a4.put (some t1) (a4.eval (.tmp sa))).put (some sv) (Act.eval (a4.put (some t1) (a4.eval (.tmp sa))) (.tmp t1))) := ((SameBut.refl a4).put (.inl rfl) _).put (.inr rfl) _
   generalize ((a4.put (some t1) (a4.eval (.tmp sa))).put (some sv) (Act.eval (a4.put (some t1) (a4.eval (.tmp sa))) (.tmp t1))) = a5 at *
   refine wp_mono (put_region (tv := sv) (ty := .list ety sz) (i := i) hat hok hf hsz (by simp [f2, f3, f4, f5, n2v, n32, n43, n53, m2, m3, m4, m5]) hA5 hp5 hC4 hS4 (by rw [hg5]; exact hV)) ?_
   rintro e a6 w6 ⟨rfl, hA6, hC6, hsb6, hst6⟩
   refine ⟨_, s', by simp only [e4, R.then], hA6, hC6, ?_, (hstp w4 hm4).trans hst6⟩
   refine (hsb1.mono fun t ht => .inl ht).trans ((hsb2.mono fun t ht => .inr (.inl ht)).trans ((hsb3.mono fun t ht => .inr (.inr (.inl ht))).trans ((hsb4.mono fun t ht => .inr (.inr (.inr (.inl ht)))).trans ((hsb5.mono fun t ht => ?_).trans (hsb6.mono fun t ht => ?_)))))
   ·rcases ht with rfl | rfl <;> simp
   ·rcases ht with rfl | rfl | rfl | rfl <;> simp
  | _ => exact h4.elim
 | _ => exact h.elim
end
end Go.Proofs.YtcldbjehliladaaDoor
