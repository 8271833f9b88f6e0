/-
  Rules for the code that reads a message: tests of the version, choices, loops, lists. No program in it.
-/
import Derived.Test.YtadfbhmpehnkeaaDoorKFrm
import Derived.Test.YtadfbhmpehnkeaaDoorKAppB
import Derived.Deep.LoopGhost
import Derived.Lib.AppendZerosOnto
set_option linter.unusedSimpArgs false
set_option linter.unusedVariables false
namespace Go.Proofs.YtadfbhmpehnkeaaDoor
open Go Go.RowKit

/-- a loop that counts -/
theorem wp_for {P : Program} {Q : Exit → Act → World → Prop} {a : Act} {w : World} {b0 b1 t : Nat} {ct body inc : Code}
    (I J K : Nat → Act → World → Prop) (n : Nat) (h0 : I n a w)
    (ht : ∀ m a w, I m a w → ct.wp P (fun e a' w' => e = .normal ∧ ((∃ m', m = m' + 1 ∧ Act.get a' t = .bool true ∧ J m' a' w') ∨ (Act.get a' t = .bool false ∧ Q .normal a' w'))) a w)
    (hbd : ∀ m a w, J m a w → body.wp P (fun e a' w' => match e with | .normal => K m a' w' | .ret => Q .ret a' w' | _ => False) a w)
    (hi : ∀ m a w, K m a w → inc.wp P (fun e a' w' => e = .normal ∧ I m a' w') a w) :
    (Code.block b0 (.loop (.seq (.seq ct (.cond (.tmp t) .skip (.exit b0))) (.seq (.block b1 body) inc)))).wp P Q a w := by
  refine wp_block (wp_loop_ghost I n h0 ?_)
  intro m a w hI
  refine wp_seq (wp_seq (wp_mono (ht m a w hI) ?_))
  rintro e a1 w1 ⟨rfl, h⟩
  rcases h with ⟨m', rfl, hb1, hJ⟩ | ⟨hb1, hQ⟩
  · refine wp_cond_true (by rw [eval_tmp]; exact hb1) (wp_skip ?_)
    refine wp_seq (wp_block (wp_mono (hbd m' a1 w1 hJ) ?_))
    intro e a2 w2 h2
    cases e with
    | normal => exact wp_mono (hi m' a2 w2 h2) (by rintro e a3 w3 ⟨rfl, h3⟩; exact ⟨m', Nat.lt_succ_self _, h3⟩)
    | ret => exact h2
    | _ => exact h2.elim
  · refine wp_cond_false (by rw [eval_tmp]; exact hb1) (wp_exit ?_)
    simp [Exit.then, Exit.inBlock]
    exact hQ

theorem R.then_ok {α : Type} (r : R α) : r.then (fun v s => .ok v s) = r := by cases r <;> rfl
theorem R.then_assoc {α β γ : Type} (r : R α) (f : α → RS → R β) (g : β → RS → R γ) : (r.then f).then g = r.then fun v s => (f v s).then g := by cases r <;> rfl

section
variable {w : World} {F : Nat → Prop}
theorem Oct.lt' {v : Value} {bs : List UInt8} {nil : Bool} (h : Oct w F v bs nil) : Oct w (fun k => F k ∧ k < w.heap.size) v bs nil := by
  obtain ⟨sb, h1, h2⟩ := h
  rcases h1 with rfl | h1
  · exact ⟨sb, .inl rfl, h2⟩
  · rcases h2 with h2 | h2
    · obtain ⟨rfl, h3, h4⟩ := h2
      exact ⟨sb, .inl rfl, .inl ⟨rfl, h3, h4⟩⟩
    · obtain ⟨h3, off, cap, c, t, fr, h4, h5, h6, h7, h8⟩ := h2
      exact ⟨sb, .inr ⟨h1, lt_of_block h7⟩, .inr ⟨h3, off, cap, c, t, fr, h4, h5, h6, h7, h8⟩⟩
theorem PStr.lt' {v : Value} {o : Option (List UInt8)} (h : PStr w F v o) : PStr w (fun k => F k ∧ k < w.heap.size) v o := by
  cases o with
  | none => exact h
  | some bs => obtain ⟨k, t, h1, h2, h3⟩ := h; exact ⟨k, t, ⟨h1, lt_of_block h3⟩, h2, h3⟩
theorem TagsR.lt' {v : Value} {u : Tags} (h : TagsR w F v u) : TagsR w (fun k => F k ∧ k < w.heap.size) v u := by
  rcases h with h | ⟨r, es, clock, h1, h2, h3, h4, hlen, h4', kb, h5, h6, h7, h8⟩
  · exact .inl h
  · refine .inr ⟨r, es, clock, ⟨h1, lt_of_block h3⟩, h2, h3, h4, hlen, h4', kb, h5, h6, h7, fun i hi => ?_⟩
    obtain ⟨e, nil, g1, g2, g3, g4⟩ := h8 i hi
    exact ⟨e, nil, g1, g2, g3.lt', g4⟩
mutual
theorem Rep.lt : ∀ (ty : Ty) (c : Nat → Value) (t : Tr), Rep w F ty c t → Rep w (fun k => F k ∧ k < w.heap.size) ty c t
  | .int k, c, t, h => h
  | .bool, c, t, h => h
  | .float, c, t, h => h
  | .str, c, t, h => h
  | .pstr, c, t, h => by
    simp only [Rep] at h ⊢
    obtain ⟨o, h1, h2⟩ := h; exact ⟨o, h1.lt', h2⟩
  | .bytes, c, t, h => by
    simp only [Rep] at h ⊢
    obtain ⟨bs, nil, h1, h2⟩ := h; exact ⟨bs, nil, h1.lt', h2⟩
  | .uuid, c, t, h => h
  | .list e sz, c, t, h => by
    simp only [Rep] at h ⊢
    rcases h with h | ⟨l, f, ⟨k, cap, C, ty, g1, g2, g3, g4, g5, g6⟩, hb, h2, h3⟩
    · exact .inl h
    · exact .inr ⟨l, f, ⟨k, cap, C, ty, ⟨g1, lt_of_block g5⟩, g2, g3, g4, g5, g6⟩, hb, fun i hi => Rep.lt e _ _ (h2 i hi), h3⟩
  | .struct lay tg sz, c, t, h => by
    simp only [Rep] at h ⊢
    obtain ⟨vs, u, h1, h2, h3⟩ := h
    refine ⟨vs, u, RepL.lt lay _ _ h1, ?_, h3⟩
    cases tg with
    | none => exact h2
    | some o => exact TagsR.lt' h2
  | .pstruct lay tg sz, c, t, h => by
    simp only [Rep] at h ⊢
    rcases h with h | ⟨k, C, ty, vs, u, h1, h2, h3, h4, h5, h6, h7⟩
    · exact .inl h
    · refine .inr ⟨k, C, ty, vs, u, ⟨h1, lt_of_block h3⟩, h2, h3, h4, RepL.lt lay _ _ h5, ?_, h7⟩
      cases tg with
      | none => exact h6
      | some o => exact TagsR.lt' h6
theorem RepL.lt : ∀ (lay : Lay) (c : Nat → Value) (vs : List Tr), RepL w F lay c vs → RepL w (fun k => F k ∧ k < w.heap.size) lay c vs
  | .nil, c, vs, h => h
  | .cons o t r, c, vs, h => by
    simp only [RepL] at h ⊢
    obtain ⟨v, vs', h1, h2, h3⟩ := h
    exact ⟨v, vs', h1, Rep.lt t _ _ h2, RepL.lt r _ _ h3⟩
end
end
theorem Cur.lt {σ : St} {F : Nat → Prop} {blk off : Nat} {v : SV} {w : World} (h : Cur σ F blk off v w) : Cur σ (fun k => F k ∧ k < w.heap.size) blk off v w := by
  obtain ⟨C, t, h1, h2, h3, h4⟩ := h.mem
  refine ⟨C, t, h1, h2, RepL.lt _ _ _ h3, ?_⟩
  cases hg : σ.tg with
  | none => rw [hg] at h4; exact h4
  | some o => rw [hg] at h4; exact TagsR.lt' h4
theorem Cur.weaken {σ : St} {F F' : Nat → Prop} {blk off : Nat} {v : SV} {w : World} (h : Cur σ F blk off v w) (hf : ∀ k, F k → F' k) : Cur σ F' blk off v w := by
  obtain ⟨C, t, h1, h2, h3, h4⟩ := h.mem
  refine ⟨C, t, h1, h2, h3.mod (Mod.refl (S := none') w) (fun _ _ f => f) hf, ?_⟩
  cases hg : σ.tg with
  | none => rw [hg] at h4; exact h4
  | some o => rw [hg] at h4; exact TagsR.mod h4 (Mod.refl (S := none') w) (fun _ _ f => f) hf

/-- a test: of the version, or whether the message is flexible -/
def Tst (P : Program) (Γ : Sl) (c : Code) (t : Nat) (p : Int → Bool → Bool) : Prop :=
  ∀ x s a w, Amb Γ x s a w → c.wp P (fun e a' w' => e = .normal ∧ w' = w ∧ Amb Γ x s a' w' ∧ Act.get a' t = .bool (p x.ver x.flex) ∧ SameBut (W c) a a') a w

section
variable {P : Program} {Γ : Sl} {σ : St} {f g : FT} {id id' : Nat} {ty : Ty} {rd rd' : Int → Bool → RS → Tr × RS} {p q : Int → Bool → Bool}
  {y1 y2 y3 y4 y5 y6 : TypeId} {p1 p2 p3 p4 p5 p6 : String} {e1 e2 e3 e4 e5 e6 : Array Edge} {ts : Array TypeId} {u t : Nat} {k : Int} {yg yh : TypeId}

theorem tst_geq (hs : (Γ.free u && Γ.free t) = true) :
    Tst P Γ (.region id #[⟨some u, .move (.tmp Γ.ver), y1, p1, e1, none⟩, ⟨some t, .binOp .geq yg (.tmp u) (.const (.int .i16 k)) yh, y2, p2, e2, none⟩] false) t (fun v _ => decide (k ≤ v)) := by
  intro x s a w hA
  simp only [Bool.and_eq_true] at hs
  refine wp_region_lit (wpl_val rfl x_move (wpl_val rfl (x_geq (k := .i16) (m := x.ver) (n := k) ?_ rfl) (wpList_nil ⟨rfl, rfl, (hA.put hs.1 _).put hs.2 _, ?_, ?_⟩)))
  · rw [eval_tmp, Act.get_put_eq (hA.lt hs.1), eval_tmp, hA.ver]
  · rw [Act.get_put_eq (by rw [Act.size_put]; exact hA.lt hs.2)]
  · exact ((SameBut.refl a).put (by simp [W, writes]) _).put (by simp [W, writes]) _
theorem tst_leq (hs : (Γ.free u && Γ.free t) = true) :
    Tst P Γ (.region id #[⟨some u, .move (.tmp Γ.ver), y1, p1, e1, none⟩, ⟨some t, .binOp .leq yg (.tmp u) (.const (.int .i16 k)) yh, y2, p2, e2, none⟩] false) t (fun v _ => decide (v ≤ k)) := by
  intro x s a w hA
  simp only [Bool.and_eq_true] at hs
  refine wp_region_lit (wpl_val rfl x_move (wpl_val rfl (x_leq (k := .i16) (m := x.ver) (n := k) ?_ rfl) (wpList_nil ⟨rfl, rfl, (hA.put hs.1 _).put hs.2 _, ?_, ?_⟩)))
  · rw [eval_tmp, Act.get_put_eq (hA.lt hs.1), eval_tmp, hA.ver]
  · rw [Act.get_put_eq (by rw [Act.size_put]; exact hA.lt hs.2)]
  · exact ((SameBut.refl a).put (by simp [W, writes]) _).put (by simp [W, writes]) _
theorem tst_lss (hs : (Γ.free u && Γ.free t) = true) :
    Tst P Γ (.region id #[⟨some u, .move (.tmp Γ.ver), y1, p1, e1, none⟩, ⟨some t, .binOp .lss yg (.tmp u) (.const (.int .i16 k)) yh, y2, p2, e2, none⟩] false) t (fun v _ => decide (v < k)) := by
  intro x s a w hA
  simp only [Bool.and_eq_true] at hs
  refine wp_region_lit (wpl_val rfl x_move (wpl_val rfl (x_lss (k := .i16) (m := x.ver) (n := k) ?_ rfl) (wpList_nil ⟨rfl, rfl, (hA.put hs.1 _).put hs.2 _, ?_, ?_⟩)))
  · rw [eval_tmp, Act.get_put_eq (hA.lt hs.1), eval_tmp, hA.ver]
  · rw [Act.get_put_eq (by rw [Act.size_put]; exact hA.lt hs.2)]
  · exact ((SameBut.refl a).put (by simp [W, writes]) _).put (by simp [W, writes]) _
theorem tst_flex {fl : Nat} (hf : Γ.flex = some fl) (hs : Γ.free t = true) :
    Tst P Γ (.region id #[⟨some t, .move (.tmp fl), y1, p1, e1, none⟩] false) t (fun _ f => f) := by
  intro x s a w hA
  refine wp_region_lit (wpl_val rfl x_move (wpList_nil ⟨rfl, rfl, hA.put hs _, ?_, ?_⟩))
  · rw [Act.get_put_eq (hA.lt hs), eval_tmp, hA.flex fl hf]
  · exact (SameBut.refl a).put (by simp [W, writes]) _

theorem blk_skip : Blk P Γ σ .skip idF := by
  intro x F blk off v s a w hA hp hC hS _
  exact wp_skip ⟨v, s, rfl, hA, hC, .refl a, .refl w⟩

def ifF (p : Int → Bool → Bool) (f g : FT) : FT := fun ver fl v s => if p ver fl then f ver fl v s else g ver fl v s

theorem blk_if {c0 c1 c2 : Code} (h0 : Tst P Γ c0 t p) (h1 : Blk P Γ σ c1 f) (h2 : Blk P Γ σ c2 g) (hs : (writes c0).contains σ.s = false) : Blk P Γ σ (.seq c0 (.cond (.tmp t) c1 c2)) (ifF p f g) := by
  intro x F blk off v s a w hA hp hC hS hns
  have hs' : ¬ σ.s ∈ writes c0 := by simpa using hs
  refine wp_seq (wp_mono (h0 x s a w hA) ?_)
  rintro e a1 w1 ⟨rfl, rfl, hA1, hb, hsb⟩
  have hp1 := (hsb.get _ hs').trans hp
  cases hpv : p x.ver x.flex with
  | true =>
    have e1 : ifF p f g x.ver x.flex v s = f x.ver x.flex v s := by simp [ifF, hpv]
    rw [e1] at hns ⊢
    refine wp_cond_true (by rw [eval_tmp, hb, hpv]) (wp_mono (h1 x F blk off v s a1 w1 hA1 hp1 hC hS hns) ?_)
    intro e a2 w2 h
    cases e with
    | normal =>
      obtain ⟨v2, s2, e2, hA2, hC2, hsb2, hst2⟩ := h
      exact ⟨v2, s2, e2, hA2, hC2, (hsb.mono fun t ht => by simp only [W, writes, List.mem_append] at *; exact .inl ht).trans (hsb2.mono fun t ht => by simp only [W, writes, List.mem_append] at *; exact .inr (.inl ht)), hst2⟩
    | ret => exact h
    | _ => exact h.elim
  | false =>
    have e1 : ifF p f g x.ver x.flex v s = g x.ver x.flex v s := by simp [ifF, hpv]
    rw [e1] at hns ⊢
    refine wp_cond_false (by rw [eval_tmp, hb, hpv]) (wp_mono (h2 x F blk off v s a1 w1 hA1 hp1 hC hS hns) ?_)
    intro e a2 w2 h
    cases e with
    | normal =>
      obtain ⟨v2, s2, e2, hA2, hC2, hsb2, hst2⟩ := h
      exact ⟨v2, s2, e2, hA2, hC2, (hsb.mono fun t ht => by simp only [W, writes, List.mem_append] at *; exact .inl ht).trans (hsb2.mono fun t ht => by simp only [W, writes, List.mem_append] at *; exact .inr (.inr ht)), hst2⟩
    | ret => exact h
    | _ => exact h.elim
theorem get_if {tv : Nat} {c0 c1 c2 : Code} (h0 : Tst P Γ c0 t p) (h1 : Get P Γ c1 tv ty rd) (h2 : Get P Γ c2 tv ty rd') :
    Get P Γ (.seq c0 (.cond (.tmp t) c1 c2)) tv ty (fun ver fl s => if p ver fl then rd ver fl s else rd' ver fl s) := by
  intro x s a w hA
  refine wp_seq (wp_mono (h0 x s a w hA) ?_)
  rintro e a1 w1 ⟨rfl, rfl, hA1, hb, hsb⟩
  cases hpv : p x.ver x.flex with
  | true =>
    refine wp_cond_true (by rw [eval_tmp, hb, hpv]) (wp_mono (h1 x s a1 w1 hA1) ?_)
    rintro e a2 w2 ⟨rfl, g1, g2, g3, g4⟩
    simp only [hpv, if_true]
    exact ⟨trivial, g1, g2, (hsb.mono fun t ht => by simp only [W, writes, List.mem_append] at *; exact .inl ht).trans (g3.mono fun t ht => by simp only [W, writes, List.mem_append] at *; exact .inr (.inl ht)), g4⟩
  | false =>
    refine wp_cond_false (by rw [eval_tmp, hb, hpv]) (wp_mono (h2 x s a1 w1 hA1) ?_)
    rintro e a2 w2 ⟨rfl, g1, g2, g3, g4⟩
    simp only [hpv, Bool.false_eq_true, if_false]
    exact ⟨trivial, g1, g2, (hsb.mono fun t ht => by simp only [W, writes, List.mem_append] at *; exact .inl ht).trans (g3.mono fun t ht => by simp only [W, writes, List.mem_append] at *; exact .inr (.inr ht)), g4⟩
/-- a reading behind the declaration of its slot -/
theorem get_decl {tv : Nat} {c : Code} {v0 : Value} (hg : Get P Γ c tv ty rd) (hs : Γ.free u = true) : Get P Γ (.seq (.region id #[⟨some u, .assign (.const v0), y1, p1, e1, none⟩] false) c) tv ty rd := by
  intro x s a w hA
  refine wp_seq (wp_region_lit (wpl_val rfl x_assign (wpList_nil (wp_mono (hg x s _ w (hA.put hs _)) ?_))))
  rintro e a2 w2 ⟨rfl, g1, g2, g3, g4⟩
  exact ⟨rfl, g1, g2, ((SameBut.refl a).put (by simp [W, writes]) _).trans (g3.mono fun t ht => by simp only [W, writes, List.mem_append] at *; exact .inr ht), g4⟩
end

section
variable {P : Program} {ρ : Operand → Value} {w : World} {d : Option Tmp} {ty : TypeId} {p : String} {af : Array Edge} {g : Option (Nat × Bool)}
theorem x_slice0 {x : Operand} {t e sz n cap : Nat} {ao : Option Addr} (hI : elemInfo P t e sz = true) (hρ : ∀ v, ρ (.const v) = v) (hx : ρ x = .slice ao n cap) :
    (execOp ρ ⟨d, .slice t x none (some (.const (.int .i64 0))) none, ty, p, af, g⟩).run P w = .ok (.value (.slice ao 0 cap)) w := by
  obtain ⟨hu, i, z, hi, hz, h2, h3, h4, h5, h6⟩ := elemInfo_spec hI
  have he : P.elem t = e := by simp [Program.elem, hu]
  have hu' : P.underlying t = some (.slice (P.elem t)) := by rw [he]; exact hu
  have h := run_slice_h (P := P) (w := w) t ao n cap hu' .i64 0 (Int.le_refl _) (by omega)
  have h0 : (Instr.sliceAt t (.slice ao n cap) none (some (.int .i64 0)) none).run P w = .ok (.slice ao 0 cap) w := by
    rw [run_sliceAt_slice _ t _ _ _ _ hu', h, he]
    cases ao <;> simp [sizeOf, typeInfo, hi, sliced, Addr.add]
  simp [execOp, hx, hρ, h0]
/-- so many new elements behind a slice without room -/
theorem x_zeros {x y : Operand} {t tn e sz n : Nat} {ao : Option Addr} {kq : IntKind} (hI : elemInfo P t e sz = true) (htn : ∃ kn, P.underlying tn = some (.int kn)) (hx : ρ x = .slice ao 0 0) (hy : ρ y = .int kq (n : Int)) (h0 : 0 < n) (hn : n ≤ 4294967296) :
    ∃ z : Value, zeroOf P e = some z ∧ z.cells.size = sz ∧ ∃ C : Array Value, C.size = grownCap w n 0 e * sz ∧ n ≤ grownCap w n 0 e ∧ grownCap w n 0 e ≤ maxLen ∧ (∀ i, i < n → ∀ j, j < sz → C[i * sz + j]? = z.cells[j]?) ∧
    (execOp ρ ⟨d, .call ⟨.builtin .append, #[x, y], #[t, tn]⟩, ty, p, af, g⟩).run P w = .ok (.value (.slice (some ⟨w.heap.size, 0, none⟩) n (grownCap w n 0 e))) (w.drew.alloc (.cells C e)) := by
  obtain ⟨hu, i, z, hi, hz, h2, h3, h4, h5, h6⟩ := elemInfo_spec hI
  obtain ⟨kn, htn⟩ := htn
  have hcap1 := grownCap_ge w n 0 e
  have hcap2 := grownCap_le_maxLen w n 0 e (by simp only [maxLen]; omega)
  have hz' : zeroOf P e = some z := by simp [zeroOf, hi, hz]
  have hzc : ∀ m, (Builtin.zeroCells z.cells m).size = m * sz := fun m => by simp [Builtin.zeroCells, h3]
  have hb : n * i.bytes ≤ 281474976710656 := Nat.le_trans (Nat.mul_le_mul hn h4) (by omega)
  have hns : Builtin.nextslicecap (0 + n) 0 = n := by simp [Builtin.nextslicecap, h0]
  have hr := Go.Lib.run_append_grow_zeros (P := P) w t tn ty e i z kq kn hu htn hi hz ao 0 0 [] (by rw [h2]; cases ao <;> simp [Builtin.firstCells, loadCells, loadCellsFrom]) n h0 (by omega) (by omega) (by omega) hb (by rw [hns]; exact hb)
  simp only [Nat.zero_add] at hr
  refine ⟨z, hz', h3, Builtin.zeroCells z.cells n ++ Builtin.zeroCells z.cells (grownCap w n 0 e - n), ?_, hcap1, hcap2, ?_, ?_⟩
  · rw [Array.size_append, hzc, hzc, ← Nat.add_mul]; congr 1; omega
  · intro i hi' j hj
    have hij : i * sz + j < n * sz := by have := Nat.mul_le_mul_right sz (show i + 1 ≤ n by omega); rw [Nat.add_mul] at this; omega
    rw [Array.getElem?_append_left (by rw [hzc]; exact hij)]
    have hm : (i * sz + j) % sz = j := by rw [Nat.mul_comm, Nat.mul_add_mod, Nat.mod_eq_of_lt hj]
    have hj2 : j < z.cells.size := by omega
    simp only [Builtin.zeroCells, h3, Array.getElem?_map, Array.getElem?_range, hij, if_true, Option.map_some, hm]
    rw [Array.getElem?_eq_getElem hj2, getElem!_pos z.cells j hj2]
  · simp [execOp, resolve, invoke, builtin, hx, hy, hr]
end
end Go.Proofs.YtadfbhmpehnkeaaDoor
