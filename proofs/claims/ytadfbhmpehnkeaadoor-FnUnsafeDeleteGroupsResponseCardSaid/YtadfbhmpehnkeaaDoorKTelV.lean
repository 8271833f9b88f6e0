/-
  Texts that may be none, yes or no, octets: what is told of them.
-/
import Derived.Test.YtadfbhmpehnkeaaDoorKTelT
set_option linter.unusedSimpArgs false
set_option linter.unusedVariables false
namespace Go.Proofs.YtadfbhmpehnkeaaDoor
open Go Go.RowKit

def isPtr (P : Program) (t : TypeId) : Bool := match P.underlying t with
  | some (.pointer _) => true
  | _ => false
def isSlice (P : Program) (t : TypeId) : Bool := match P.underlying t with
  | some (.slice _) => true
  | _ => false
section
variable {P : Program} {ρ : Operand → Value} {w : World} {d : Option Tmp} {ty : TypeId} {p : String} {af : Array Edge} {g : Option (Nat × Bool)}
theorem x_eqlPtr {x : Operand} {t u : TypeId} {m : Option Addr} (ht : isPtr P t = true) (hρ : ∀ v, ρ (.const v) = v) (hx : ρ x = .pointer m) : (execOp ρ ⟨d, .binOp .eql t x (.const (.pointer none)) u, ty, p, af, g⟩).run P w = .ok (.value (.bool m.isNone)) w := by
  obtain ⟨e, hu⟩ : ∃ e, P.underlying t = some (.pointer e) := by
    unfold isPtr at ht
    cases hu : P.underlying t with
    | none => simp [hu] at ht
    | some ds => cases ds <;> simp_all
  have he : (Op.equal t (.pointer m) (.pointer none)).run P w = .ok m.isNone w := by
    show (Op.equalIn (9999 + 1) t (.pointer m) (.pointer none)).run P w = _
    rw [Op.equalIn]
    simp only [Sem.run_bind, run_underlying hu, Result.andThen_ok]
    cases m <;> rfl
  simp [execOp, hx, hρ, eqGuard, binOp, he]
theorem x_eqlSlice {x : Operand} {t u : TypeId} {m : Option Addr} {n c : Nat} (ht : isSlice P t = true) (hρ : ∀ v, ρ (.const v) = v) (hx : ρ x = .slice m n c) : (execOp ρ ⟨d, .binOp .eql t x (.const (.slice none 0 0)) u, ty, p, af, g⟩).run P w = .ok (.value (.bool m.isNone)) w := by
  obtain ⟨e, hu⟩ : ∃ e, P.underlying t = some (.slice e) := by
    unfold isSlice at ht
    cases hu : P.underlying t with
    | none => simp [hu] at ht
    | some ds => cases ds <;> simp_all
  have he : (Op.equal t (.slice m n c) (.slice none 0 0)).run P w = .ok m.isNone w := by
    show (Op.equalIn (9999 + 1) t (.slice m n c) (.slice none 0 0)).run P w = _
    rw [Op.equalIn]
    simp only [Sem.run_bind, run_underlying hu, Result.andThen_ok]
    cases m <;> rfl
  simp [execOp, hx, hρ, eqGuard, binOp, he]
end

theorem tellT : TellT Tryd.prog 27 24 where
  ord := rfl
  f3 := by kernel_rfl
  one := by kernel_rfl
  elem := by kernel_rfl
  size := by kernel_rfl
  many := by kernel_rfl
  zero := by kernel_rfl
  parts := by kernel_rfl
theorem tagT : TagT Tryd.prog 27 25 51 22 5 where
  f4 := by kernel_rfl
  one := by kernel_rfl
  put := by kernel_rfl
  elem := by kernel_rfl
  oct := by kernel_rfl
  parts := by kernel_rfl
  ord := rfl

/-- what is told of a field of some kind by a function of its own -/
def LeafC (P : Program) (f : FuncId) (ty : Ty) : Prop := ∀ w F c t, Rep w F ty c t → Calls P f #[c 0] w fun e w' => ∃ r, e = .returned r ∧ Mod none' w w' ∧ TreeV w' (From w) r t

theorem put_tree {w : World} {rb : Nat} {z cs : Array Value} {Tz : Nat} (hr : w.heap[rb]? = some (.cells z Tz (0, 0))) (hz : z.size = cs.size) : (w.setCells rb 0 cs.toList).heap[rb]? = some (.cells cs Tz (0, 0)) := by
  obtain ⟨C3, k1, k2, k3, k4⟩ := heap_setCells (w := w) cs.toList 0 _ hr
  have hC3 : C3 = cs := by
    apply Array.ext
    · omega
    · intro i h1 h2
      have := k3 i (by simpa using h2) (by omega)
      rw [Nat.zero_add, Array.getElem?_eq_getElem h1] at this
      simpa [h2] using this
  rw [k1, hC3]

/-- a tree is put into the answer's place, and handed over -/
theorem leaf_ret {P : Program} {fn : Func} {TI TL d : Nat} {cs z : Array Value} {Tz rb : Nat} {w0 w : World} {a : Act} {t : Tr} {ops : Array Oper} {Q : Exit → Act → World → Prop} {R : Ending → World → Prop} {y : TypeId} {p : String} {e : Array Edge} (hres : fn.results = #[.cell 2 TI]) (hT : TellT P TI TL)
    (h2 : Act.get a 2 = .pointer (some ⟨rb, 0, none⟩)) (hd : Act.get a d = .agg cs) (hc5 : cs.size = 5) (hall : cs.all (·.oneCell') = true) (hr : w.heap[rb]? = some (.cells z Tz (0, 0))) (hz : z.size = 5) (hm : Mod none' w0 w) (hrb : w0.heap.size ≤ rb)
    (ht : TreeR w (fun k => w0.heap.size ≤ k ∧ k ≠ rb) (from' cs 0) t) (ad : a.defers = []) (hQ : ∀ a w, (bodyPost P fn R .ret a w) → Q .normal a w)
    (hR : ∀ r w', (∃ r', Ending.returned r = Ending.returned r' ∧ Mod none' w0 w' ∧ TreeV w' (From w0) r' t) → R (Ending.returned r) w') :
    wpList P ops Q [⟨none, .store TI (.tmp 2) (.tmp d), y, p, e, none⟩] a w := by
  refine wpl_skip rfl (x_storeN (cs := cs) (b := rb) (o := 0) (by rw [hc5]; exact hT.size) (by rw [eval_tmp]; exact h2) (by rw [eval_tmp]; exact hd) hall ?_) (wpList_nil (hQ _ _ ?_))
  · intro j hj
    rw [cell_of_heap hr, frozen_of_heap hr, Array.getElem?_eq_getElem (by omega)]
    exact ⟨rfl, rfl⟩
  have k1 := put_tree (cs := cs) hr (by omega)
  have hm2 := mod_setCells rb w 0 cs.toList
  refine bodyPost_ret (results_cellN hres (cs := cs.toList) h2 (by rw [Array.length_toList, hc5]; exact hT.many) (fun j v hv => by rw [cell_of_heap k1, Nat.zero_add]; simpa using hv)) ((Act.defers_put _ _ _).trans ad) (hR _ _ ⟨_, rfl, hm.trans' hm2 (fun _ _ f => f) (fun j hj e => by have e' : j = rb := e; omega), cs, by simp, hc5, hall, ht.mod hm2 (fun k hk e => hk.2 e) (fun k hk => hk.1)⟩)

theorem leaf_bool {TL : Nat} (hT : TellT Tryd.prog 27 TL) : LeafC Tryd.prog 128 .bool := by
  intro w F c t hrep
  simp only [Rep] at hrep
  refine calls_of_wp Tryd.func128 rfl ?_
  rw [Tryd.ntmps128]
  refine wp_act (fun a : Act => Act.get a 0 = c 0 ∧ a.tmps.size = 6 ∧ a.defers = []) ⟨by rw [get_nil_args _ _ _ (by simp)]; rfl, by simp, rfl⟩ ?_
  rintro a ⟨a0, aN, ad⟩
  obtain ⟨rb, hrb⟩ : ∃ rb, rb = w.heap.size := ⟨_, rfl⟩
  refine wp_seq (wp_region_lit (wpl_val rfl (x_alloc hT.zero) (wpList_nil ?_)))
  have r1 := heap_alloc_new w (.cells (Value.agg #[.int .i64 0, .slice none 0 0, .bool false, .slice none 0 0, .slice none 0 0]).cells 27)
  have m1 : Mod none' w (w.alloc (.cells (Value.agg #[.int .i64 0, .slice none 0 0, .bool false, .slice none 0 0, .slice none 0 0]).cells 27)) := (Mod.refl w).alloc _
  have s1 : (w.alloc (.cells (Value.agg #[.int .i64 0, .slice none 0 0, .bool false, .slice none 0 0, .slice none 0 0]).cells 27)).heap.size = w.heap.size + 1 := by simp
  generalize w.alloc (.cells (Value.agg #[.int .i64 0, .slice none 0 0, .bool false, .slice none 0 0, .slice none 0 0]).cells 27) = w1 at *
  rw [← hrb] at r1 s1 ⊢
  replace r1 : w1.heap[rb]? = some (.cells #[.int .i64 0, .slice none 0 0, .bool false, .slice none 0 0, .slice none 0 0] 27 (0, 0)) := r1
  obtain ⟨b, hb, rfl⟩ := hrep
  refine wp_seq (wp_seq (wp_region_lit (wpl_val rfl x_move (wpList_nil ?_))))
  cases b with
  | true =>
    refine wp_cond_true ?_ (wp_seq (wp_region_lit (wpl_val rfl (x_build (cells := #[.int .i64 1, .slice none 0 0, .bool false, .slice none 0 0, .slice none 0 0]) ?_) ?_)))
    · simp (disch := (first | omega | (simp only [Act.size_put]; omega))) only [Act.put_none, eval_tmp, Act.get_put_ne, Act.get_put_eq, a0, hb]
    · simp only [List.map_toArray, List.map_cons, List.map_nil]
      rw [built_of hT.parts]
      rfl
    refine leaf_ret (rb := rb) (w0 := w) (t := .ofBool true) ?_ hT ?_ (Act.get_put_eq (by simp only [Act.size_put]; omega)) rfl (by simp [Value.oneCell']) r1 rfl m1 (by omega) (tree_num rfl (by simp [fits, IntKind.min, IntKind.max, IntKind.signed, IntKind.bits]) rfl rfl rfl rfl) ?_ (fun _ _ h => wp_ret (by first | exact h | (simp only [Exit.then]; exact h))) (fun r w' h => h)
    · rfl
    · simp (disch := (first | omega | (simp only [Act.size_put]; omega))) only [Act.put_none, eval_tmp, Act.get_put_ne, Act.get_put_eq]
    · simp only [Act.defers_put]; exact ad
  | false =>
    refine wp_cond_false ?_ (wp_skip ?_)
    · simp (disch := (first | omega | (simp only [Act.size_put]; omega))) only [Act.put_none, eval_tmp, Act.get_put_ne, Act.get_put_eq, a0, hb]
    refine wp_seq (wp_region_lit (wpl_val rfl (x_build (cells := #[.int .i64 0, .slice none 0 0, .bool false, .slice none 0 0, .slice none 0 0]) ?_) ?_))
    · simp only [List.map_toArray, List.map_nil]
      rw [built_of hT.parts]
      rfl
    refine leaf_ret (rb := rb) (w0 := w) (t := .ofBool false) ?_ hT ?_ (Act.get_put_eq (by simp only [Act.size_put]; omega)) rfl (by simp [Value.oneCell']) r1 rfl m1 (by omega) (tree_num rfl (by simp [fits, IntKind.min, IntKind.max, IntKind.signed, IntKind.bits]) rfl rfl rfl rfl) ?_ (fun _ _ h => wp_ret (by first | exact h | (simp only [Exit.then]; exact h))) (fun r w' h => h)
    · rfl
    · simp (disch := (first | omega | (simp only [Act.size_put]; omega))) only [Act.put_none, eval_tmp, Act.get_put_ne, Act.get_put_eq]
    · simp only [Act.defers_put]; exact ad

theorem leaf_text {TL : Nat} (hT : TellT Tryd.prog 27 TL) : LeafC Tryd.prog 136 .pstr := by
  intro w F c t hrep
  simp only [Rep] at hrep
  refine calls_of_wp Tryd.func136 rfl ?_
  rw [Tryd.ntmps136]
  refine wp_act (fun a : Act => Act.get a 0 = c 0 ∧ a.tmps.size = 11 ∧ a.defers = []) ⟨by rw [get_nil_args _ _ _ (by simp)]; rfl, by simp, rfl⟩ ?_
  rintro a ⟨a0, aN, ad⟩
  obtain ⟨rb, hrb⟩ : ∃ rb, rb = w.heap.size := ⟨_, rfl⟩
  refine wp_seq (wp_region_lit (wpl_val rfl (x_alloc hT.zero) (wpList_nil ?_)))
  have r1 := heap_alloc_new w (.cells (Value.agg #[.int .i64 0, .slice none 0 0, .bool false, .slice none 0 0, .slice none 0 0]).cells 27)
  have m1 : Mod none' w (w.alloc (.cells (Value.agg #[.int .i64 0, .slice none 0 0, .bool false, .slice none 0 0, .slice none 0 0]).cells 27)) := (Mod.refl w).alloc _
  have s1 : (w.alloc (.cells (Value.agg #[.int .i64 0, .slice none 0 0, .bool false, .slice none 0 0, .slice none 0 0]).cells 27)).heap.size = w.heap.size + 1 := by simp
  generalize w.alloc (.cells (Value.agg #[.int .i64 0, .slice none 0 0, .bool false, .slice none 0 0, .slice none 0 0]).cells 27) = w1 at *
  rw [← hrb] at r1 s1 ⊢
  replace r1 : w1.heap[rb]? = some (.cells #[.int .i64 0, .slice none 0 0, .bool false, .slice none 0 0, .slice none 0 0] 27 (0, 0)) := r1
  obtain ⟨o, ho, hbl, rfl⟩ := hrep
  cases o with
  | none =>
    have hc : c 0 = .pointer none := ho
    refine wp_seq (wp_seq (wp_region_lit (wpl_val rfl x_move (wpl_val rfl (x_eqlPtr (m := none) (by kernel_rfl) (fun _ => rfl) ?_) (wpList_nil ?_)))))
    · simp (disch := (first | omega | (simp only [Act.size_put]; omega))) only [Act.put_none, eval_tmp, Act.get_put_ne, Act.get_put_eq, a0, hc]
    refine wp_cond_true ?_ (wp_seq (wp_region_lit (wpl_val rfl (x_build (cells := #[.int .i64 0, .slice none 0 0, .bool true, .slice none 0 0, .slice none 0 0]) ?_) ?_)))
    · simp (disch := (first | omega | (simp only [Act.size_put]; omega))) only [Act.put_none, eval_tmp, Act.get_put_ne, Act.get_put_eq]
      rfl
    · simp only [List.map_toArray, List.map_cons, List.map_nil]
      rw [built_of hT.parts]
      rfl
    refine leaf_ret (rb := rb) (w0 := w) (t := .nul) ?_ hT ?_ (Act.get_put_eq (by simp only [Act.size_put]; omega)) rfl (by simp [Value.oneCell']) r1 rfl m1 (by omega) (tree_octs rfl oct_nil rfl rfl rfl) ?_ (fun _ _ h => wp_ret (by first | exact h | (simp only [Exit.then]; exact h))) (fun r w' h => h)
    · rfl
    · simp (disch := (first | omega | (simp only [Act.size_put]; omega))) only [Act.put_none, eval_tmp, Act.get_put_ne, Act.get_put_eq]
    · simp only [Act.defers_put]; exact ad
  | some bs =>
    obtain ⟨k, tk, hF, hc, hk⟩ := ho
    have hb := hbl bs rfl
    refine wp_seq (wp_seq (wp_region_lit (wpl_val rfl x_move (wpl_val rfl (x_eqlPtr (m := some ⟨k, 0, none⟩) (by kernel_rfl) (fun _ => rfl) ?_) (wpList_nil ?_)))))
    · simp (disch := (first | omega | (simp only [Act.size_put]; omega))) only [Act.put_none, eval_tmp, Act.get_put_ne, Act.get_put_eq, a0, hc]
    refine wp_cond_false ?_ (wp_skip ?_)
    · simp (disch := (first | omega | (simp only [Act.size_put]; omega))) only [Act.put_none, eval_tmp, Act.get_put_ne, Act.get_put_eq]
      rfl
    have hk1 := m1.some hk (fun f => f)
    refine wp_seq (wp_region_lit (wpl_val rfl x_move (wpl_val rfl (x_nilCheck (q := ⟨k, 0, none⟩) ?_) (wpl_val rfl (x_load1 (b := k) (o := 0) (v := .string (str bs)) (by kernel_rfl) ?_ ?_) (wpl_val rfl (x_strBytes (e := 5) (s := str bs) (by kernel_rfl) ?_) (wpl_val rfl (x_build (cells := #[.int .i64 0, .slice (some ⟨w1.heap.size, 0, none⟩) (str bs).size (grownCap w1 (str bs).size 0 5), .bool false, .slice none 0 0, .slice none 0 0]) ?_) ?_))))))
    · simp (disch := (first | omega | (simp only [Act.size_put]; omega))) only [Act.put_none, eval_tmp, Act.get_put_ne, Act.get_put_eq, a0, hc]
    · simp (disch := (first | omega | (simp only [Act.size_put]; omega))) only [Act.put_none, eval_tmp, Act.get_put_ne, Act.get_put_eq]
    · rw [cell_of_heap hk1]; rfl
    · simp (disch := (first | omega | (simp only [Act.size_put]; omega))) only [Act.put_none, eval_tmp, Act.get_put_ne, Act.get_put_eq]
    · simp only [List.map_toArray, List.map_cons, List.map_nil]
      rw [built_of hT.parts]
      rw [eval_tmp, Act.get_put_eq (by simp only [Act.size_put]; omega)]
      rfl
    have ho := bytes_oct (w := w1) (F := fun k => w.heap.size ≤ k ∧ k ≠ rb) (bs := bs) (e := 5) hb ⟨by omega, by omega⟩
    have m2 : Mod none' w1 (w1.drew.alloc (.cells (bytesRow (str bs) (grownCap w1 (str bs).size 0 5)) 5 ((bytesRow (str bs) (grownCap w1 (str bs).size 0 5)).size, (bytesRow (str bs) (grownCap w1 (str bs).size 0 5)).size + 1))) := ((Mod.refl w1).drew).alloc _
    refine leaf_ret (rb := rb) (w0 := w) (t := .oct bs) ?_ hT ?_ (Act.get_put_eq (by simp only [Act.size_put]; omega)) rfl (by simp [Value.oneCell']) (m2.some r1 (fun f => f)) rfl (m1.trans m2) (by omega) (tree_octs rfl ho rfl rfl rfl) ?_ (fun _ _ h => wp_ret (by first | exact h | (simp only [Exit.then]; exact h))) (fun r w' h => h)
    · rfl
    · simp (disch := (first | omega | (simp only [Act.size_put]; omega))) only [Act.put_none, eval_tmp, Act.get_put_ne, Act.get_put_eq]
    · simp only [Act.defers_put]; exact ad

end Go.Proofs.YtadfbhmpehnkeaaDoor
