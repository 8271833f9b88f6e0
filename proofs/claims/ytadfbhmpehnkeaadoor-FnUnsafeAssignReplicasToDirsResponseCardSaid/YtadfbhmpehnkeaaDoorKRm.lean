/-
  Rules for the code that reads a list. No program in it.
-/
import Derived.Test.YtadfbhmpehnkeaaDoorKRl
set_option linter.unusedSimpArgs false
set_option linter.unusedVariables false
namespace Go.Proofs.YtadfbhmpehnkeaaDoor
open Go Go.RowKit

/-- reading so many elements -/
def elemsR (ef : RS → R Tr) : Nat → RS → R (List Tr)
  | 0, s => .ok [] s
  | n + 1, s => (ef s).then fun t s => (elemsR ef n s).then fun ts s => .ok (t :: ts) s
abbrev EF := Int → Bool → RS → R Tr

/-- a row of so many cells each, some of whose elements have been read -/
structure Row (w : World) (F : Nat → Prop) (k cap sz : Nat) (ety : Ty) (z : Nat → Value) (n : Nat) (ts : List Tr) : Prop where
  len : ts.length ≤ n
  room : n ≤ cap
  mem : ∃ C t, w.heap[k]? = some (.cells C t (0, 0)) ∧ C.size = cap * sz ∧ (∀ i (h : i < ts.length), Rep w F ety (from' C (i * sz)) ts[i]) ∧ ∀ i, ts.length ≤ i → i < n → ∀ j, j < sz → C[i * sz + j]? = some (z j)

theorem Row.mod {w w' : World} {F S : Nat → Prop} {k cap sz n : Nat} {ety : Ty} {z : Nat → Value} {ts : List Tr} (h : Row w F k cap sz ety z n ts) (hm : Mod S w w') (hk : ¬ S k) (hs : ∀ b, F b → ¬ S b) : Row w' F k cap sz ety z n ts := by
  obtain ⟨C, t, h1, h2, h3, h4⟩ := h.mem
  exact ⟨h.len, h.room, C, t, hm.some h1 hk, h2, fun i hi => Rep.mod hm hs (fun _ h => h) _ _ _ (h3 i hi), h4⟩

theorem Row.step {w w' : World} {F S : Nat → Prop} {k cap sz n : Nat} {ety : Ty} {z : Nat → Value} {ts : List Tr} {t : Tr} (h : Row w F k cap sz ety z n ts) (hlt : ts.length < n) (hok : ety.ok = true) (hsz : ety.size = sz) (hm : Mod S w w') (hS : ∀ b, F b → ¬ S b)
    (hout : ∀ C tc, w.heap[k]? = some (.cells C tc (0, 0)) → ∃ C', w'.heap[k]? = some (.cells C' tc (0, 0)) ∧ C'.size = C.size ∧ (∀ j, j < ts.length * sz ∨ ts.length * sz + sz ≤ j → C'[j]? = C[j]?) ∧ Rep w' F ety (from' C' (ts.length * sz)) t) :
    Row w' F k cap sz ety z n (ts ++ [t]) := by
  obtain ⟨C, tc, h1, h2, h3, h4⟩ := h.mem
  obtain ⟨C', g1, g2, g3, g4⟩ := hout C tc h1
  refine ⟨by simp; omega, h.room, C', tc, g1, g2.trans h2, fun i hi => ?_, fun i hi1 hi2 j hj => ?_⟩
  · by_cases hil : i < ts.length
    · rw [List.getElem_append_left hil]
      refine Rep.congr ety _ _ _ hok (fun j hj => ?_) (Rep.mod hm hS (fun _ h => h) _ _ _ (h3 i hil))
      rw [hsz] at hj
      have := Nat.mul_le_mul_right sz (show i + 1 ≤ ts.length by omega)
      rw [Nat.add_mul] at this
      simp only [from', Array.getD_eq_getD_getElem?]
      rw [g3 _ (.inl (by omega))]
    · have : i = ts.length := by simp at hi; omega
      subst this
      simpa using g4
  · simp at hi1
    have := Nat.mul_le_mul_right sz (show ts.length + 1 ≤ i by omega)
    rw [Nat.add_mul] at this
    rw [g3 _ (.inr (by omega))]
    exact h4 i (by omega) hi2 j hj

/-- code that reads an element of the slice in slot sa, whose number is in slot si -/
def ElemC (P : Program) (Γ : Sl) (c : Code) (sa si : Nat) (ety : Ty) (sz : Nat) (z : Nat → Value) (ef : EF) : Prop :=
  ∀ x F k cap n ts s a w, Amb Γ x s a w → Act.get a sa = .slice (some ⟨k, 0, none⟩) n cap → Act.get a si = .int .i32 (ts.length : Nat) → ts.length < n → Row w F k cap sz ety z n ts → Sep x F k w → ef x.ver x.flex s ≠ .stuck →
    c.wp P (fun e a' w' => match e with
      | .normal => ∃ t s', ef x.ver x.flex s = .ok t s' ∧ Amb Γ x s' a' w' ∧ Row w' F k cap sz ety z n (ts ++ [t]) ∧ SameBut (W c) a a' ∧ Mod (fun b => b = x.rb ∨ b = k) w w'
      | .ret => ef x.ver x.flex s = .early ∧ Act.get a' Γ.res = x.ev ∧ a'.defers = [] ∧ Mod (fun b => b = x.rb ∨ b = k) w w'
      | _ => False) a w

/-- 'if !b.Ok() { return b.Complete() }' -/
def OkC (P : Program) (Γ : Sl) (c : Code) : Prop := ∀ x s a w, Amb Γ x s a w → c.wp P (fun e a' w' => match e with
  | .normal => s.bad = false ∧ w' = w ∧ Amb Γ x s a' w' ∧ SameBut (W c) a a'
  | .ret => s.bad = true ∧ w' = w ∧ Act.get a' Γ.res = x.ev ∧ a'.defers = []
  | _ => False) a w
/-- 'a = a[:0]' -/
def CutC (P : Program) (Γ : Sl) (c : Code) (sa : Nat) : Prop := ∀ x s a w ao n cap, Amb Γ x s a w → Act.get a sa = .slice ao n cap →
  c.wp P (fun e a' w' => e = .normal ∧ w' = w ∧ Amb Γ x s a' w' ∧ Act.get a' sa = .slice ao 0 cap ∧ SameBut (W c) a a') a w
/-- 'if l > 0 { a = append(a, make([]T, l)...) }' -/
def GrowC (P : Program) (Γ : Sl) (c : Code) (sa sl sz : Nat) (z : Nat → Value) : Prop := ∀ x s a w ao n, Amb Γ x s a w → Act.get a sa = .slice ao 0 0 → Act.get a sl = .int .i32 n → n ≤ 2147483647 →
  c.wp P (fun e a' w' => e = .normal ∧ Amb Γ x s a' w' ∧ SameBut (W c) a a' ∧ Mod none' w w' ∧
    ((n ≤ 0 ∧ w' = w ∧ Act.get a' sa = .slice ao 0 0) ∨ (0 < n ∧ ∃ cap, Act.get a' sa = .slice (some ⟨w.heap.size, 0, none⟩) n.toNat cap ∧ n.toNat ≤ cap ∧ cap ≤ maxLen ∧
      ∃ C t, w'.heap[w.heap.size]? = some (.cells C t (0, 0)) ∧ C.size = cap * sz ∧ ∀ i, i < n.toNat → ∀ j, j < sz → C[i * sz + j]? = some (z j)))) a w
/-- the elements, one by one -/
def LoopC (P : Program) (Γ : Sl) (c : Code) (sa sl : Nat) (ety : Ty) (sz : Nat) (z : Nat → Value) (ef : EF) : Prop :=
  ∀ x F k cap (n : Int) s a w (_ : Unit), Amb Γ x s a w → Act.get a sl = .int .i32 n → n ≤ 2147483647 → (0 < n → Act.get a sa = .slice (some ⟨k, 0, none⟩) n.toNat cap ∧ Row w F k cap sz ety z n.toNat []) → (0 < n → Sep x F k w) →
    elemsR (ef x.ver x.flex) n.toNat s ≠ .stuck →
    c.wp P (fun e a' w' => match e with
      | .normal => ∃ ts s', elemsR (ef x.ver x.flex) n.toNat s = .ok ts s' ∧ Amb Γ x s' a' w' ∧ (0 < n → Row w' F k cap sz ety z n.toNat ts ∧ ts.length = n.toNat) ∧ SameBut (W c) a a' ∧ Mod (fun b => b = x.rb ∨ (0 < n ∧ b = k)) w w'
      | .ret => elemsR (ef x.ver x.flex) n.toNat s = .early ∧ Act.get a' Γ.res = x.ev ∧ a'.defers = [] ∧ Mod (fun b => b = x.rb ∨ (0 < n ∧ b = k)) w w'
      | _ => False) a w

section
variable {P : Program} {Γ : Sl} {σ : St} {f g : FT} {id id' id2 id3 : Nat} {ty ety : Ty} {rd rd' : Int → Bool → RS → Tr × RS} {sa sl si sz b0 b1 : Nat} {z : Nat → Value} {ef : EF}
  {y1 y2 y3 y4 y5 y6 y7 y8 y9 : TypeId} {p1 p2 p3 p4 p5 p6 p7 p8 p9 : String} {e1 e2 e3 e4 e5 e6 e7 e8 e9 : Array Edge} {ts ts1 ts2 : Array TypeId} {t1 t2 t3 t4 t5 t6 : Nat} {yg yh ym yn : TypeId}

theorem ok_rule {fok fc : Nat} (h1 : ∀ {w : World} {rb sb : Nat} {s : RS}, Rd w rb sb s → Calls P fok #[.pointer (some ⟨rb, 0, none⟩)] w fun e w' => e = .returned (.bool (!s.bad)) ∧ w = w')
    (h2 : ∀ {w : World} {rb sb : Nat} {s : RS} {ev : Value}, ErrIs w ev → Rd w rb sb s → Calls P fc #[.pointer (some ⟨rb, 0, none⟩)] w fun e w' => e = .returned (endErr ev s.bad) ∧ w = w') (hb1 : bodied P fok = true) (hb2 : bodied P fc = true)
    (hs : (Γ.free t1 && Γ.free t2 && Γ.free t3 && Γ.free Γ.res) = true) :
    OkC P Γ (.seq (.region id #[⟨some t1, .call ⟨.value (.func fok), #[.tmp Γ.b], ts1⟩, y1, p1, e1, none⟩, ⟨some t2, .unOp .not yg (.tmp t1), y2, p2, e2, none⟩] false)
      (.cond (.tmp t2) (.seq (.region id2 #[⟨some t3, .call ⟨.value (.func fc), #[.tmp Γ.b], ts2⟩, y3, p3, e3, none⟩, ⟨some Γ.res, .assign (.tmp t3), y4, p4, e4, none⟩] false) .ret) .skip)) := by
  intro x s a w hA
  simp only [Bool.and_eq_true] at hs
  obtain ⟨⟨⟨s1, s2⟩, s3⟩, s4⟩ := hs
  have e0 : ∀ a : Act, Act.get a Γ.b = .pointer (some ⟨x.rb, 0, none⟩) → (#[Operand.tmp Γ.b] : Array Operand).map a.eval = #[.pointer (some ⟨x.rb, 0, none⟩)] := fun a h => by simp [eval_tmp, h]
  refine wp_seq (wp_region_lit (wpl_call rfl (x_callf hb1 rfl) (by rw [e0 _ hA.b]; exact h1 hA.rd) ?_))
  rintro e w' ⟨rfl, rfl⟩
  have hA1 := hA.put s1 (.bool (!s.bad))
  refine ⟨_, rfl, wpl_val rfl (x_notV (b := !s.bad) (c := s.bad) (by rw [eval_tmp, Act.get_put_eq (hA.lt s1)]) (by simp)) (wpList_nil ?_)⟩
  have hA2 := hA1.put s2 (.bool s.bad)
  have hv : Act.eval ((a.put (some t1) (.bool (!s.bad))).put (some t2) (.bool s.bad)) (.tmp t2) = .bool s.bad := by rw [eval_tmp, Act.get_put_eq (by rw [Act.size_put]; exact hA.lt s2)]
  cases hbad : s.bad with
  | true =>
    rw [hbad] at hv hA2
    refine wp_cond_true hv (wp_seq (wp_region_lit (wpl_call rfl (x_callf hb2 rfl) (by rw [e0 _ hA2.b]; exact h2 hA2.err hA2.rd) ?_)))
    rintro e w' ⟨rfl, rfl⟩
    refine ⟨_, rfl, wpl_val rfl x_assign (wpList_nil (wp_ret ⟨rfl, rfl, ?_, ?_⟩))⟩
    · rw [Act.get_put_eq (by simp only [Act.size_put]; exact hA.lt s4), eval_tmp, Act.get_put_eq (by simp only [Act.size_put]; exact hA.lt s3), hbad]
      rfl
    · simp only [Act.defers_put]; exact hA.defers
  | false =>
    rw [hbad] at hv hA2
    refine wp_cond_false hv (wp_skip ⟨rfl, rfl, hA2, ?_⟩)
    exact ((SameBut.refl a).put (by simp [W, writes]) _).put (by simp [W, writes]) _

theorem cut_rule {LT e : Nat} (hI : elemInfo P LT e sz = true) (hs : (Γ.free t1 && Γ.free t2 && Γ.free sa) = true) :
    CutC P Γ (.region id #[⟨some t1, .move (.tmp sa), y1, p1, e1, none⟩, ⟨some t2, .slice LT (.tmp t1) none (some (.const (.int .i64 0))) none, y2, p2, e2, none⟩, ⟨some sa, .assign (.tmp t2), y3, p3, e3, none⟩] false) sa := by
  intro x s a w ao n cap hA hv
  simp only [Bool.and_eq_true] at hs
  obtain ⟨⟨s1, s2⟩, s3⟩ := hs
  refine wp_region_lit (wpl_val rfl x_move (wpl_val rfl (x_slice0 (n := n) (cap := cap) (ao := ao) hI (fun _ => rfl) ?_) (wpl_val rfl x_assign (wpList_nil ⟨rfl, rfl, ?_, ?_, ?_⟩))))
  · rw [eval_tmp, Act.get_put_eq (hA.lt s1), eval_tmp, hv]
  · exact ((hA.put s1 _).put s2 _).put s3 _
  · rw [Act.get_put_eq (by simp only [Act.size_put]; exact hA.lt s3), eval_tmp, Act.get_put_eq (by simp only [Act.size_put]; exact hA.lt s2)]
  · exact (((SameBut.refl a).put (by simp [W, writes]) _).put (by simp [W, writes]) _).put (by simp [W, writes]) _

theorem grow_rule {LT IT e : Nat} {zs : Array Value} (hI : elemInfo P LT e sz = true) (hIT : P.underlying IT = some (.int .i32)) (hz : (zeroOf P e).map (·.cells) = some zs)
    (hs : (Γ.free t1 && Γ.free t2 && Γ.free t3 && Γ.free t4 && Γ.free t5 && Γ.free sa && t3 != t4 && t1 != sa && t1 != sl && t2 != sa && t2 != sl && t3 != sl) = true) :
    GrowC P Γ (.seq (.region id #[⟨some t1, .move (.tmp sl), y1, p1, e1, none⟩, ⟨some t2, .binOp .gtr yg (.tmp t1) (.const (.int .i32 0)) yh, y2, p2, e2, none⟩] false)
      (.cond (.tmp t2) (.region id2 #[⟨some t3, .move (.tmp sa), y3, p3, e3, none⟩, ⟨some t4, .move (.tmp sl), y4, p4, e4, none⟩, ⟨some t5, .call ⟨.builtin .append, #[.tmp t3, .tmp t4], #[LT, IT]⟩, y5, p5, e5, none⟩, ⟨some sa, .assign (.tmp t5), y6, p6, e6, none⟩] false) .skip)) sa sl sz (from' zs 0) := by
  intro x s a w ao n hA hva hvl hn
  simp only [Bool.and_eq_true, bne_iff_ne] at hs
  obtain ⟨⟨⟨⟨⟨⟨⟨⟨⟨⟨⟨s1, s2⟩, s3⟩, s4⟩, s5⟩, s6⟩, n34⟩, n1a⟩, n1l⟩, n2a⟩, n2l⟩, n3l⟩ := hs
  have l1 := hA.lt s1
  have l2 := hA.lt s2
  have l3 := hA.lt s3
  have l4 := hA.lt s4
  have l5 := hA.lt s5
  have l6 := hA.lt s6
  refine wp_seq (wp_region_lit (wpl_val rfl x_move (wpl_val rfl (x_gtr (k := .i32) (m := n) (n := 0) ?_ rfl) (wpList_nil ?_))))
  · rw [eval_tmp, Act.get_put_eq l1, eval_tmp, hvl]
  have hA2 := (hA.put s1 (a.eval (.tmp sl))).put s2 (.bool (decide (0 < n)))
  have hv : Act.eval ((a.put (some t1) (a.eval (.tmp sl))).put (some t2) (.bool (decide (0 < n)))) (.tmp t2) = .bool (decide (0 < n)) := by rw [eval_tmp, Act.get_put_eq (by rw [Act.size_put]; exact l2)]
  have hsb0 : SameBut (fun t => t = t1 ∨ t = t2) a ((a.put (some t1) (a.eval (.tmp sl))).put (some t2) (.bool (decide (0 < n)))) := ((SameBut.refl a).put (.inl rfl) _).put (.inr rfl) _
  have hva2 : Act.get ((a.put (some t1) (a.eval (.tmp sl))).put (some t2) (.bool (decide (0 < n)))) sa = .slice ao 0 0 := by rw [Act.get_put_ne n2a, Act.get_put_ne n1a, hva]
  have hvl2 : Act.get ((a.put (some t1) (a.eval (.tmp sl))).put (some t2) (.bool (decide (0 < n)))) sl = .int .i32 n := by rw [Act.get_put_ne n2l, Act.get_put_ne n1l, hvl]
  generalize ((a.put (some t1) (a.eval (.tmp sl))).put (some t2) (.bool (decide (0 < n)))) = a2 at *
  by_cases h0 : 0 < n
  · refine wp_cond_true (by rw [hv]; simp [h0]) ?_
    obtain ⟨m, hm⟩ : ∃ m : Nat, n = m := ⟨n.toNat, by omega⟩
    subst hm
    have hm0 : 0 < m := by omega
    have k2 : a2.tmps.size = a.tmps.size := hsb0.size
    refine wp_region_lit (wpl_val rfl x_move (wpl_val rfl x_move ?_))
    simp only [eval_tmp]
    rw [Act.get_put_ne n3l, hva2, hvl2]
    obtain ⟨v, hv1, hv2, C, c1, c2, c3, c4, hr⟩ := x_zeros (P := P) (ρ := Act.eval ((a2.put (some t3) (.slice ao 0 0)).put (some t4) (.int .i32 (m : Nat)))) (w := w) (d := some t5) (ty := y5) (p := p5) (af := e5) (g := none) (x := .tmp t3) (y := .tmp t4) (kq := .i32) (n := m) (ao := ao) hI ⟨_, hIT⟩
      (by rw [eval_tmp, Act.get_put_ne (Ne.symm n34), Act.get_put_eq (by rw [k2]; exact l3)]) (by rw [eval_tmp, Act.get_put_eq (by rw [Act.size_put, k2]; exact l4)]) hm0 (by omega)
    refine wpl_val rfl hr (wpl_val rfl x_assign (wpList_nil ⟨rfl, ?_, ?_, ?_, .inr ⟨h0, _, ?_, c2, c3, C, e, ?_, c1, ?_⟩⟩))
    · have hm' : Mod none' w (w.drew.alloc (.cells C e)) := (Mod.refl w).drew.alloc _
      have := (((hA2.put s3 (.slice ao 0 0)).put s4 (.int .i32 (m : Nat))).put s5 (.slice (some ⟨w.heap.size, 0, none⟩) m (grownCap w m 0 e))).put s6 (Act.eval (((a2.put (some t3) (.slice ao 0 0)).put (some t4) (.int .i32 (m : Nat))).put (some t5) (.slice (some ⟨w.heap.size, 0, none⟩) m (grownCap w m 0 e))) (.tmp t5))
      exact this.world (this.rd.mod hm' (fun f => f) (fun f => f)) (this.err.mod hm' (fun f => f))
    · refine (hsb0.mono fun t ht => ?_).trans (((((SameBut.refl a2).put ?_ _).put ?_ _).put ?_ _).put ?_ _)
      · rcases ht with rfl | rfl <;> simp [W, writes]
      all_goals simp [W, writes]
    · exact (Mod.refl w).drew.alloc _
    · rw [Act.get_put_eq (by simp only [Act.size_put]; rw [k2]; exact l6), eval_tmp, Act.get_put_eq (by simp only [Act.size_put]; rw [k2]; exact l5)]
      simp
    · exact heap_alloc_new w.drew _
    · intro i hi j hj
      rw [c4 i (by simpa using hi) j hj]
      rw [hv1] at hz
      obtain rfl : v.cells = zs := by simpa using hz
      have : j < v.cells.size := by omega
      simp [from', this]
  · refine wp_cond_false (by rw [hv]; simp [h0]) (wp_skip ⟨rfl, hA2, hsb0.mono fun t ht => ?_, .refl w, .inl ⟨by omega, rfl, hva2⟩⟩)
    rcases ht with rfl | rfl <;> simp [W, writes]

theorem elemsR_len {ef : RS → R Tr} : ∀ {n : Nat} {s : RS} {ts : List Tr} {s' : RS}, elemsR ef n s = .ok ts s' → ts.length = n
  | 0, s, ts, s', h => by simp [elemsR] at h; rw [h.1]; rfl
  | n + 1, s, ts, s', h => by
    simp only [elemsR] at h
    cases he : ef s with
    | ok t s1 =>
      simp only [he, R.then] at h
      cases hr : elemsR ef n s1 with
      | ok ts1 s2 =>
        simp only [hr] at h
        obtain ⟨rfl, rfl⟩ : t :: ts1 = ts ∧ s2 = s' := by simpa using h
        simp [elemsR_len hr]
      | early => simp [hr] at h
      | stuck => simp [hr] at h
    | early => simp [he, R.then] at h
    | stuck => simp [he, R.then] at h

theorem loop_rule {cb : Code} (hE : ElemC P Γ cb sa si ety sz z ef)
    (hs : (Γ.free si && Γ.free t1 && Γ.free t2 && Γ.free t3 && Γ.free t4 && Γ.free t5 && t1 != t2 && t1 != si && t2 != si && t3 != si && t1 != sl && t2 != sl && t3 != sl && t4 != sl && t5 != sl && si != sl && t1 != sa && t2 != sa && t3 != sa && t4 != sa && t5 != sa && si != sa &&
      !(writes cb).contains sa && !(writes cb).contains sl && !(writes cb).contains si) = true) :
    LoopC P Γ (.seq (.region id #[⟨some si, .assign (.const (.int .i32 0)), y1, p1, e1, none⟩] false) (.block b0 (.loop (.seq (.seq (.region id2 #[⟨some t1, .move (.tmp si), y2, p2, e2, none⟩, ⟨some t2, .move (.tmp sl), y3, p3, e3, none⟩, ⟨some t3, .binOp .lss yg (.tmp t1) (.tmp t2) yh, y4, p4, e4, none⟩] false) (.cond (.tmp t3) .skip (.exit b0)))
      (.seq (.block b1 cb) (.region id3 #[⟨some t4, .move (.tmp si), y5, p5, e5, none⟩, ⟨some t5, .binOp .add ym (.tmp t4) (.const (.int .i32 1)) yn, y6, p6, e6, none⟩, ⟨some si, .assign (.tmp t5), y7, p7, e7, none⟩] false)))))) sa sl ety sz z ef := by
  intro x F k cap n s a w _ hA hvl hn hrow hS hns
  simp only [Bool.and_eq_true, bne_iff_ne, Bool.not_eq_true', List.contains_eq_mem, decide_eq_false_iff_not] at hs
  obtain ⟨⟨⟨⟨⟨⟨⟨⟨⟨⟨⟨⟨⟨⟨⟨⟨⟨⟨⟨⟨⟨⟨⟨⟨si0, s1⟩, s2⟩, s3⟩, s4⟩, s5⟩, n12⟩, n1i⟩, n2i⟩, n3i⟩, n1l⟩, n2l⟩, n3l⟩, n4l⟩, n5l⟩, nil'⟩, n1a⟩, n2a⟩, n3a⟩, n4a⟩, n5a⟩, nia⟩, wa⟩, wl⟩, wi⟩ := hs
  have li := hA.lt si0
  have l1 := hA.lt s1
  have l2 := hA.lt s2
  have l3 := hA.lt s3
  have l4 := hA.lt s4
  have l5 := hA.lt s5
  refine wp_seq (wp_region_lit (wpl_val rfl x_assign (wpList_nil ?_)))
  obtain ⟨WL, hWL⟩ : ∃ WL : Nat → Prop, WL = W (.seq (.region id #[⟨some si, .assign (.const (.int .i32 0)), y1, p1, e1, none⟩] false) (.block b0 (.loop (.seq (.seq (.region id2 #[⟨some t1, .move (.tmp si), y2, p2, e2, none⟩, ⟨some t2, .move (.tmp sl), y3, p3, e3, none⟩, ⟨some t3, .binOp .lss yg (.tmp t1) (.tmp t2) yh, y4, p4, e4, none⟩] false) (.cond (.tmp t3) .skip (.exit b0)))
      (.seq (.block b1 cb) (.region id3 #[⟨some t4, .move (.tmp si), y5, p5, e5, none⟩, ⟨some t5, .binOp .add ym (.tmp t4) (.const (.int .i32 1)) yn, y6, p6, e6, none⟩, ⟨some si, .assign (.tmp t5), y7, p7, e7, none⟩] false)))))) := ⟨_, rfl⟩
  rw [← hWL]
  have wsi : WL si := by rw [hWL]; simp [W, writes]
  have ww1 : WL t1 := by rw [hWL]; simp [W, writes]
  have ww2 : WL t2 := by rw [hWL]; simp [W, writes]
  have ww3 : WL t3 := by rw [hWL]; simp [W, writes]
  have ww4 : WL t4 := by rw [hWL]; simp [W, writes]
  have ww5 : WL t5 := by rw [hWL]; simp [W, writes]
  have wcb : ∀ t, W cb t → WL t := fun t ht => by
    rw [hWL]
    have : t ∈ writes cb := ht
    simp [W, writes, this]
  clear hWL
  refine wp_for
    (I := fun m a1 w1 => ∃ s1 ts, Amb Γ x s1 a1 w1 ∧ ts.length + m = n.toNat ∧ Act.get a1 si = .int .i32 (ts.length : Nat) ∧ Act.get a1 sl = .int .i32 n ∧ (0 < n → Act.get a1 sa = .slice (some ⟨k, 0, none⟩) n.toNat cap ∧ Row w1 F k cap sz ety z n.toNat ts) ∧ SameBut WL a a1 ∧
      Mod (fun b => b = x.rb ∨ (0 < n ∧ b = k)) w w1 ∧ elemsR (ef x.ver x.flex) n.toNat s = (elemsR (ef x.ver x.flex) m s1).then fun r s2 => .ok (ts ++ r) s2)
    (J := fun m a1 w1 => ∃ s1 ts, Amb Γ x s1 a1 w1 ∧ ts.length + (m + 1) = n.toNat ∧ Act.get a1 si = .int .i32 (ts.length : Nat) ∧ Act.get a1 sl = .int .i32 n ∧ (0 < n → Act.get a1 sa = .slice (some ⟨k, 0, none⟩) n.toNat cap ∧ Row w1 F k cap sz ety z n.toNat ts) ∧ SameBut WL a a1 ∧
      Mod (fun b => b = x.rb ∨ (0 < n ∧ b = k)) w w1 ∧ elemsR (ef x.ver x.flex) n.toNat s = (elemsR (ef x.ver x.flex) (m + 1) s1).then fun r s2 => .ok (ts ++ r) s2)
    (K := fun m a1 w1 => ∃ s1 ts, Amb Γ x s1 a1 w1 ∧ ts.length + m = n.toNat ∧ 0 < ts.length ∧ Act.get a1 si = .int .i32 ((ts.length - 1 : Nat) : Int) ∧ Act.get a1 sl = .int .i32 n ∧ (0 < n → Act.get a1 sa = .slice (some ⟨k, 0, none⟩) n.toNat cap ∧ Row w1 F k cap sz ety z n.toNat ts) ∧ SameBut WL a a1 ∧
      Mod (fun b => b = x.rb ∨ (0 < n ∧ b = k)) w w1 ∧ elemsR (ef x.ver x.flex) n.toNat s = (elemsR (ef x.ver x.flex) m s1).then fun r s2 => .ok (ts ++ r) s2)
    n.toNat ?_ ?_ ?_ ?_
  · refine ⟨s, [], hA.put si0 _, by simp, ?_, ?_, fun h => ?_, (SameBut.refl a).put wsi _, .refl w, ?_⟩
    · rw [Act.get_put_eq li]; rfl
    · rw [Act.get_put_ne nil', hvl]
    · rw [Act.get_put_ne nia]; exact hrow h
    · simp only [List.nil_append]; exact (R.then_ok _).symm
  · rintro m a1 w1 ⟨s1', ts, hA1, hlen, hi, hl, hr, hsb, hmod, heq⟩
    have z1 := hA1.lt s1
    have z2 := hA1.lt s2
    have z3 := hA1.lt s3
    refine wp_region_lit (wpl_val rfl x_move (wpl_val rfl x_move (wpl_val rfl (x_lss (k := .i32) (m := (ts.length : Nat)) (n := n) ?_ ?_) (wpList_nil ⟨rfl, ?_⟩))))
    · rw [eval_tmp, Act.get_put_ne (Ne.symm n12), Act.get_put_eq z1, eval_tmp, hi]
    · rw [eval_tmp, Act.get_put_eq (by rw [Act.size_put]; exact z2), eval_tmp, Act.get_put_ne n1l, hl]
    · rw [Act.get_put_eq (by simp only [Act.size_put]; exact z3)]
      cases m with
      | zero =>
        right
        refine ⟨by congr 1; simp; omega, ts, s1', ?_, ((hA1.put s1 _).put s2 _).put s3 _, fun h => ⟨(hr h).2, by simpa using hlen⟩, ((hsb.put ww1 _).put ww2 _).put ww3 _, hmod⟩
        rw [heq]; simp [elemsR, R.then]
      | succ m =>
        left
        refine ⟨m, rfl, by congr 1; simp; omega, s1', ts, ((hA1.put s1 _).put s2 _).put s3 _, hlen, ?_, ?_, fun h => ⟨?_, (hr h).2⟩, ((hsb.put ww1 _).put ww2 _).put ww3 _, hmod, heq⟩
        · rw [Act.get_put_ne n3i, Act.get_put_ne n2i, Act.get_put_ne n1i, hi]
        · rw [Act.get_put_ne n3l, Act.get_put_ne n2l, Act.get_put_ne n1l, hl]
        · rw [Act.get_put_ne n3a, Act.get_put_ne n2a, Act.get_put_ne n1a]; exact (hr h).1
  · rintro m a1 w1 ⟨s1', ts, hA1, hlen, hi, hl, hr, hsb, hmod, heq⟩
    have h0 : 0 < n := by omega
    have hns1 : ef x.ver x.flex s1' ≠ .stuck := fun e => hns (by rw [heq]; simp [elemsR, e, R.then])
    refine wp_mono (hE x F k cap n.toNat ts s1' a1 w1 hA1 (hr h0).1 hi (by omega) (hr h0).2 ((hS h0).later hmod.size) hns1) ?_
    intro e a2 w2 h2
    cases e with
    | normal =>
      obtain ⟨t, s2', he, hA2, hrow2, hsb2, hmod2⟩ := h2
      refine ⟨s2', ts ++ [t], hA2, by simp; omega, by simp, ?_, ?_, fun h => ⟨?_, hrow2⟩, hsb.trans (hsb2.mono wcb), hmod.trans (hmod2.mono fun _ _ e => e.imp (fun q => q) fun e => ⟨h0, e⟩), ?_⟩
      · rw [hsb2.get _ wi, hi]; simp
      · rw [hsb2.get _ wl, hl]
      · rw [hsb2.get _ wa]; exact (hr h).1
      · rw [heq]
        simp only [elemsR, he, R.then_assoc]
        show (elemsR (ef x.ver x.flex) m s2').then _ = _
        congr 1
        funext r s3
        simp [R.then]
    | ret =>
      refine ⟨?_, h2.2.1, h2.2.2.1, hmod.trans (h2.2.2.2.mono fun _ _ e => e.imp (fun q => q) fun e => ⟨h0, e⟩)⟩
      rw [heq]; simp [elemsR, h2.1, R.then]
    | _ => exact h2.elim
  · rintro m a1 w1 ⟨s1', ts, hA1, hlen, hpos, hi, hl, hr, hsb, hmod, heq⟩
    have z4 := hA1.lt s4
    have z5 := hA1.lt s5
    have zi := hA1.lt si0
    refine wp_region_lit (wpl_val rfl x_move (wpl_val rfl (x_add (k := .i32) (m := ((ts.length - 1 : Nat) : Int)) (n := 1) ?_ rfl) (wpl_val rfl x_assign (wpList_nil ⟨rfl, s1', ts, ?_, hlen, ?_, ?_, fun h => ⟨?_, (hr h).2⟩, ?_, hmod, heq⟩))))
    · rw [eval_tmp, Act.get_put_eq z4, eval_tmp, hi]
    · exact ((hA1.put s4 _).put s5 _).put si0 _
    · rw [Act.get_put_eq (by simp only [Act.size_put]; exact zi), eval_tmp, Act.get_put_eq (by simp only [Act.size_put]; exact z5)]
      congr 1
      rw [wrap32_eq]
      simp only [wrap32]
      omega
    · rw [Act.get_put_ne nil', Act.get_put_ne n5l, Act.get_put_ne n4l, hl]
    · rw [Act.get_put_ne nia, Act.get_put_ne n5a, Act.get_put_ne n4a]; exact (hr h).1
    · exact ((hsb.put ww4 _).put ww5 _).put wsi _
end
end Go.Proofs.YtadfbhmpehnkeaaDoor
