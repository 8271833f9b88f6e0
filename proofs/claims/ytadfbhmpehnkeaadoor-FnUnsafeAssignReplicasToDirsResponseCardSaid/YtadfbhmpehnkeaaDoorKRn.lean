/-
  Rules for the code that reads a message's parts: a list as a field; elements; parts within. No program in it.
-/
import Derived.Test.YtadfbhmpehnkeaaDoorKRm
set_option linter.unusedSimpArgs false
set_option linter.unusedVariables false
namespace Go.Proofs.YtadfbhmpehnkeaaDoor
open Go Go.RowKit

section
variable {P : Program} {Γ : Sl} {σ σ' : St} {f g : FT} {id id' id2 id3 : Nat} {ty ety : Ty} {rd rd' : Int → Bool → RS → Tr × RS} {sa sl si sv sz b0 b1 : Nat} {z : Nat → Value} {ef : EF}
  {y1 y2 y3 y4 y5 y6 y7 y8 y9 : TypeId} {p1 p2 p3 p4 p5 p6 p7 p8 p9 : String} {e1 e2 e3 e4 e5 e6 e7 e8 e9 : Array Edge} {ts ts1 ts2 : Array TypeId} {t1 t2 t3 t4 t5 t6 : Nat} {yg yh ym yn : TypeId}

/-- 's.F = v', where v is known -/
theorem put_region {tv T k i o yt : Nat} (hat : σ.lay.at i = some (o, ty)) (hok : σ.okAt i o ty = true) (hf : fieldOff P T k = some o) (hsz : sized P yt ty.size = true)
    (hs : (Γ.free t1 && Γ.free t2 && Γ.free t3 && Γ.free t4 && t1 != tv && t2 != t1 && t3 != t2 && t4 != t2 && t1 != σ.s && t2 != σ.s && t3 != σ.s && t4 != σ.s) = true)
    {x : Cx} {F : Nat → Prop} {blk off : Nat} {v : SV} {s : RS} {a : Act} {w : World} {u : Tr} (hA : Amb Γ x s a w) (hp : Act.get a σ.s = .pointer (some ⟨blk, off, none⟩)) (hC : Cur σ F blk off v w) (hS : Sep x F blk w) (hV : RepV w F ty (Act.get a tv) u) :
    (Code.region id #[⟨some t1, .move (.tmp σ.s), y1, p1, e1, none⟩, ⟨some t2, .move (.tmp tv), y2, p2, e2, none⟩, ⟨some t3, .nilCheck (.tmp t1), y3, p3, e3, none⟩,
      ⟨some t4, .fieldAddr T (.tmp t3) k, y4, p4, e4, none⟩, ⟨none, .store yt (.tmp t4) (.tmp t2), y5, p5, e5, none⟩] false).wp P
      (fun e a' w' => e = .normal ∧ Amb Γ x s a' w' ∧ Cur σ F blk off (v.1.set i u, v.2) w' ∧ SameBut (fun t => t = t1 ∨ t = t2 ∨ t = t3 ∨ t = t4) a a' ∧ Stp x blk off σ.sz w w') a w := by
  simp only [Bool.and_eq_true, bne_iff_ne] at hs
  obtain ⟨⟨⟨⟨⟨⟨⟨⟨⟨⟨⟨f1, f2⟩, f3⟩, f4⟩, n1⟩, n2⟩, n3⟩, n4⟩, m1⟩, m2⟩, m3⟩, m4⟩ := hs
  refine wp_region_lit ?_
  refine wpl_val rfl x_move (wpl_val rfl x_move ?_)
  simp only [eval_tmp]
  rw [Act.get_put_ne n1, hp]
  have z1 := hA.lt f1
  have z2 := hA.lt f2
  have z3 := hA.lt f3
  have z4 := hA.lt f4
  refine wpl_val rfl (x_nilCheck (q := ⟨blk, off, none⟩) (by rw [eval_tmp, Act.get_put_ne n2, Act.get_put_eq z1])) ?_
  refine wpl_val rfl (x_fieldAddr hf (b := blk) (o0 := off) (by rw [eval_tmp, Act.get_put_eq (by simp only [Act.size_put]; exact z3)])) ?_
  obtain ⟨C, t, h1, h2, h3, h4⟩ := hC.mem
  simp only [St.okAt, Bool.and_eq_true] at hok
  have hin := Lay.at_in _ _ _ _ _ _ hok.1.1 hat
  have htg : ∀ q, σ.tg = some q → q < σ.sz ∧ (q < o ∨ o + ty.size ≤ q) := fun q hq => by
    have := hok.1.2
    rw [hq] at this
    simpa using this
  have hFb : ∀ k, F k → k ≠ blk := fun k hk => (hS.apart k hk).2
  have hsb : ∀ u1 u2 u3 u4, SameBut (fun t => t = t1 ∨ t = t2 ∨ t = t3 ∨ t = t4) a ((((a.put (some t1) u1).put (some t2) u2).put (some t3) u3).put (some t4) u4) := fun u1 u2 u3 u4 =>
    ((((SameBut.refl a).put (.inl rfl) _).put (.inr (.inl rfl)) _).put (.inr (.inr (.inl rfl))) _).put (.inr (.inr (.inr rfl))) _
  have key : ∀ (w2 : World) (C' : Array Value), Mod (only blk) w w2 → w2.heap[blk]? = some (.cells C' t (0, 0)) → C'.size = C.size → (∀ j, j < off + o ∨ off + o + ty.size ≤ j → C'[j]? = C[j]?) →
      Rep w F ty (fun j => from' C' off (o + j)) u → ∀ a2, Amb Γ x s a2 w → SameBut (fun t => t = t1 ∨ t = t2 ∨ t = t3 ∨ t = t4) a a2 →
      Amb Γ x s a2 w2 ∧ Cur σ F blk off (v.1.set i u, v.2) w2 ∧ SameBut (fun t => t = t1 ∨ t = t2 ∨ t = t3 ∨ t = t4) a a2 ∧ Stp x blk off σ.sz w w2 := by
    intro w2 C' hm hb hsize hout hrep a2 hA2 hsb2
    refine ⟨hA2.world (hA2.rd.mod hm (fun e => hS.rb e.symm) (fun e => (hS.apart _ hS.src).2 e)) (hA2.err.mod hm (fun e => hS.glob e.symm)), ?_, hsb2, ?_⟩
    · exact cur_store hok.1.1 htg hat hC hFb hm h1 hb hsize hout hrep
    · refine ⟨hm.mono fun _ _ e => .inr e, fun D td hD => ?_⟩
      rw [h1] at hD
      obtain ⟨rfl, rfl⟩ : C = D ∧ t = td := by simpa using hD
      exact ⟨C', hb, hsize, fun j hj => hout j (by omega)⟩
  have hx2 : Act.get (((((a.put (some t1) (.pointer (some ⟨blk, off, none⟩))).put (some t2) (Act.get a tv)).put (some t3) (.pointer (some ⟨blk, off, none⟩))).put (some t4) (.pointer (some ⟨blk, off + o, none⟩)))) t2 = Act.get a tv := by
    rw [Act.get_put_ne n4, Act.get_put_ne n3, Act.get_put_eq (by simp only [Act.size_put]; exact z2)]
  rcases hV with ⟨hone, hov, hrep⟩ | ⟨rfl, cs, hcs, hn, hall, hrep⟩
  · rw [hone] at hsz
    have hbo : off + o < C.size := by omega
    refine wpl_skip rfl (x_store1 hsz (b := blk) (o := off + o) (v := Act.get a tv) (u := C[off + o]) (by rw [eval_tmp, Act.get_put_eq (by simp only [Act.size_put]; exact z4)]) (by rw [eval_tmp]; exact hx2) hov
      (by rw [cell_of_heap h1]; exact Array.getElem?_eq_getElem hbo) (frozen_of_heap h1)) (wpList_nil ?_)
    refine ⟨rfl, key _ (C.setIfInBounds (off + o) (Act.get a tv)) ((Mod.refl w).put _ _) (heap_setCell_same h1 _) (by simp) (fun j hj => by rw [Array.getElem?_setIfInBounds_ne (by omega)]) ?_ _ ((((hA.put f1 _).put f2 _).put f3 _).put f4 _) (hsb _ _ _ _)⟩
    refine Rep.congr ty (fun _ => Act.get a tv) _ _ hin.2.2 (fun j hj => ?_) hrep
    have : j = 0 := by omega
    subst this
    exact get_from' (by simp [hbo])
  · simp only [Ty.size] at hsz hin key
    rw [← hn] at hsz
    have hthere : w.there blk (off + o) cs.size := fun j hj => by
      rw [cell_of_heap h1, frozen_of_heap h1, Array.getElem?_eq_getElem (by omega)]
      exact ⟨rfl, rfl⟩
    refine wpl_skip rfl (x_storeN hsz (b := blk) (o := off + o) (cs := cs) (by rw [eval_tmp, Act.get_put_eq (by simp only [Act.size_put]; exact z4)]) (by rw [eval_tmp, hx2]; exact hcs) hall hthere) (wpList_nil ?_)
    obtain ⟨C', g1, g2, g3, g4⟩ := heap_setCells (w := w) cs.toList (off + o) C h1
    simp only [Array.length_toList] at g3 g4
    refine ⟨rfl, key _ C' (mod_setCells _ _ _ _) g1 g2 (fun j hj => g4 j (by omega)) ?_ _ ((((hA.put f1 _).put f2 _).put f3 _).put f4 _) (hsb _ _ _ _)⟩
    refine Rep.congr .uuid (from' cs 0) _ _ rfl (fun j hj => ?_) hrep
    simp only [Ty.size] at hj
    have h5 := g3 j (by omega) (by omega)
    refine get_from' ?_
    rw [← Nat.add_assoc, h5]
    simp [from', show j < cs.size by omega]

/-- an element of one cell -/
theorem elem_scalar {c : Code} {tv LT ET e : Nat} (hg : Get P Γ c tv ety rd) (h1 : ety.size = 1) (hok : ety.ok = true) (hI : elemInfo P LT e 1 = true) (hsz : sized P ET 1 = true)
    (hs : (Γ.free t1 && Γ.free t2 && Γ.free t3 && Γ.free t4 && t1 != si && t1 != tv && t2 != tv && t2 != t1 && t3 != t1 && t3 != t2 && t4 != t3 && !(writes c).contains sa && !(writes c).contains si) = true) :
    ElemC P Γ (.seq c (.region id #[⟨some t1, .move (.tmp sa), y1, p1, e1, none⟩, ⟨some t2, .move (.tmp si), y2, p2, e2, none⟩, ⟨some t3, .move (.tmp tv), y3, p3, e3, none⟩, ⟨some t4, .indexAddr LT (.tmp t1) (.tmp t2), y4, p4, e4, none⟩,
      ⟨none, .store ET (.tmp t4) (.tmp t3), y5, p5, e5, none⟩] false)) sa si ety 1 z (fun ver fl s => .ok (rd ver fl s).1 (rd ver fl s).2) := by
  intro x F k cap n tl s a w hA ha hi hlt hR hS _
  simp only [Bool.and_eq_true, bne_iff_ne, Bool.not_eq_true', List.contains_eq_mem, decide_eq_false_iff_not] at hs
  obtain ⟨⟨⟨⟨⟨⟨⟨⟨⟨⟨⟨⟨f1, f2⟩, f3⟩, f4⟩, n1i⟩, n1v⟩, n2v⟩, n21⟩, n31⟩, n32⟩, n43⟩, wa⟩, wi⟩ := hs
  refine wp_seq (wp_mono (hg x s a w hA) ?_)
  rintro e a1 w1 ⟨rfl, hA1, hV, hsb, hmod⟩
  have hS1 := hS.later hmod.size
  have hR1 : Row w1 F k cap 1 ety z n tl := hR.mod hmod hS.rb (fun b hb => (hS.apart b hb).1)
  have hV1 := hV F hS.src hS.fresh
  have ha1 := (hsb.get _ wa).trans ha
  have hi1 := (hsb.get _ wi).trans hi
  have z1 := hA1.lt f1
  have z2 := hA1.lt f2
  have z3 := hA1.lt f3
  have z4 := hA1.lt f4
  obtain ⟨C, tc, hb, hC, hrep, hzero⟩ := hR1.mem
  have hcap := hR1.room
  rcases hV1 with ⟨_, hov, hrepv⟩ | ⟨rfl, _⟩
  · refine wp_region_lit (wpl_val rfl x_move (wpl_val rfl x_move (wpl_val rfl x_move (wpl_val rfl (x_indexAddr (b := k) (o := 0) (n := n) (cap := cap) (i := tl.length) (sz := 1) (k := .i32) (elemSize_of hI) ?_ ?_ hlt) ?_))))
    · rw [eval_tmp, Act.get_put_ne n31, Act.get_put_ne n21, Act.get_put_eq z1, eval_tmp, ha1]
    · rw [eval_tmp, Act.get_put_ne n32, Act.get_put_eq (by simp only [Act.size_put]; exact z2), eval_tmp, Act.get_put_ne n1i, hi1]
    refine wpl_abs (fun a2 => Amb Γ x (rd x.ver x.flex s).2 a2 w1 ∧ SameBut (fun t => t = t1 ∨ t = t2 ∨ t = t3 ∨ t = t4) a1 a2 ∧ Act.get a2 t4 = .pointer (some ⟨k, 0 + tl.length * 1, none⟩) ∧ Act.get a2 t3 = Act.get a1 tv) ⟨(((hA1.put f1 _).put f2 _).put f3 _).put f4 _, ((((SameBut.refl a1).put (.inl rfl) _).put (.inr (.inl rfl)) _).put (.inr (.inr (.inl rfl))) _).put (.inr (.inr (.inr rfl))) _, ?_, ?_⟩ ?_
    · rw [Act.get_put_eq (by simp only [Act.size_put]; exact z4)]
    · rw [Act.get_put_ne n43, Act.get_put_eq (by simp only [Act.size_put]; exact z3), eval_tmp, Act.get_put_ne n2v, Act.get_put_ne n1v]
    rintro a2 ⟨hA2, hsb2, hg4, hg3⟩
    have hlC : 0 + tl.length * 1 < C.size := by omega
    refine wpl_skip rfl (x_store1 hsz (b := k) (o := 0 + tl.length * 1) (v := Act.get a1 tv) (u := C[0 + tl.length * 1]) (by rw [eval_tmp, hg4]) (by rw [eval_tmp, hg3]) hov (by rw [cell_of_heap hb]; exact Array.getElem?_eq_getElem hlC) (frozen_of_heap hb)) (wpList_nil ?_)
    rw [Act.put_none]
    have hm2 : Mod (only k) w1 (w1.setCell ⟨k, 0 + tl.length * 1, none⟩ (Act.get a1 tv)) := (Mod.refl w1).put _ _
    refine ⟨_, _, rfl, hA2.world (hA2.rd.mod hm2 (fun e => hS.rb e.symm) (fun e => (hS.apart _ hS.src).2 e)) (hA2.err.mod hm2 (fun e => hS.glob e.symm)), ?_, ?_, ?_⟩
    · refine hR1.step hlt hok h1 hm2 (fun b hb e => (hS.apart b hb).2 e) (fun D td hD => ?_)
      rw [hb] at hD
      obtain ⟨rfl, rfl⟩ : C = D ∧ tc = td := by simpa using hD
      refine ⟨_, heap_setCell_same hb _, by simp, fun j hj => ?_, ?_⟩
      · rw [Array.getElem?_setIfInBounds_ne (by omega)]
      · refine Rep.mod hm2 (fun b hb e => (hS.apart b hb).2 e) (fun _ h => h) _ _ _ (Rep.congr ety (fun _ => Act.get a1 tv) _ _ hok (fun j hj => ?_) hrepv)
        have : j = 0 := by omega
        subst this
        refine get_from' ?_
        have hq : tl.length < C.size := by omega
        simp only [Nat.zero_add, Nat.mul_one, Nat.add_zero]
        simp [hq]
    · refine (hsb.mono fun t ht => by simp only [W, writes, List.mem_append] at *; exact .inl ht).trans (hsb2.mono fun t ht => ?_)
      rcases ht with rfl | rfl | rfl | rfl <;> simp [W, writes]
    · exact (hmod.mono fun _ _ h => .inl h).trans (hm2.mono fun _ _ h => .inr h)
  · simp [Ty.size] at h1

/-- what is made of an element that is a struct -/
def structE (f : FT) (z : SV) : EF := fun ver fl s => (f ver fl z s).then fun v s => .ok (.part v.1 v.2) s
/-- an element that is a struct -/
theorem elem_struct {rest : Code} {sp fd LT e : Nat} {d : SV → SV} {z0 : SV} (hr : Blk P Γ σ rest f) (hd : DfC P fd σ d) (hbd : bodied P fd = true) (hI : elemInfo P LT e sz = true) (hsz : σ.sz = sz) (hok : (Ty.struct σ.lay σ.tg σ.sz).ok = true)
    (hz : ∀ w F, RepL w F σ.lay z z0.1 ∧ (match σ.tg with | some o => TagsR w F (z o) z0.2 | none => z0.2 = []))
    (hs : (Γ.free t1 && Γ.free t2 && Γ.free t3 && Γ.free t4 && Γ.free t5 && Γ.free t6 && Γ.free sp && Γ.free σ.s && t1 != si && t2 != t1 && t4 != sp && t5 != sp) = true) :
    ElemC P Γ (.seq (.region id #[⟨some t1, .move (.tmp sa), y1, p1, e1, none⟩, ⟨some t2, .move (.tmp si), y2, p2, e2, none⟩, ⟨some t3, .indexAddr LT (.tmp t1) (.tmp t2), y3, p3, e3, none⟩, ⟨some sp, .assign (.tmp t3), y4, p4, e4, none⟩] false)
      (.seq (.region id2 #[⟨some t4, .move (.tmp sp), y5, p5, e5, none⟩, ⟨some t5, .call ⟨.value (.func fd), #[.tmp t4], ts⟩, y6, p6, e6, none⟩] false)
      (.seq (.region id3 #[⟨some t6, .move (.tmp sp), y7, p7, e7, none⟩, ⟨some σ.s, .assign (.tmp t6), y8, p8, e8, none⟩] false) rest))) sa si (.struct σ.lay σ.tg σ.sz) sz z
      (structE f (d z0)) := by
  unfold structE
  intro x F k cap n tl s a w hA ha hi hlt hR hS hns
  simp only [Bool.and_eq_true, bne_iff_ne] at hs
  obtain ⟨⟨⟨⟨⟨⟨⟨⟨⟨⟨⟨f1, f2⟩, f3⟩, f4⟩, f5⟩, f6⟩, fp⟩, fs⟩, n1i⟩, n21⟩, n4p⟩, n5p⟩ := hs
  have hns1 : f x.ver x.flex (d z0) s ≠ .stuck := fun e => hns (by simp [e, R.then])
  have z1 := hA.lt f1
  have z2 := hA.lt f2
  have z3 := hA.lt f3
  have z4 := hA.lt f4
  have z5 := hA.lt f5
  have z6 := hA.lt f6
  have zp := hA.lt fp
  have zs := hA.lt fs
  obtain ⟨C, tc, hb, hC, hrep, hzero⟩ := hR.mem
  have hcap := hR.room
  have hroom : tl.length * sz + sz ≤ C.size := by
    have := Nat.mul_le_mul_right sz (show tl.length + 1 ≤ cap by omega)
    rw [Nat.add_mul] at this
    omega
  simp only [Ty.ok, Bool.and_eq_true] at hok
  refine wp_seq (wp_region_lit (wpl_val rfl x_move (wpl_val rfl x_move (wpl_val rfl (x_indexAddr (b := k) (o := 0) (n := n) (cap := cap) (i := tl.length) (sz := sz) (k := .i32) (elemSize_of hI) ?_ ?_ hlt) (wpl_val rfl x_assign (wpList_nil ?_))))))
  · rw [eval_tmp, Act.get_put_ne n21, Act.get_put_eq z1, eval_tmp, ha]
  · rw [eval_tmp, Act.get_put_eq (by simp only [Act.size_put]; exact z2), eval_tmp, Act.get_put_ne n1i, hi]
  obtain ⟨a1, ha1⟩ : ∃ a1, a1 = ((((a.put (some t1) (a.eval (.tmp sa))).put (some t2) (Act.eval (a.put (some t1) (a.eval (.tmp sa))) (.tmp si))).put (some t3) (.pointer (some ⟨k, 0 + tl.length * sz, none⟩))).put (some sp) (Act.eval (((a.put (some t1) (a.eval (.tmp sa))).put (some t2) (Act.eval (a.put (some t1) (a.eval (.tmp sa))) (.tmp si))).put (some t3) (.pointer (some ⟨k, 0 + tl.length * sz, none⟩))) (.tmp t3))) := ⟨_, rfl⟩
  rw [← ha1]
  have hA1 : Amb Γ x s a1 w := by rw [ha1]; exact (((hA.put f1 _).put f2 _).put f3 _).put fp _
  have hsb1 : SameBut (fun t => t = t1 ∨ t = t2 ∨ t = t3 ∨ t = sp) a a1 := by rw [ha1]; exact ((((SameBut.refl a).put (.inl rfl) _).put (.inr (.inl rfl)) _).put (.inr (.inr (.inl rfl))) _).put (.inr (.inr (.inr rfl))) _
  have hp1 : Act.get a1 sp = .pointer (some ⟨k, tl.length * sz, none⟩) := by
    rw [ha1, Act.get_put_eq (by simp only [Act.size_put]; exact zp), eval_tmp, Act.get_put_eq (by simp only [Act.size_put]; exact z3), Nat.zero_add]
  clear ha1
  have q1 : a1.tmps.size = a.tmps.size := hsb1.size
  have hcur : Cur σ F k (tl.length * sz) z0 w := by
    have hc : ∀ j, j < sz → from' C (tl.length * sz) j = z j := fun j hj => get_from' (hzero _ (Nat.le_refl _) hlt j hj)
    obtain ⟨g1, g2⟩ := hz w F
    refine ⟨C, tc, hb, by omega, RepL.congr _ 0 σ.sz _ _ _ hok.1 (fun j _ hj => hc j (by omega)) g1, ?_⟩
    cases hg : σ.tg with
    | none => rw [hg] at g2; exact g2
    | some o =>
      rw [hg] at g2
      have : TagIn σ.tg σ.sz = true := hok.2
      rw [hg] at this
      simp only [TagIn, decide_eq_true_eq] at this
      show TagsR w F (from' C (tl.length * sz) o) z0.2
      rw [hc o (by omega)]; exact g2
  have e0 : ∀ a : Act, Act.get a t4 = .pointer (some ⟨k, tl.length * sz, none⟩) → (#[Operand.tmp t4] : Array Operand).map a.eval = #[.pointer (some ⟨k, tl.length * sz, none⟩)] := fun a h => by simp [eval_tmp, h]
  refine wp_seq (wp_region_lit (wpl_val rfl x_move (wpl_call rfl (x_callf hbd rfl) (R := fun e w' => (∃ r, e = .returned r) ∧ Mod (only k) w w' ∧ Cur σ F k (tl.length * sz) (d z0) w' ∧
    ∀ C t, w.heap[k]? = some (.cells C t (0, 0)) → ∃ C', w'.heap[k]? = some (.cells C' t (0, 0)) ∧ C'.size = C.size ∧ ∀ j, j < tl.length * sz ∨ tl.length * sz + σ.sz ≤ j → C'[j]? = C[j]?) ?_ ?_)))
  · rw [e0 _ (by rw [Act.get_put_eq (by rw [q1]; exact z4), eval_tmp, hp1])]
    exact hd F k (tl.length * sz) z0 w hcur (fun b hb => (hS.apart b hb).2)
  rintro e w1 ⟨⟨r, rfl⟩, hm1, hcur1, hout1⟩
  refine ⟨r, rfl, wpList_nil ?_⟩
  have hS1 := hS.later hm1.size
  obtain ⟨a2, ha2⟩ : ∃ a2, a2 = ((a1.put (some t4) (a1.eval (.tmp sp))).put (some t5) r) := ⟨_, rfl⟩
  have hA2 : Amb Γ x s a2 w1 := by
    have h := (hA1.put f4 (a1.eval (.tmp sp))).put f5 r
    rw [← ha2] at h
    exact h.world (h.rd.mod hm1 (fun e => hS.rb e.symm) (fun e => (hS.apart _ hS.src).2 e)) (h.err.mod hm1 (fun e => hS.glob e.symm))
  have hp2 : Act.get a2 sp = .pointer (some ⟨k, tl.length * sz, none⟩) := by rw [ha2, Act.get_put_ne n5p, Act.get_put_ne n4p, hp1]
  have hsb2 : SameBut (fun t => t = t4 ∨ t = t5) a1 a2 := by rw [ha2]; exact ((SameBut.refl a1).put (.inl rfl) _).put (.inr rfl) _
  show Code.wp _ _ _ ((a1.put (some t4) (a1.eval (.tmp sp))).put (some t5) r) w1
  rw [← ha2]
  clear ha2
  have q2 : a2.tmps.size = a1.tmps.size := hsb2.size
  refine wp_seq (wp_region_lit (wpl_val rfl x_move (wpl_val rfl x_assign (wpList_nil ?_))))
  have hA3 := (hA2.put f6 (a2.eval (.tmp sp))).put fs (Act.eval (a2.put (some t6) (a2.eval (.tmp sp))) (.tmp t6))
  have hp3 : Act.get ((a2.put (some t6) (a2.eval (.tmp sp))).put (some σ.s) (Act.eval (a2.put (some t6) (a2.eval (.tmp sp))) (.tmp t6))) σ.s = .pointer (some ⟨k, tl.length * sz, none⟩) := by
    rw [Act.get_put_eq (by simp only [Act.size_put]; rw [q2, q1]; exact zs), eval_tmp, Act.get_put_eq (by rw [q2, q1]; exact z6), eval_tmp, hp2]
  have hsb3 : SameBut (fun t => t = t6 ∨ t = σ.s) a2 ((a2.put (some t6) (a2.eval (.tmp sp))).put (some σ.s) (Act.eval (a2.put (some t6) (a2.eval (.tmp sp))) (.tmp t6))) := ((SameBut.refl a2).put (.inl rfl) _).put (.inr rfl) _
  generalize ((a2.put (some t6) (a2.eval (.tmp sp))).put (some σ.s) (Act.eval (a2.put (some t6) (a2.eval (.tmp sp))) (.tmp t6))) = a3 at *
  refine wp_mono (hr x F k (tl.length * sz) (d z0) s a3 w1 hA3 hp3 hcur1 hS1 hns1) ?_
  intro e a4 w4 h4
  have hmd : ∀ w4, Stp x k (tl.length * sz) σ.sz w1 w4 → Mod (fun b => b = x.rb ∨ b = k) w w4 := fun w4 h => (hm1.mono fun _ _ e => .inr e).trans h.mod
  cases e with
  | normal =>
    obtain ⟨v', s', e4, hA4, hC4, hsb4, hst⟩ := h4
    refine ⟨.part v'.1 v'.2, s', by simp [e4, R.then], hA4, ?_, ?_, hmd w4 hst⟩
    · refine hR.step hlt (by simp only [Ty.ok, Bool.and_eq_true]; exact hok) hsz (hmd w4 hst) (fun b hb e => ?_) (fun D td hD => ?_)
      · rcases e with e | e
        · exact (hS.apart b hb).1 e
        · exact (hS.apart b hb).2 e
      · obtain ⟨C1, c1, c2, c3⟩ := hout1 D td hD
        obtain ⟨C2, d1, d2, d3⟩ := hst.out C1 td c1
        rw [hsz] at c3 d3
        refine ⟨C2, d1, d2.trans c2, fun j hj => (d3 j hj).trans (c3 j hj), ?_⟩
        obtain ⟨C4, t4', k1, k2, k3, k4⟩ := hC4.mem
        rw [d1] at k1
        obtain ⟨rfl, rfl⟩ : C2 = C4 ∧ td = t4' := by simpa using k1
        simp only [Rep]
        refine ⟨v'.1, v'.2, k3, ?_, rfl⟩
        cases hg : σ.tg with
        | none => rw [hg] at k4; exact k4
        | some o => rw [hg] at k4; exact k4
    · refine (hsb1.mono fun t ht => ?_).trans ((hsb2.mono fun t ht => ?_).trans ((hsb3.mono fun t ht => ?_).trans (hsb4.mono fun t ht => ?_)))
      · rcases ht with rfl | rfl | rfl | rfl <;> simp [W, writes]
      · rcases ht with rfl | rfl <;> simp [W, writes]
      · rcases ht with rfl | rfl <;> simp [W, writes]
      · have : t ∈ writes rest := ht
        simp [W, writes, this]
  | ret =>
    refine ⟨by simp [h4.1, R.then], h4.2.1, h4.2.2.1, hmd w4 h4.2.2.2⟩
  | _ => exact h4.elim
end
end Go.Proofs.YtadfbhmpehnkeaaDoor
