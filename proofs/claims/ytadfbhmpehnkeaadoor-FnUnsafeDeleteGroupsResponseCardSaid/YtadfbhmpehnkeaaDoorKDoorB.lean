/-
  The doors, whole: a new message is read and told. No program in it.
-/
import Derived.Test.YtadfbhmpehnkeaaDoorKDoor
set_option linter.unusedSimpArgs false
set_option linter.unusedVariables false
namespace Go.Proofs.YtadfbhmpehnkeaaDoor
open Go Go.RowKit

def intTy (P : Program) (t : TypeId) (k : IntKind) : Bool := match P.underlying t with
  | some (.int k') => k == k'
  | _ => false
theorem intTy_spec {P : Program} {t : TypeId} {k : IntKind} (h : intTy P t k = true) : P.underlying t = some (.int k) := by
  unfold intTy at h
  cases hu : P.underlying t with
  | none => simp [hu] at h
  | some ds => cases ds <;> simp_all
section
variable {P : Program} {ρ : Operand → Value} {w : World} {d : Option Tmp} {ty : TypeId} {p : String} {af : Array Edge} {g : Option (Nat × Bool)} {ops : Array Oper} {rest : List Oper} {a : Act} {Q : Exit → Act → World → Prop}
theorem x_convInt {x : Operand} {s t : TypeId} {k k' : IntKind} {n : Int} (h1 : intTy P s k = true) (h2 : intTy P t k' = true) (hx : ρ x = .int k n) : (execOp ρ ⟨d, .convert s t x, ty, p, af, g⟩).run P w = .ok (.value (.int k' (k'.wrap n))) w := by
  simp [execOp, hx, convert, run_underlying (intTy_spec h1), run_underlying (intTy_spec h2), Conv.intToInt]

/-- a slice value that holds these octets -/
def Srcs (w : World) (v : Value) (bs : List UInt8) : Prop := (bs = [] ∧ ∃ ao cap, v = .slice ao 0 cap) ∨ ∃ sb off cap c tc fr, v = .slice (some ⟨sb, off, none⟩) bs.length cap ∧ w.heap[sb]? = some (.cells c tc fr) ∧ ∀ i (h : i < bs.length), c[off + i]? = some (.int .u8 (bs[i]).toNat)
theorem Srcs.mod {w w' : World} {v : Value} {bs : List UInt8} (h : Srcs w v bs) (hm : Mod none' w w') : Srcs w' v bs := by
  rcases h with h | ⟨sb, off, cap, c, tc, fr, h1, h2, h3⟩
  · exact .inl h
  · exact .inr ⟨sb, off, cap, c, tc, fr, h1, hm.some h2 (fun f => f), h3⟩
theorem Srcs.shape {w : World} {v : Value} {bs : List UInt8} (h : Srcs w v bs) : ∃ ao cap, v = .slice ao bs.length cap := by
  rcases h with ⟨rfl, ao, cap, h⟩ | ⟨sb, off, cap, c, tc, fr, h1, h2, h3⟩
  · exact ⟨ao, cap, h⟩
  · exact ⟨_, _, h1⟩

theorem wpl_copy {s x : Operand} {t e : Nat} {srcv : Value} {bs : List UInt8} (hI : elemInfo P t e 1 = true) (hs : a.eval s = .slice none 0 0) (hx : a.eval x = srcv) (hsrc : Srcs w srcv bs) (hl : bs.length ≤ 4294967295)
    (hk : ∀ v' w', Mod none' w w' → (bs = [] ∧ v' = .slice none 0 0 ∨ ∃ g, w.heap.size ≤ g ∧ g < w'.heap.size ∧ Src w' v' g bs false ∧ bs.isEmpty = false) → wpList P ops Q rest (a.put d v') w') :
    wpList P ops Q (⟨d, .call ⟨.builtin .append, #[s, x], #[t, t]⟩, ty, p, af, none⟩ :: rest) a w := by
  by_cases hb : bs = []
  · subst hb
    obtain ⟨ao, c, rfl⟩ := hsrc.shape
    obtain ⟨hu, i, z, hi, hz, h2, h3, h4, h5, h6⟩ := elemInfo_spec hI
    refine wpl_val rfl (v := .slice none 0 0) (w' := w) ?_ (hk _ w (.refl w) (.inl ⟨rfl, rfl⟩))
    cases ao <;> simp [execOp, resolve, invoke, builtin, hs, hx, Builtin.append_, run_underlying hu, sizeOf, typeInfo, hi, Builtin.lenOf, Builtin.firstCells, loadCells, loadCellsFrom]
  · obtain ⟨sb, off, cap, c, tc, fr, hv, hh, hc⟩ := hsrc.resolve_left (fun h => hb h.1)
    refine wpl_append (e := e) (sz := 1) (base := w.heap.size) (v := .slice none 0 0) (n := 0) (xs := []) (ad := ⟨sb, off, none⟩) (m := bs.length) (c := cap) (news := bs.map fun x => Value.int .u8 x.toNat) hI hs (hx.trans hv) (World.ownsRow_nil _ _ _ _) (by simp) (fun j u hu => by
      rw [Addr.add_mid, cell_of_heap hh]
      simp only [List.getElem?_map, Option.map_eq_some_iff] at hu
      obtain ⟨q, hq, rfl⟩ := hu
      obtain ⟨hj, rfl⟩ := List.getElem?_eq_some_iff.1 hq
      exact hc j hj) (fun u hu => by obtain ⟨q, _, rfl⟩ := List.mem_map.1 hu; rfl) (by omega) (Nat.le_refl _) ?_
    intro v' w' ho hm hn _
    refine hk v' w' (hm.mono fun i _ h => by simp [Value.ownBlock] at h) (.inr ?_)
    rcases ho.2 with ⟨h1, h2⟩ | ⟨g, cap', cur, h1, h2, h3, h4, h5, h6, h7⟩
    · exact (hb (List.eq_nil_of_length_eq_zero (by omega))).elim
    · refine ⟨g, h2, lt_of_block h3, ?_, by cases bs; exact (hb rfl).elim; rfl⟩
      rw [Nat.zero_add] at h1 h4 h7
      refine .inr ⟨rfl, 0, cap', cur, e, (0, 0), h1, h4, h5, h3, fun i hi => ?_⟩
      have : (cur.toList.take (bs.length * 1))[i]? = (bs.map fun x => Value.int .u8 x.toNat)[i]? := by rw [h7]; simp
      rw [List.getElem?_take, if_pos (by omega), Array.getElem?_toList] at this
      rw [Nat.zero_add, this]
      simp [hi]
end

theorem results_cellN_tmp {fn : Func} {p q : Tmp} {ty : TypeId} (h : fn.results = #[.cell p ty, .tmp q]) {P : Program} {tmps : Array Value} {w : World} {b o : Nat} {cs : List Value} {v : Value} (hp : tmps.getD p undef = .pointer (some ⟨b, o, none⟩))
    (hq : tmps.getD q undef = v) (h1 : Go.Proofs.YtadfbhmpehnkeaaDoor.many P ty cs.length = true) (hc : w.rangeAt b o cs) : (results fn tmps).run P w = .ok (.tuple #[.agg cs.toArray, v]) w := by
  obtain ⟨ds, hu, hd, hi⟩ := many_spec h1
  have hp' : tmps[p]?.getD undef = .pointer (some ⟨b, o, none⟩) := by simpa using hp
  have hq' : tmps[q]?.getD undef = v := by simpa using hq
  have := run_loadVar_mid (P := P) w b o ty cs ds hc hu hd hi
  simp [results, h, hp', hq', asAddr, this]

/-- what a door that reads and tells answers -/
def DoorC (P : Program) (f : FuncId) (flexible : Int → Bool) (ft : FT) (v1 : SV) (G : SV → List Tr) : Prop :=
  ∀ n srcv bs ev w, ErrIs w ev → (∃ tx vx, ev = .iface tx vx) → Srcs w srcv bs → bs.length ≤ 4294967295 →
    ft (IntKind.i16.wrap n) (flexible (IntKind.i16.wrap n)) (v1.1.set 0 (.num (IntKind.i16.wrap n)), v1.2) ⟨bs, bs.isEmpty, false⟩ ≠ .stuck →
    Calls P f #[.int .i64 n, srcv] w fun e w' => ∃ cs ok, e = .returned (.tuple #[.agg cs, .bool ok]) ∧ Mod none' w w' ∧ cs.size = 5 ∧ cs.all (·.oneCell') = true ∧
      match ft (IntKind.i16.wrap n) (flexible (IntKind.i16.wrap n)) (v1.1.set 0 (.num (IntKind.i16.wrap n)), v1.2) ⟨bs, bs.isEmpty, false⟩ with
      | .ok v' s' => ok = !s'.bad ∧ (ok = true → TreeR w' (From w) (from' cs 0) (.part (G v') v'.2))
      | .early => ok = false
      | .stuck => False

section
variable {P : Program} {σ : St} {fn : Func} {f fNew fSet fRF fTell : FuncId} {TI TL T i0 i1 i2 i3 i4 i5 yi y16 yb eb yE : Nat} {ts1 ts2 ts3 ts5 : Array TypeId}
  {y00 y01 y10 y11 y20 y21 y22 y23 y30 y31 y32 y33 y34 y40 y41 y42 y50 y51 y52 y53 yg : TypeId} {p00 p01 p10 p11 p20 p21 p22 p23 p30 p31 p32 p33 p34 p40 p41 p42 p50 p51 p52 p53 : String} {e00 e01 e10 e11 e20 e21 e22 e23 e30 e31 e32 e33 e34 e40 e41 e42 e50 e51 e52 e53 : Array Edge}

set_option maxHeartbeats 400000 in
theorem door_rule {flexible : Int → Bool} {ft : FT} {v1 : SV} {G : SV → List Tr} (hf : P.funcs[f]? = some fn) (hN : fn.ntmps = 20) (hres : fn.results = #[.cell 4 TI, .tmp 5]) (hT : TellT P TI TL)
    (hbody : fn.body = some (.seq (.region i0 #[⟨some 4, .alloc TI, y00, p00, e00, none⟩, ⟨some 5, .assign (.const (.bool false)), y01, p01, e01, none⟩] false)
      (.seq (.region i1 #[⟨some 7, .call ⟨.value (.func fNew), #[], ts1⟩, y10, p10, e10, none⟩, ⟨some 6, .assign (.tmp 7), y11, p11, e11, none⟩] false)
      (.seq (.region i2 #[⟨some 8, .move (.tmp 6), y20, p20, e20, none⟩, ⟨some 9, .move (.tmp 0), y21, p21, e21, none⟩, ⟨some 10, .convert yi y16 (.tmp 9), y22, p22, e22, none⟩, ⟨some 11, .call ⟨.value (.func fSet), #[.tmp 8, .tmp 10], ts2⟩, y23, p23, e23, none⟩] false)
      (.seq (.seq (.region i3 #[⟨some 12, .move (.tmp 6), y30, p30, e30, none⟩, ⟨some 13, .move (.tmp 1), y31, p31, e31, none⟩, ⟨some 14, .call ⟨.builtin .append, #[.const (.slice none 0 0), .tmp 13], #[yb, yb]⟩, y32, p32, e32, none⟩,
          ⟨some 15, .call ⟨.value (.func fRF), #[.tmp 12, .tmp 14], ts3⟩, y33, p33, e33, none⟩, ⟨some 16, .binOp .neq yE (.tmp 15) (.const .nilIface) yg, y34, p34, e34, none⟩] false)
        (.cond (.tmp 16) (.seq (.region i4 #[⟨some 17, .build TI #[], y40, p40, e40, none⟩, ⟨none, .store TI (.tmp 4) (.tmp 17), y41, p41, e41, none⟩, ⟨some 5, .assign (.const (.bool false)), y42, p42, e42, none⟩] false) .ret) .skip))
      (.seq (.region i5 #[⟨some 18, .move (.tmp 6), y50, p50, e50, none⟩, ⟨some 19, .call ⟨.value (.func fTell), #[.tmp 18], ts5⟩, y51, p51, e51, none⟩, ⟨none, .store TI (.tmp 4) (.tmp 19), y52, p52, e52, none⟩, ⟨some 5, .assign (.const (.bool true)), y53, p53, e53, none⟩] false) .ret))))))
    (hb1 : bodied P fNew = true) (hb2 : bodied P fSet = true) (hb3 : bodied P fRF = true) (hb4 : bodied P fTell = true) (hi : intTy P yi .i64 = true) (h16 : intTy P y16 .i16 = true) (hby : elemInfo P yb eb 1 = true) (hE : isIface P yE = true)
    (hNew : NewC P fNew σ v1) (hSet : SetC P fSet σ) (hRF : RFC P fRF σ flexible ft) (hTell : TellC P fTell σ G) (hv1 : 0 < v1.1.length) : DoorC P f flexible ft v1 G := by
  intro n srcv bs ev w hEr hev hsrc hbl hns
  have hgl : gErr < w.heap.size := World.block_lt_of_cell? _ _ hEr
  refine calls_of_wp hf hbody ?_
  rw [hN]
  refine wp_act (fun a : Act => Act.get a 0 = .int .i64 n ∧ Act.get a 1 = srcv ∧ a.tmps.size = 20 ∧ a.defers = []) ⟨by rw [get_nil_args _ _ _ (by simp)]; rfl, by rw [get_nil_args _ _ _ (by simp)]; rfl, by simp, rfl⟩ ?_
  rintro a ⟨a0, a1, aN, ad⟩
  -- the answer's place
  refine wp_seq (wp_region_lit (wpl_val rfl (x_alloc hT.zero) (wpl_val rfl x_assign (wpList_nil ?_))))
  have r1 := heap_alloc_new w (.cells (Value.agg #[.int .i64 0, .slice none 0 0, .bool false, .slice none 0 0, .slice none 0 0]).cells TI)
  have m1 : Mod none' w (w.alloc (.cells (Value.agg #[.int .i64 0, .slice none 0 0, .bool false, .slice none 0 0, .slice none 0 0]).cells TI)) := (Mod.refl w).alloc _
  have s1 : (w.alloc (.cells (Value.agg #[.int .i64 0, .slice none 0 0, .bool false, .slice none 0 0, .slice none 0 0]).cells TI)).heap.size = w.heap.size + 1 := by simp
  generalize w.alloc (.cells (Value.agg #[.int .i64 0, .slice none 0 0, .bool false, .slice none 0 0, .slice none 0 0]).cells TI) = w1 at *
  obtain ⟨rb, hrb⟩ : ∃ rb, rb = w.heap.size := ⟨_, rfl⟩
  rw [← hrb] at r1 s1 ⊢
  replace r1 : w1.heap[rb]? = some (.cells #[.int .i64 0, .slice none 0 0, .bool false, .slice none 0 0, .slice none 0 0] TI (0, 0)) := r1
  -- a new message
  refine wp_seq (wp_region_lit (wpl_call rfl (x_callf hb1 rfl) (R := fun e w' => e = .returned (.pointer (some ⟨w1.heap.size, 0, none⟩)) ∧ Mod none' w1 w' ∧ w1.heap.size < w'.heap.size ∧ Cur σ none' w1.heap.size 0 v1 w') (by simpa using hNew w1) ?_))
  rintro e w2 ⟨rfl, m2, s2, c2⟩
  refine ⟨_, rfl, wpl_val rfl x_assign (wpList_nil ?_)⟩
  obtain ⟨vb, hvb⟩ : ∃ vb, vb = w1.heap.size := ⟨_, rfl⟩
  rw [← hvb] at c2 ⊢
  -- its version
  have hfit : fits .i16 (IntKind.i16.wrap n) := fits_wrap _ _
  refine wp_seq (wp_region_lit (wpl_val rfl x_move (wpl_val rfl x_move (wpl_val rfl (x_convInt (n := n) hi h16 ?_) (wpl_call rfl (x_callf hb2 rfl) (R := fun e w' => ∃ r, e = .returned r ∧ Mod (only vb) w2 w' ∧ Cur σ none' vb 0 (v1.1.set 0 (.num (IntKind.i16.wrap n)), v1.2) w') ?_ ?_)))))
  · simp (disch := (first | omega | (simp only [Act.size_put]; omega))) only [Act.put_none, eval_tmp, Act.get_put_ne, Act.get_put_eq, a0]
  · have e0 : ∀ a : Act, Act.get a 8 = .pointer (some ⟨vb, 0, none⟩) → Act.get a 10 = .int .i16 (IntKind.i16.wrap n) → (#[Operand.tmp 8, .tmp 10] : Array Operand).map a.eval = #[.pointer (some ⟨vb, 0, none⟩), .int .i16 (IntKind.i16.wrap n)] := fun a h h' => by simp [eval_tmp, h, h']
    rw [e0 _ ?_ ?_]
    · exact hSet vb v1 _ w2 hfit c2
    · simp (disch := (first | omega | (simp only [Act.size_put]; omega))) only [Act.put_none, eval_tmp, Act.get_put_ne, Act.get_put_eq]
    · simp (disch := (first | omega | (simp only [Act.size_put]; omega))) only [Act.put_none, eval_tmp, Act.get_put_ne, Act.get_put_eq]
  rintro e w3 ⟨r3, rfl, m3, c3⟩
  refine ⟨r3, rfl, wpList_nil ?_⟩
  have m03 : Mod none' w w3 := (m1.trans m2).trans' m3 (fun _ _ f => f) (fun i hi e => by have : i = vb := e; omega)
  refine wp_act (fun a : Act => Act.get a 1 = srcv ∧ Act.get a 4 = .pointer (some ⟨rb, 0, none⟩) ∧ Act.get a 6 = .pointer (some ⟨vb, 0, none⟩) ∧ a.tmps.size = 20 ∧ a.defers = []) ⟨?_, ?_, ?_, ?_, ?_⟩ ?_
  · simp (disch := (first | omega | (simp only [Act.size_put]; omega))) only [Act.put_none, eval_tmp, Act.get_put_ne, Act.get_put_eq, a1]
  · simp (disch := (first | omega | (simp only [Act.size_put]; omega))) only [Act.put_none, eval_tmp, Act.get_put_ne, Act.get_put_eq]
  · simp (disch := (first | omega | (simp only [Act.size_put]; omega))) only [Act.put_none, eval_tmp, Act.get_put_ne, Act.get_put_eq]
  · simp only [Act.size_put]; exact aN
  · simp only [Act.defers_put]; exact ad
  clear a0 a1 aN ad
  rintro a ⟨a1, a4, a6, aN, ad⟩
  -- it is read
  have hsrc3 : Srcs w3 srcv bs := hsrc.mod m03
  refine wp_seq (wp_seq (wp_region_lit (wpl_val rfl x_move (wpl_val rfl x_move (wpl_copy hby rfl ?_ hsrc3 hbl ?_)))))
  · simp (disch := (first | omega | (simp only [Act.size_put]; omega))) only [Act.put_none, eval_tmp, Act.get_put_ne, Act.get_put_eq, a1]
  intro v4 w4 m4 h4
  have hvb3 : vb < w3.heap.size := by have := m3.size; omega
  obtain ⟨sb4, hsb4, hsb4', hs4⟩ : ∃ sb4, sb4 < w4.heap.size ∧ vb ≠ sb4 ∧ Src w4 v4 sb4 bs bs.isEmpty := by
    have := m03.size
    have := m4.size
    rcases h4 with ⟨rfl, rfl⟩ | ⟨g, g1, g2, g3, g4⟩
    · exact ⟨gErr, by omega, by omega, .inl ⟨rfl, rfl, rfl⟩⟩
    · exact ⟨g, g2, by omega, by rw [g4]; exact g3⟩
  have hE4 : ErrIs w4 ev := (hEr.mod m03 (fun f => f)).mod m4 (fun f => f)
  have c4 : Cur σ none' vb 0 (v1.1.set 0 (.num (IntKind.i16.wrap n)), v1.2) w4 := c3.later m4 (fun f => f) (fun _ f => f.elim)
  have m04 : Mod none' w w4 := m03.trans m4
  refine wpl_call rfl (x_callf hb3 rfl) (R := fun e w' => ∃ r, e = .returned r ∧ Mod (only vb) w4 w' ∧ match ft (IntKind.i16.wrap n) (flexible (IntKind.i16.wrap n)) (v1.1.set 0 (.num (IntKind.i16.wrap n)), v1.2) ⟨bs, bs.isEmpty, false⟩ with
      | .ok v' s' => r = endErr ev s'.bad ∧ Cur σ (fun k => k = sb4 ∨ w4.heap.size ≤ k) vb 0 v' w'
      | .early => r = ev
      | .stuck => False) ?_ ?_
  · have e0 : ∀ a : Act, Act.get a 12 = .pointer (some ⟨vb, 0, none⟩) → Act.get a 14 = v4 → (#[Operand.tmp 12, .tmp 14] : Array Operand).map a.eval = #[.pointer (some ⟨vb, 0, none⟩), v4] := fun a h h' => by simp [eval_tmp, h, h']
    rw [e0 _ ?_ ?_]
    · exact hRF vb _ _ v4 sb4 bs _ ev w4 hE4 (by omega) hsb4' hsb4 c4 (by simp [hv1]) hs4 hns
    · simp (disch := (first | omega | (simp only [Act.size_put]; omega))) only [Act.put_none, eval_tmp, Act.get_put_ne, Act.get_put_eq, a6]
    · simp (disch := (first | omega | (simp only [Act.size_put]; omega))) only [Act.put_none, eval_tmp, Act.get_put_ne, Act.get_put_eq]
  rintro e w5 ⟨r5, rfl, m5, h5⟩
  refine ⟨r5, rfl, ?_⟩
  have m05 : Mod none' w w5 := m04.trans' m5 (fun _ _ f => f) (fun i hi e => by have : i = vb := e; omega)
  have hr5 : w5.heap[rb]? = some (.cells #[.int .i64 0, .slice none 0 0, .bool false, .slice none 0 0, .slice none 0 0] TI (0, 0)) :=
    m5.some (m4.some (m3.some (m2.some r1 (fun f => f)) (fun e => by have : rb = vb := e; omega)) (fun f => f)) (fun e => by have : rb = vb := e; omega)
  obtain ⟨isbad, hisbad⟩ : ∃ bad : Bool, (bad = true ∧ r5 = ev ∨ bad = false ∧ r5 = .nilIface) ∧ (match ft (IntKind.i16.wrap n) (flexible (IntKind.i16.wrap n)) (v1.1.set 0 (.num (IntKind.i16.wrap n)), v1.2) ⟨bs, bs.isEmpty, false⟩ with
      | .ok v' s' => bad = s'.bad ∧ Cur σ (fun k => k = sb4 ∨ w4.heap.size ≤ k) vb 0 v' w5
      | .early => bad = true
      | .stuck => False) := by
    revert h5
    cases ft (IntKind.i16.wrap n) (flexible (IntKind.i16.wrap n)) (v1.1.set 0 (.num (IntKind.i16.wrap n)), v1.2) ⟨bs, bs.isEmpty, false⟩ with
    | ok v' s' =>
      rintro ⟨h1, h2⟩
      refine ⟨s'.bad, ?_, rfl, h2⟩
      cases hb : s'.bad
      · exact .inr ⟨rfl, by rw [h1, hb]; rfl⟩
      · exact .inl ⟨rfl, by rw [h1, hb]; rfl⟩
    | early => intro h; exact ⟨true, .inl ⟨rfl, h⟩, rfl⟩
    | stuck => intro h; exact h.elim
  obtain ⟨hbad, hout⟩ := hisbad
  obtain ⟨tx, vx, hevv⟩ := hev
  refine wpl_val rfl (x_neqNil (v := r5) (b := isbad) hE (fun _ => rfl) ?_ ?_) (wpList_nil ?_)
  · rw [eval_tmp, Act.get_put_eq (by simp only [Act.size_put]; omega)]
  · rcases hbad with ⟨h1, h2⟩ | ⟨h1, h2⟩
    · exact .inl ⟨h1, tx, vx, h2.trans hevv⟩
    · exact .inr ⟨h1, h2⟩
  cases isbad with
  | true =>
    refine wp_cond_true ?_ ?_
    · rw [eval_tmp, Act.get_put_eq (by simp only [Act.size_put]; omega)]
    refine wp_seq (wp_region_lit ?_)
    refine wpl_val rfl (x_build (cells := #[.int .i64 0, .slice none 0 0, .bool false, .slice none 0 0, .slice none 0 0]) ?_) ?_
    · simp only [List.map_toArray, List.map_nil]
      rw [built_of hT.parts]
      rfl
    refine wpl_skip rfl (x_storeN (cs := #[.int .i64 0, .slice none 0 0, .bool false, .slice none 0 0, .slice none 0 0]) (b := rb) (o := 0) hT.size ?_ ?_ (by simp [Value.oneCell']) ?_) (wpl_val rfl x_assign (wpList_nil ?_))
    · simp (disch := (first | omega | (simp only [Act.size_put]; omega))) only [Act.put_none, eval_tmp, Act.get_put_ne, Act.get_put_eq, a4]
    · simp (disch := (first | omega | (simp only [Act.size_put]; omega))) only [Act.put_none, eval_tmp, Act.get_put_ne, Act.get_put_eq]
    · intro j hj
      simp at hj
      rw [cell_of_heap hr5, frozen_of_heap hr5, Array.getElem?_eq_getElem (by simpa using hj)]
      exact ⟨rfl, rfl⟩
    obtain ⟨C3, k1, k2, k3, k4⟩ := heap_setCells (w := w5) [.int .i64 0, .slice none 0 0, .bool false, .slice none 0 0, .slice none 0 0] 0 _ hr5
    have hC3 : C3 = #[.int .i64 0, .slice none 0 0, .bool false, .slice none 0 0, .slice none 0 0] := by
      apply Array.ext
      · exact k2
      · intro i h1 h2
        have hi : i < 5 := by simpa using h2
        have := k3 i (by simpa using hi) (by simpa using hi)
        rw [Nat.zero_add, Array.getElem?_eq_getElem h1] at this
        simpa using this
    subst hC3
    have hm6 := mod_setCells rb w5 0 [.int .i64 0, .slice none 0 0, .bool false, .slice none 0 0, .slice none 0 0]
    refine wp_act (c := .ret) (fun a : Act => a.tmps.getD 4 undef = .pointer (some ⟨rb, 0, none⟩) ∧ a.tmps.getD 5 undef = .bool false ∧ a.defers = []) ⟨?_, ?_, ?_⟩ ?_
    · rw [show ∀ (a : Act) t, a.tmps.getD t undef = Act.get a t from fun _ _ => rfl]
      simp (disch := (first | omega | (simp only [Act.size_put]; omega))) only [Act.put_none, eval_tmp, Act.get_put_ne, Act.get_put_eq, a4]
    · rw [show ∀ (a : Act) t, a.tmps.getD t undef = Act.get a t from fun _ _ => rfl]
      simp (disch := (first | omega | (simp only [Act.size_put]; omega))) only [Act.put_none, eval_tmp, Act.get_put_ne, Act.get_put_eq]
      rfl
    · simp only [Act.defers_put]; exact ad
    rintro a9 ⟨z4, z5, zd⟩
    refine wp_ret ?_
    try simp only [Exit.then]
    refine bodyPost_ret (v := .tuple #[.agg #[.int .i64 0, .slice none 0 0, .bool false, .slice none 0 0, .slice none 0 0], .bool false]) (results_cellN_tmp hres (b := rb) (o := 0) (cs := [.int .i64 0, .slice none 0 0, .bool false, .slice none 0 0, .slice none 0 0]) (v := .bool false) z4 z5 hT.many (fun j v hv => by rw [cell_of_heap k1, Nat.zero_add]; simpa using hv)) zd ⟨#[.int .i64 0, .slice none 0 0, .bool false, .slice none 0 0, .slice none 0 0], false, rfl, m05.trans' hm6 (fun _ _ f => f) (fun j hj e => by have : j = rb := e; omega), rfl, by simp [Value.oneCell'], ?_⟩
    · revert hout
      cases ft (IntKind.i16.wrap n) (flexible (IntKind.i16.wrap n)) (v1.1.set 0 (.num (IntKind.i16.wrap n)), v1.2) ⟨bs, bs.isEmpty, false⟩ with
      | ok v' s' => rintro ⟨h1, h2⟩; exact ⟨by rw [← h1]; rfl, fun h => by cases h⟩
      | early => intro _; rfl
      | stuck => intro h; exact h.elim
  | false =>
    refine wp_cond_false ?_ (wp_skip ?_)
    · rw [eval_tmp, Act.get_put_eq (by simp only [Act.size_put]; omega)]
    obtain ⟨v', s', hft, hs', hc5⟩ : ∃ v' s', ft (IntKind.i16.wrap n) (flexible (IntKind.i16.wrap n)) (v1.1.set 0 (.num (IntKind.i16.wrap n)), v1.2) ⟨bs, bs.isEmpty, false⟩ = .ok v' s' ∧ s'.bad = false ∧ Cur σ (fun k => k = sb4 ∨ w4.heap.size ≤ k) vb 0 v' w5 := by
      revert hout
      cases ft (IntKind.i16.wrap n) (flexible (IntKind.i16.wrap n)) (v1.1.set 0 (.num (IntKind.i16.wrap n)), v1.2) ⟨bs, bs.isEmpty, false⟩ with
      | ok v' s' => rintro ⟨h1, h2⟩; exact ⟨v', s', rfl, h1.symm, h2⟩
      | early => intro h; cases h
      | stuck => intro h; exact h.elim
    refine wp_seq (wp_region_lit (wpl_val rfl x_move (wpl_call rfl (x_callf hb4 rfl) (R := fun e w' => ∃ r, e = .returned r ∧ Mod none' w5 w' ∧ TreeV w' (From w5) r (.part (G v') v'.2)) ?_ ?_)))
    · have e0 : ∀ a : Act, Act.get a 18 = .pointer (some ⟨vb, 0, none⟩) → (#[Operand.tmp 18] : Array Operand).map a.eval = #[.pointer (some ⟨vb, 0, none⟩)] := fun a h => by simp [eval_tmp, h]
      rw [e0 _ ?_]
      · exact hTell vb 0 v' _ w5 hc5
      · simp (disch := (first | omega | (simp only [Act.size_put]; omega))) only [Act.put_none, eval_tmp, Act.get_put_ne, Act.get_put_eq, a6]
    rintro e w6 ⟨r6, rfl, m6, cs, rfl, q2, q3, q4⟩
    refine ⟨_, rfl, ?_⟩
    have hr6 := m6.some hr5 (fun f => f)
    refine wpl_skip rfl (x_storeN (cs := cs) (b := rb) (o := 0) (by rw [q2]; exact hT.size) ?_ ?_ q3 ?_) (wpl_val rfl x_assign (wpList_nil ?_))
    · simp (disch := (first | omega | (simp only [Act.size_put]; omega))) only [Act.put_none, eval_tmp, Act.get_put_ne, Act.get_put_eq, a4]
    · simp (disch := (first | omega | (simp only [Act.size_put]; omega))) only [Act.put_none, eval_tmp, Act.get_put_ne, Act.get_put_eq]
    · intro j hj
      rw [cell_of_heap hr6, frozen_of_heap hr6, Array.getElem?_eq_getElem (by simp; omega)]
      exact ⟨rfl, rfl⟩
    obtain ⟨C3, k1, k2, k3, k4⟩ := heap_setCells (w := w6) cs.toList 0 _ hr6
    have hC3 : C3 = cs := by
      apply Array.ext
      · rw [k2, q2]; rfl
      · intro i h1 h2
        have := k3 i (by simpa using h2) (by simp; omega)
        rw [Nat.zero_add, Array.getElem?_eq_getElem h1] at this
        simpa [h2] using this
    subst hC3
    have hm7 := mod_setCells rb w6 0 C3.toList
    have hmm : Mod none' w (w6.setCells rb 0 C3.toList) := (m05.trans m6).trans' hm7 (fun _ _ f => f) (fun j hj e => by have : j = rb := e; omega)
    refine wp_act (c := .ret) (fun a : Act => a.tmps.getD 4 undef = .pointer (some ⟨rb, 0, none⟩) ∧ a.tmps.getD 5 undef = .bool true ∧ a.defers = []) ⟨?_, ?_, ?_⟩ ?_
    · rw [show ∀ (a : Act) t, a.tmps.getD t undef = Act.get a t from fun _ _ => rfl]
      simp (disch := (first | omega | (simp only [Act.size_put]; omega))) only [Act.put_none, eval_tmp, Act.get_put_ne, Act.get_put_eq, a4]
    · rw [show ∀ (a : Act) t, a.tmps.getD t undef = Act.get a t from fun _ _ => rfl]
      simp (disch := (first | omega | (simp only [Act.size_put]; omega))) only [Act.put_none, eval_tmp, Act.get_put_ne, Act.get_put_eq]
      rfl
    · simp only [Act.defers_put]; exact ad
    rintro a9 ⟨z4, z5, zd⟩
    refine wp_ret ?_
    try simp only [Exit.then]
    refine bodyPost_ret (v := .tuple #[.agg C3, .bool true]) (results_cellN_tmp hres (b := rb) (o := 0) (cs := C3.toList) (v := .bool true) z4 z5 (by rw [Array.length_toList, q2]; exact hT.many) (fun j v hv => by rw [cell_of_heap k1, Nat.zero_add]; simpa using hv)) zd ⟨C3, true, rfl, hmm, q2, q3, ?_⟩
    · rw [hft]
      refine ⟨by rw [hs']; rfl, fun _ => ?_⟩
      have hsz := m05.size
      have hsz5 : rb < w5.heap.size := lt_of_block hr5
      have := q4.mod hm7 (F' := From w) (fun k hk e => by have h1 : k = rb := e; have h2 : w5.heap.size ≤ k := hk; omega) (fun k hk => by have h2 : w5.heap.size ≤ k := hk; show w.heap.size ≤ k; omega)
      exact this
end
end Go.Proofs.YtadfbhmpehnkeaaDoor
