/-
  The doors Default..: a new message is read, set to its default, and told. Printed by gen_dd.py.
-/
import Derived.Test.YtpecdnfmlodmaaaGreatDoorRPDoor
set_option linter.unusedSimpArgs false
set_option linter.unusedVariables false
namespace Go.Proofs.YtpecdnfmlodmaaaGreatDoorR
open Go Go.RowKit
section
variable {P : Program} {σ : St} {fn : Func} {f fNew fSet fRF fTell fd : FuncId} {TI TL T i0 i1 i2 i3 i4 i5 i6 yi y16 yb eb yE : Nat} {ts1 ts2 ts3 ts5 ts6 : Array TypeId}
 {y00 y01 y10 y11 y20 y21 y22 y23 y30 y31 y32 y33 y34 y40 y41 y42 y50 y51 y52 y53 y60 y61 yg : TypeId} {p00 p01 p10 p11 p20 p21 p22 p23 p30 p31 p32 p33 p34 p40 p41 p42 p50 p51 p52 p53 p60 p61 : String} {e00 e01 e10 e11 e20 e21 e22 e23 e30 e31 e32 e33 e34 e40 e41 e42 e50 e51 e52 e53 e60 e61 : Array Edge}
set_option maxHeartbeats 400000 in
theorem doord_rule {flexible : Int -> Bool} {ft : FT} {v1 : SV} {G : SV -> List Tr} {d : SV -> SV} (hf : P.funcs[f]? = some fn) (hN : fn.ntmps = 22) (hres : fn.results = #[.cell 4 TI, .tmp 5]) (hT : TellT P TI TL)
  (hbody : fn.body = some (.seq (.region i0 #[⟨some 4, .alloc TI, y00, p00, e00, none⟩, ⟨some 5, .assign (.const (.bool false)), y01, p01, e01, none⟩] false)
   (.seq (.region i1 #[⟨some 7, .call ⟨.value (.func fNew), #[], ts1⟩, y10, p10, e10, none⟩, ⟨some 6, .assign (.tmp 7), y11, p11, e11, none⟩] false)
   (.seq (.region i2 #[⟨some 8, .move (.tmp 6), y20, p20, e20, none⟩, ⟨some 9, .move (.tmp 0), y21, p21, e21, none⟩, ⟨some 10, .convert yi y16 (.tmp 9), y22, p22, e22, none⟩, ⟨some 11, .call ⟨.value (.func fSet), #[.tmp 8, .tmp 10], ts2⟩, y23, p23, e23, none⟩] false)
   (.seq (.seq (.region i3 #[⟨some 12, .move (.tmp 6), y30, p30, e30, none⟩, ⟨some 13, .move (.tmp 1), y31, p31, e31, none⟩, ⟨some 14, .call ⟨.builtin .append, #[.const (.slice none 0 0), .tmp 13], #[yb, yb]⟩, y32, p32, e32, none⟩,
     ⟨some 15, .call ⟨.value (.func fRF), #[.tmp 12, .tmp 14], ts3⟩, y33, p33, e33, none⟩, ⟨some 16, .binOp .neq yE (.tmp 15) (.const .nilIface) yg, y34, p34, e34, none⟩] false)
    (.cond (.tmp 16) (.seq (.region i4 #[⟨some 17, .build TI #[], y40, p40, e40, none⟩, ⟨none, .store TI (.tmp 4) (.tmp 17), y41, p41, e41, none⟩, ⟨some 5, .assign (.const (.bool false)), y42, p42, e42, none⟩] false) .ret) .skip))
   (.seq (.region i6 #[⟨some 18, .move (.tmp 6), y60, p60, e60, none⟩, ⟨some 19, .call ⟨.value (.func fd), #[.tmp 18], ts6⟩, y61, p61, e61, none⟩] false)
   (.seq (.region i5 #[⟨some 20, .move (.tmp 6), y50, p50, e50, none⟩, ⟨some 21, .call ⟨.value (.func fTell), #[.tmp 20], ts5⟩, y51, p51, e51, none⟩, ⟨none, .store TI (.tmp 4) (.tmp 21), y52, p52, e52, none⟩, ⟨some 5, .assign (.const (.bool true)), y53, p53, e53, none⟩] false) .ret)))))))
  (hb1 : bodied P fNew = true) (hb2 : bodied P fSet = true) (hb3 : bodied P fRF = true) (hb4 : bodied P fTell = true) (hb5 : bodied P fd = true) (hi : intTy P yi .i64 = true) (h16 : intTy P y16 .i16 = true) (hby : elemInfo P yb eb 1 = true) (hE : isIface P yE = true)
  (hNew : NewC P fNew σ v1) (hSet : SetC P fSet σ) (hRF : RFC P fRF σ flexible ft) (hTell : TellC P fTell σ G) (hD : DfC P fd σ d) (hd2 : ∀ v, (d v).2 = v.2) (hv1 : 0 < v1.1.length) : DoorC P f flexible ft v1 (fun v => G (d v)) := by
 intro n srcv bs ev w hEr hev hsrc hbl hns
 have hgl : gErr < w.heap.size := World.block_lt_of_cell? _ _ hEr
 refine calls_of_wp hf hbody ?_
 rw [hN]
 refine wp_act (fun a : Act => Act.get a 0 = .int .i64 n /\ Act.get a 1 = srcv /\ a.tmps.size = 22 /\ a.defers = []) ⟨by rw [Zj _ _ _ (by simp)]; rfl, by rw [Zj _ _ _ (by simp)]; rfl, by simp, rfl⟩ ?_
 rintro a ⟨a0, a1, aN, ad⟩
 -- the answer's place
 refine wp_seq (wp_region_lit (Zv rfl (x_alloc hT.zero) (Zv rfl Zi (wpList_nil ?_))))
 have r1 := Zh w (.cells (Value.agg #[.int .i64 0, .slice none 0 0, .bool false, .slice none 0 0, .slice none 0 0]).cells TI)
 have m1 : Mod none' w (w.alloc (.cells (Value.agg #[.int .i64 0, .slice none 0 0, .bool false, .slice none 0 0, .slice none 0 0]).cells TI)) := (Mod.refl w).alloc _
 have s1 : (w.alloc (.cells (Value.agg #[.int .i64 0, .slice none 0 0, .bool false, .slice none 0 0, .slice none 0 0]).cells TI)).heap.size = w.heap.size + 1 := by simp
 generalize w.alloc (.cells (Value.agg #[.int .i64 0, .slice none 0 0, .bool false, .slice none 0 0, .slice none 0 0]).cells TI) = w1 at *
 obtain ⟨rb, hrb⟩ : ∃ rb, rb = w.heap.size := ⟨_, rfl⟩
 rw [<- hrb] at r1 s1 ⊢
 replace r1 : w1.heap[rb]? = some (.cells #[.int .i64 0, .slice none 0 0, .bool false, .slice none 0 0, .slice none 0 0] TI (0, 0)) := r1
 -- a new message
 refine wp_seq (wp_region_lit (wpl_call rfl (Zy hb1 rfl) (R := fun e w' => e = .returned (.pointer (some ⟨w1.heap.size, 0, none⟩)) /\ Mod none' w1 w' /\ w1.heap.size < w'.heap.size /\ Cur σ none' w1.heap.size 0 v1 w') (by simpa using hNew w1) ?_))
 rintro e w2 ⟨rfl, m2, s2, c2⟩
 refine ⟨_, rfl, Zv rfl Zi (wpList_nil ?_)⟩
 obtain ⟨vb, hvb⟩ : ∃ vb, vb = w1.heap.size := ⟨_, rfl⟩
 rw [<- hvb] at c2 ⊢
 -- its version
 have hfit : fits .i16 (IntKind.i16.wrap n) := fits_wrap _ _
 refine wp_seq (wp_region_lit (Zv rfl Zm (Zv rfl Zm (Zv rfl (x_convInt (n := n) hi h16 ?_) (wpl_call rfl (Zy hb2 rfl) (R := fun e w' => ∃ r, e = .returned r /\ Mod (only vb) w2 w' /\ Cur σ none' vb 0 (v1.1.set 0 (.num (IntKind.i16.wrap n)), v1.2) w') ?_ ?_)))))
 ·simp (disch := first | omega | simp only [Zs]; omega) only [Zo, Ze, Zn, Zq, a0]
 ·have e0 : ∀ a : Act, Act.get a 8 = .pointer (some ⟨vb, 0, none⟩) -> Act.get a 10 = .int .i16 (IntKind.i16.wrap n) -> (#[Operand.tmp 8, .tmp 10] : Array Operand).map a.eval = #[.pointer (some ⟨vb, 0, none⟩), .int .i16 (IntKind.i16.wrap n)] := fun a h h' => by simp [Ze, h, h']
  rw [e0 _ ?_ ?_]
  ·exact hSet vb v1 _ w2 hfit c2
  ·simp (disch := first | omega | simp only [Zs]; omega) only [Zo, Ze, Zn, Zq]
  ·simp (disch := first | omega | simp only [Zs]; omega) only [Zo, Ze, Zn, Zq]
 rintro e w3 ⟨r3, rfl, m3, c3⟩
 refine ⟨r3, rfl, wpList_nil ?_⟩
 have m03 : Mod none' w w3 := (m1.trans m2).trans' m3 (fun _ _ f => f) (fun i hi e => by have : i = vb := e; omega)
 refine wp_act (fun a : Act => Act.get a 1 = srcv /\ Act.get a 4 = .pointer (some ⟨rb, 0, none⟩) /\ Act.get a 6 = .pointer (some ⟨vb, 0, none⟩) /\ a.tmps.size = 22 /\ a.defers = []) ⟨?_, ?_, ?_, ?_, ?_⟩ ?_
 ·simp (disch := first | omega | simp only [Zs]; omega) only [Zo, Ze, Zn, Zq, a1]
 ·simp (disch := first | omega | simp only [Zs]; omega) only [Zo, Ze, Zn, Zq]
 ·simp (disch := first | omega | simp only [Zs]; omega) only [Zo, Ze, Zn, Zq]
 ·simp only [Zs]; exact aN
 ·simp only [Zd]; exact ad
 clear a0 a1 aN ad
 rintro a ⟨a1, a4, a6, aN, ad⟩
 -- it is read
 have hsrc3 : Srcs w3 srcv bs := hsrc.mod m03
 refine wp_seq (wp_seq (wp_region_lit (Zv rfl Zm (Zv rfl Zm (wpl_copy hby rfl ?_ hsrc3 hbl ?_)))))
 ·simp (disch := first | omega | simp only [Zs]; omega) only [Zo, Ze, Zn, Zq, a1]
 intro v4 w4 m4 h4
 have hvb3 : vb < w3.heap.size := by have := m3.size; omega
 obtain ⟨sb4, hsb4, hsb4', hs4⟩ : ∃ sb4, sb4 < w4.heap.size /\ vb ≠ sb4 /\ Src w4 v4 sb4 bs bs.isEmpty := by
  have := m03.size
  have := m4.size
  rcases h4 with ⟨rfl, rfl⟩ | ⟨g, g1, g2, g3, g4⟩
  ·exact ⟨gErr, by omega, by omega, .inl ⟨rfl, rfl, rfl⟩⟩
  ·exact ⟨g, g2, by omega, by rw [g4]; exact g3⟩
 have hE4 : ErrIs w4 ev := (hEr.mod m03 (fun f => f)).mod m4 (fun f => f)
 have c4 : Cur σ none' vb 0 (v1.1.set 0 (.num (IntKind.i16.wrap n)), v1.2) w4 := c3.later m4 (fun f => f) (fun _ f => f.elim)
 have m04 : Mod none' w w4 := m03.trans m4
 refine wpl_call rfl (Zy hb3 rfl) (R := fun e w' => ∃ r, e = .returned r /\ Mod (only vb) w4 w' /\ match ft (IntKind.i16.wrap n) (flexible (IntKind.i16.wrap n)) (v1.1.set 0 (.num (IntKind.i16.wrap n)), v1.2) ⟨bs, bs.isEmpty, false⟩ with
   | .ok v' s' => r = endErr ev s'.bad /\ Cur σ (fun k => k = sb4 \/ w4.heap.size <= k) vb 0 v' w'
   | .early => r = ev
   | .stuck => False) ?_ ?_
 ·have e0 : ∀ a : Act, Act.get a 12 = .pointer (some ⟨vb, 0, none⟩) -> Act.get a 14 = v4 -> (#[Operand.tmp 12, .tmp 14] : Array Operand).map a.eval = #[.pointer (some ⟨vb, 0, none⟩), v4] := fun a h h' => by simp [Ze, h, h']
  rw [e0 _ ?_ ?_]
  ·exact hRF vb _ _ v4 sb4 bs _ ev w4 hE4 (by omega) hsb4' hsb4 c4 (by simp [hv1]) hs4 hns
  ·simp (disch := first | omega | simp only [Zs]; omega) only [Zo, Ze, Zn, Zq, a6]
  ·simp (disch := first | omega | simp only [Zs]; omega) only [Zo, Ze, Zn, Zq]
 rintro e w5 ⟨r5, rfl, m5, h5⟩
 refine ⟨r5, rfl, ?_⟩
 have m05 : Mod none' w w5 := m04.trans' m5 (fun _ _ f => f) (fun i hi e => by have : i = vb := e; omega)
 have hr5 : w5.heap[rb]? = some (.cells #[.int .i64 0, .slice none 0 0, .bool false, .slice none 0 0, .slice none 0 0] TI (0, 0)) :=
  m5.some (m4.some (m3.some (m2.some r1 (fun f => f)) (fun e => by have : rb = vb := e; omega)) (fun f => f)) (fun e => by have : rb = vb := e; omega)
 obtain ⟨isbad, hisbad⟩ : ∃ bad : Bool, (bad = true /\ r5 = ev \/ bad = false /\ r5 = .nilIface) /\ (match ft (IntKind.i16.wrap n) (flexible (IntKind.i16.wrap n)) (v1.1.set 0 (.num (IntKind.i16.wrap n)), v1.2) ⟨bs, bs.isEmpty, false⟩ with
   | .ok v' s' => bad = s'.bad /\ Cur σ (fun k => k = sb4 \/ w4.heap.size <= k) vb 0 v' w5
   | .early => bad = true
   | .stuck => False) := by
  revert h5
  cases ft (IntKind.i16.wrap n) (flexible (IntKind.i16.wrap n)) (v1.1.set 0 (.num (IntKind.i16.wrap n)), v1.2) ⟨bs, bs.isEmpty, false⟩ with
  | ok v' s' =>
   rintro ⟨h1, h2⟩
   refine ⟨s'.bad, ?_, rfl, h2⟩
   cases hb : s'.bad
   ·exact .inr ⟨rfl, by rw [h1, hb]; rfl⟩
   ·exact .inl ⟨rfl, by rw [h1, hb]; rfl⟩
  | early => intro h; exact ⟨true, .inl ⟨rfl, h⟩, rfl⟩
  | stuck => intro h; exact h.elim
 obtain ⟨hbad, hout⟩ := hisbad
 obtain ⟨tx, vx, hevv⟩ := hev
 refine Zv rfl (x_neqNil (v := r5) (b := isbad) hE (fun _ => rfl) ?_ ?_) (wpList_nil ?_)
 ·rw [Ze, Zq (by simp only [Zs]; omega)]
 ·rcases hbad with ⟨h1, h2⟩ | ⟨h1, h2⟩
  ·exact .inl ⟨h1, tx, vx, h2.trans hevv⟩
  ·exact .inr ⟨h1, h2⟩
 cases isbad with
 | true =>
  refine wp_cond_true ?_ ?_
  ·rw [Ze, Zq (by simp only [Zs]; omega)]
  refine wp_seq (wp_region_lit ?_)
  refine Zv rfl (x_build (cells := #[.int .i64 0, .slice none 0 0, .bool false, .slice none 0 0, .slice none 0 0]) ?_) ?_
  ·simp only [List.map_toArray, List.map_nil]
   rw [built_of hT.parts]
   rfl
  refine wpl_skip rfl (x_storeN (cs := #[.int .i64 0, .slice none 0 0, .bool false, .slice none 0 0, .slice none 0 0]) (b := rb) (o := 0) hT.size ?_ ?_ (by simp [Value.oneCell']) ?_) (Zv rfl Zi (wpList_nil ?_))
  ·simp (disch := first | omega | simp only [Zs]; omega) only [Zo, Ze, Zn, Zq, a4]
  ·simp (disch := first | omega | simp only [Zs]; omega) only [Zo, Ze, Zn, Zq]
  ·intro j hj
   simp at hj
   rw [Zc hr5, Zz hr5, Array.getElem?_eq_getElem (by simpa using hj)]
   exact ⟨rfl, rfl⟩
  obtain ⟨C3, k1, k2, k3, k4⟩ := heap_setCells (w := w5) [.int .i64 0, .slice none 0 0, .bool false, .slice none 0 0, .slice none 0 0] 0 _ hr5
  have hC3 : C3 = #[.int .i64 0, .slice none 0 0, .bool false, .slice none 0 0, .slice none 0 0] := by
   apply Array.ext
   ·exact k2
   ·intro i h1 h2
    have hi : i < 5 := by simpa using h2
    have := k3 i (by simpa using hi) (by simpa using hi)
    rw [Nat.zero_add, Array.getElem?_eq_getElem h1] at this
    simpa using this
  subst hC3
  have hm6 := mod_setCells rb w5 0 [.int .i64 0, .slice none 0 0, .bool false, .slice none 0 0, .slice none 0 0]
  refine wp_act (c := .ret) (fun a : Act => a.tmps.getD 4 undef = .pointer (some ⟨rb, 0, none⟩) /\ a.tmps.getD 5 undef = .bool false /\ a.defers = []) ⟨?_, ?_, ?_⟩ ?_
  ·rw [show ∀ (a : Act) t, a.tmps.getD t undef = Act.get a t from fun _ _ => rfl]
   simp (disch := first | omega | simp only [Zs]; omega) only [Zo, Ze, Zn, Zq, a4]
  ·rw [show ∀ (a : Act) t, a.tmps.getD t undef = Act.get a t from fun _ _ => rfl]
   simp (disch := first | omega | simp only [Zs]; omega) only [Zo, Ze, Zn, Zq]
   rfl
  ·simp only [Zd]; exact ad
  rintro a9 ⟨z4, z5, zd⟩
  refine wp_ret ?_
  try simp only [Exit.then]
  refine bodyPost_ret (v := .tuple #[.agg #[.int .i64 0, .slice none 0 0, .bool false, .slice none 0 0, .slice none 0 0], .bool false]) (results_cellN_tmp hres (b := rb) (o := 0) (cs := [.int .i64 0, .slice none 0 0, .bool false, .slice none 0 0, .slice none 0 0]) (v := .bool false) z4 z5 hT.many (fun j v hv => by rw [Zc k1, Nat.zero_add]; simpa using hv)) zd ⟨#[.int .i64 0, .slice none 0 0, .bool false, .slice none 0 0, .slice none 0 0], false, rfl, m05.trans' hm6 (fun _ _ f => f) (fun j hj e => by have : j = rb := e; omega), rfl, by simp [Value.oneCell'], ?_⟩
  ·revert hout
   cases ft (IntKind.i16.wrap n) (flexible (IntKind.i16.wrap n)) (v1.1.set 0 (.num (IntKind.i16.wrap n)), v1.2) ⟨bs, bs.isEmpty, false⟩ with
   | ok v' s' => rintro ⟨h1, h2⟩; exact ⟨by rw [<- h1]; rfl, fun h => by cases h⟩
   | early => intro _; rfl
   | stuck => intro h; exact h.elim
 | false =>
  refine wp_cond_false ?_ (wp_skip ?_)
  ·rw [Ze, Zq (by simp only [Zs]; omega)]
  obtain ⟨v', s', hft, hs', hc5⟩ : ∃ v' s', ft (IntKind.i16.wrap n) (flexible (IntKind.i16.wrap n)) (v1.1.set 0 (.num (IntKind.i16.wrap n)), v1.2) ⟨bs, bs.isEmpty, false⟩ = .ok v' s' /\ s'.bad = false /\ Cur σ (fun k => k = sb4 \/ w4.heap.size <= k) vb 0 v' w5 := by
   revert hout
   cases ft (IntKind.i16.wrap n) (flexible (IntKind.i16.wrap n)) (v1.1.set 0 (.num (IntKind.i16.wrap n)), v1.2) ⟨bs, bs.isEmpty, false⟩ with
   | ok v' s' => rintro ⟨h1, h2⟩; exact ⟨v', s', rfl, h1.symm, h2⟩
   | early => intro h; cases h
   | stuck => intro h; exact h.elim
  have hsz4 := m4.size
  have hsz5' := m05.size
  refine wp_seq (wp_region_lit (Zv rfl Zm (wpl_call rfl (Zy hb5 rfl) (R := fun e w' => ∃ r, e = .returned r /\ Mod (only vb) w5 w' /\ Cur σ (fun k => k = sb4 \/ w4.heap.size <= k) vb 0 (d v') w') ?_ ?_)))
  ·have e0 : ∀ a : Act, Act.get a 18 = .pointer (some ⟨vb, 0, none⟩) -> (#[Operand.tmp 18] : Array Operand).map a.eval = #[.pointer (some ⟨vb, 0, none⟩)] := fun a h => by simp [Ze, h]
   rw [e0 _ ?_]
   ·refine (hD _ vb 0 v' w5 hc5 (fun k hk e => by rcases hk with h | h <;> omega)).mono ?_
    rintro e w' ⟨⟨r, h1⟩, h2, h3, _⟩
    exact ⟨r, h1, h2, h3⟩
   ·simp (disch := first | omega | simp only [Zs]; omega) only [Zo, Ze, Zn, Zq, a6]
  rintro e w5d ⟨rd, rfl, m5d, c5d⟩
  refine ⟨_, rfl, wpList_nil ?_⟩
  have m05d : Mod none' w w5d := m05.trans' m5d (fun _ _ f => f) (fun i hi e => by have : i = vb := e; omega)
  have hr5d := m5d.some hr5 (fun e => by have : rb = vb := e; omega)
  refine wp_seq (wp_region_lit (Zv rfl Zm (wpl_call rfl (Zy hb4 rfl) (R := fun e w' => ∃ r, e = .returned r /\ Mod none' w5d w' /\ TreeV w' (From w5d) r (.part (G (d v')) v'.2)) ?_ ?_)))
  ·have e0 : ∀ a : Act, Act.get a 20 = .pointer (some ⟨vb, 0, none⟩) -> (#[Operand.tmp 20] : Array Operand).map a.eval = #[.pointer (some ⟨vb, 0, none⟩)] := fun a h => by simp [Ze, h]
   rw [e0 _ ?_]
   ·have := hTell vb 0 (d v') _ w5d c5d
    rwa [hd2] at this
   ·simp (disch := first | omega | simp only [Zs]; omega) only [Zo, Ze, Zn, Zq, a6]
  rintro e w6 ⟨r6, rfl, m6, cs, rfl, q2, q3, q4⟩
  refine ⟨_, rfl, ?_⟩
  have hr6 := m6.some hr5d (fun f => f)
  refine wpl_skip rfl (x_storeN (cs := cs) (b := rb) (o := 0) (by rw [q2]; exact hT.size) ?_ ?_ q3 ?_) (Zv rfl Zi (wpList_nil ?_))
  ·simp (disch := first | omega | simp only [Zs]; omega) only [Zo, Ze, Zn, Zq, a4]
  ·simp (disch := first | omega | simp only [Zs]; omega) only [Zo, Ze, Zn, Zq]
  ·intro j hj
   rw [Zc hr6, Zz hr6, Array.getElem?_eq_getElem (by simp; omega)]
   exact ⟨rfl, rfl⟩
  obtain ⟨C3, k1, k2, k3, k4⟩ := heap_setCells (w := w6) cs.toList 0 _ hr6
  have hC3 : C3 = cs := by
   apply Array.ext
   ·rw [k2, q2]; rfl
   ·intro i h1 h2
    have := k3 i (by simpa using h2) (by simp; omega)
    rw [Nat.zero_add, Array.getElem?_eq_getElem h1] at this
    simpa [h2] using this
  subst hC3
  have hm7 := mod_setCells rb w6 0 C3.toList
  have hmm : Mod none' w (w6.setCells rb 0 C3.toList) := (m05d.trans m6).trans' hm7 (fun _ _ f => f) (fun j hj e => by have : j = rb := e; omega)
  refine wp_act (c := .ret) (fun a : Act => a.tmps.getD 4 undef = .pointer (some ⟨rb, 0, none⟩) /\ a.tmps.getD 5 undef = .bool true /\ a.defers = []) ⟨?_, ?_, ?_⟩ ?_
  ·rw [show ∀ (a : Act) t, a.tmps.getD t undef = Act.get a t from fun _ _ => rfl]
   simp (disch := first | omega | simp only [Zs]; omega) only [Zo, Ze, Zn, Zq, a4]
  ·rw [show ∀ (a : Act) t, a.tmps.getD t undef = Act.get a t from fun _ _ => rfl]
   simp (disch := first | omega | simp only [Zs]; omega) only [Zo, Ze, Zn, Zq]
   rfl
  ·simp only [Zd]; exact ad
  rintro a9 ⟨z4, z5, zd⟩
  refine wp_ret ?_
  try simp only [Exit.then]
  refine bodyPost_ret (v := .tuple #[.agg C3, .bool true]) (results_cellN_tmp hres (b := rb) (o := 0) (cs := C3.toList) (v := .bool true) z4 z5 (by rw [Array.length_toList, q2]; exact hT.many) (fun j v hv => by rw [Zc k1, Nat.zero_add]; simpa using hv)) zd ⟨C3, true, rfl, hmm, q2, q3, ?_⟩
  ·rw [hft]
   refine ⟨by rw [hs']; rfl, fun _ => ?_⟩
   have hsz := m05d.size
   have hsz5 : rb < w5d.heap.size := lt_of_block hr5d
   have := q4.mod hm7 (F' := From w) (fun k hk e => by have h1 : k = rb := e; have h2 : w5d.heap.size <= k := hk; omega) (fun k hk => by have h2 : w5d.heap.size <= k := hk; show w.heap.size <= k; omega)
   exact this
end
end Go.Proofs.YtpecdnfmlodmaaaGreatDoorR
