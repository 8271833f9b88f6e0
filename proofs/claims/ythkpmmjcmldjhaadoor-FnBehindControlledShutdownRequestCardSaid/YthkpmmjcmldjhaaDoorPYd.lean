/-
  The doors that read a message and write it behind octets.
-/
import Derived.Test.YthkpmmjcmldjhaaDoorPYv
import Derived.Test.YthkpmmjcmldjhaaDoorPWg
set_option linter.unusedSimpArgs false
set_option linter.unusedVariables false
namespace Go.Proofs.YthkpmmjcmldjhaaDoor
open Go Go.RowKit
/-- only the place of the struct's pointer is another -/
theorem Cur.slot {σ σ' : St} {F : Nat -> Prop} {b o : Nat} {v : SV} {w : World} (h : Cur σ F b o v w) (h1 : σ'.lay = σ.lay) (h2 : σ'.tg = σ.tg) (h3 : σ'.sz = σ.sz) : Cur σ' F b o v w := by
 obtain ⟨C, t, g1, g2, g3, g4⟩ := h.mem
 exact ⟨C, t, g1, by rw [h3]; exact g2, by rw [h1]; exact g3, by rw [h2]; exact g4⟩
section
variable {P : Program} {σ σa : St} {fn : Func} {f fNew fSet fRF fApp : FuncId} {i0 i1 i2 i3 i4 i5 yi y16 yb eb yE : Nat} {ts1 ts2 ts3 ts5 : Array TypeId}
 {y00 y01 y10 y11 y20 y21 y22 y23 y30 y31 y32 y33 y34 y40 y41 y42 y50 y51 y52 y53 y54 y55 yg : TypeId} {p00 p01 p10 p11 p20 p21 p22 p23 p30 p31 p32 p33 p34 p40 p41 p42 p50 p51 p52 p53 p54 p55 : String} {e00 e01 e10 e11 e20 e21 e22 e23 e30 e31 e32 e33 e34 e40 e41 e42 e50 e51 e52 e53 e54 e55 : Array Edge}
/-- what a door that reads and writes behind octets answers, where it can read -/
def BehC (P : Program) (f : FuncId) (flexible : Int -> Bool) (ft : FT) (v1 : SV) (ok : OkV) (fs : List FD) : Prop :=
 ∀ n srcv dstv bs ds ev w v' s', ErrIs w ev -> (∃ tx vx, ev = .iface tx vx) -> Srcs w srcv bs -> Srcs w dstv ds -> OctI w dstv ds -> bs.length <= 4294967295 ->
  ft (IntKind.i16.wrap n) (flexible (IntKind.i16.wrap n)) (v1.1.set 0 (.num (IntKind.i16.wrap n)), v1.2) ⟨bs, bs.isEmpty, false⟩ = .ok v' s' -> s'.bad = false -> v'.1[0]? = some (.num (IntKind.i16.wrap n)) -> ok (IntKind.i16.wrap n) (flexible (IntKind.i16.wrap n)) ->
  ds.length + (encP fs (IntKind.i16.wrap n) (flexible (IntKind.i16.wrap n)) (v'.1.drop 1, v'.2)).length <= 4294967296 ->
  Calls P f #[.int .i64 n, dstv, srcv] w fun e w' => ∃ z, e = .returned (.tuple #[z, .bool true]) /\ Mod none' w w' /\ OwnB w' w.heap.size z (ds ++ encP fs (IntKind.i16.wrap n) (flexible (IntKind.i16.wrap n)) (v'.1.drop 1, v'.2))
set_option maxHeartbeats 400000 in
theorem beh_rule {flexible : Int -> Bool} {ft : FT} {v1 : SV} {ok : OkV} {fs : List FD} (hf : P.funcs[f]? = some fn) (hN : fn.ntmps = 23) (hres : fn.results = #[.tmp 6, .tmp 7])
  (hbody : fn.body = some (.seq (.region i0 #[⟨some 6, .assign (.const (.slice none 0 0)), y00, p00, e00, none⟩, ⟨some 7, .assign (.const (.bool false)), y01, p01, e01, none⟩] false)
   (.seq (.region i1 #[⟨some 9, .call ⟨.value (.func fNew), #[], ts1⟩, y10, p10, e10, none⟩, ⟨some 8, .assign (.tmp 9), y11, p11, e11, none⟩] false)
   (.seq (.region i2 #[⟨some 10, .move (.tmp 8), y20, p20, e20, none⟩, ⟨some 11, .move (.tmp 0), y21, p21, e21, none⟩, ⟨some 12, .convert yi y16 (.tmp 11), y22, p22, e22, none⟩, ⟨some 13, .call ⟨.value (.func fSet), #[.tmp 10, .tmp 12], ts2⟩, y23, p23, e23, none⟩] false)
   (.seq (.seq (.region i3 #[⟨some 14, .move (.tmp 8), y30, p30, e30, none⟩, ⟨some 15, .move (.tmp 2), y31, p31, e31, none⟩, ⟨some 16, .call ⟨.builtin .append, #[.const (.slice none 0 0), .tmp 15], #[yb, yb]⟩, y32, p32, e32, none⟩,
     ⟨some 17, .call ⟨.value (.func fRF), #[.tmp 14, .tmp 16], ts3⟩, y33, p33, e33, none⟩, ⟨some 18, .binOp .neq yE (.tmp 17) (.const .nilIface) yg, y34, p34, e34, none⟩] false)
    (.cond (.tmp 18) (.seq (.region i4 #[⟨some 6, .assign (.const (.slice none 0 0)), y40, p40, e40, none⟩, ⟨some 7, .assign (.const (.bool false)), y42, p42, e42, none⟩] false) .ret) .skip))
   (.seq (.region i5 #[⟨some 19, .move (.tmp 8), y50, p50, e50, none⟩, ⟨some 20, .move (.tmp 1), y51, p51, e51, none⟩, ⟨some 21, .call ⟨.builtin .append, #[.const (.slice none 0 0), .tmp 20], #[22, 22]⟩, y52, p52, e52, none⟩, ⟨some 22, .call ⟨.value (.func fApp), #[.tmp 19, .tmp 21], ts5⟩, y53, p53, e53, none⟩, ⟨some 6, .assign (.tmp 22), y54, p54, e54, none⟩, ⟨some 7, .assign (.const (.bool true)), y55, p55, e55, none⟩] false) .ret))))))
  (hb1 : bodied P fNew = true) (hb2 : bodied P fSet = true) (hb3 : bodied P fRF = true) (hb4 : bodied P fApp = true) (hi : intTy P yi .i64 = true) (h16 : intTy P y16 .i16 = true) (hby : elemInfo P yb eb 1 = true) (hby' : elemInfo P 22 5 1 = true) (hE : isIface P yE = true)
  (hNew : NewC P fNew σ v1) (hSet : SetC P fSet σ) (hRF : RFC P fRF σ flexible ft) (hApp : AppToC P fApp σa flexible ok fs) (hs1 : σa.lay = σ.lay) (hs2 : σa.tg = σ.tg) (hs3 : σa.sz = σ.sz) (hv1 : 0 < v1.1.length) : BehC P f flexible ft v1 ok fs := by
 intro n srcv dstv bs ds ev w v' s' hEr hev hsrc hdst hdsto hbl hft hs' hv0 hok hlen
 have hgl : gErr < w.heap.size := World.block_lt_of_cell? _ _ hEr
 refine calls_of_wp hf hbody ?_
 rw [hN]
 refine wp_act (fun a : Act => Act.get a 0 = .int .i64 n /\ Act.get a 1 = dstv /\ Act.get a 2 = srcv /\ a.tmps.size = 23 /\ a.defers = []) ⟨by rw [Zj _ _ _ (by simp)]; rfl, by rw [Zj _ _ _ (by simp)]; rfl, by rw [Zj _ _ _ (by simp)]; rfl, by simp, rfl⟩ ?_
 rintro a ⟨a0, a1, a2, aN, ad⟩
 refine wp_seq (wp_region_lit (Zv rfl Zi (Zv rfl Zi (wpList_nil ?_))))
 -- a new message
 refine wp_seq (wp_region_lit (wpl_call rfl (Zy hb1 rfl) (R := fun e w' => e = .returned (.pointer (some ⟨w.heap.size, 0, none⟩)) /\ Mod none' w w' /\ w.heap.size < w'.heap.size /\ Cur σ none' w.heap.size 0 v1 w') (by simpa using hNew w) ?_))
 rintro e w2 ⟨rfl, m2, s2, c2⟩
 refine ⟨_, rfl, Zv rfl Zi (wpList_nil ?_)⟩
 obtain ⟨vb, hvb⟩ : ∃ vb, vb = w.heap.size := ⟨_, rfl⟩
 rw [<- hvb] at c2 ⊢
 -- its version
 have hfit : fits .i16 (IntKind.i16.wrap n) := fits_wrap _ _
 refine wp_seq (wp_region_lit (Zv rfl Zm (Zv rfl Zm (Zv rfl (x_convInt (n := n) hi h16 ?_) (wpl_call rfl (Zy hb2 rfl) (R := fun e w' => ∃ r, e = .returned r /\ Mod (only vb) w2 w' /\ Cur σ none' vb 0 (v1.1.set 0 (.num (IntKind.i16.wrap n)), v1.2) w') ?_ ?_)))))
 ·simp (disch := first | omega | simp only [Zs]; omega) only [Zo, Ze, Zn, Zq, a0]
 ·rw [show ∀ a : Act, (#[Operand.tmp 10, .tmp 12] : Array Operand).map a.eval = #[Act.get a 10, Act.get a 12] from fun a => by simp [Ze]]
  simp (disch := first | omega | simp only [Zs]; omega) only [Zo, Ze, Zn, Zq]
  exact hSet vb v1 _ w2 hfit c2
 rintro e w3 ⟨r3, rfl, m3, c3⟩
 refine ⟨r3, rfl, wpList_nil ?_⟩
 have m03 : Mod none' w w3 := m2.trans' m3 (fun _ _ f => f) (fun i hi e => by have : i = vb := e; omega)
 refine wp_act (fun a : Act => Act.get a 1 = dstv /\ Act.get a 2 = srcv /\ Act.get a 8 = .pointer (some ⟨vb, 0, none⟩) /\ a.tmps.size = 23 /\ a.defers = []) ⟨?_, ?_, ?_, ?_, ?_⟩ ?_
 ·simp (disch := first | omega | simp only [Zs]; omega) only [Zo, Ze, Zn, Zq, a1]
 ·simp (disch := first | omega | simp only [Zs]; omega) only [Zo, Ze, Zn, Zq, a2]
 ·simp (disch := first | omega | simp only [Zs]; omega) only [Zo, Ze, Zn, Zq]
 ·simp only [Zs]; exact aN
 ·simp only [Zd]; exact ad
 clear a0 a1 a2 aN ad
 rintro a ⟨a1, a2, a8, aN, ad⟩
 -- it is read
 have hsrc3 : Srcs w3 srcv bs := hsrc.mod m03
 refine wp_seq (wp_seq (wp_region_lit (Zv rfl Zm (Zv rfl Zm (wpl_copy hby rfl ?_ hsrc3 hbl ?_)))))
 ·simp (disch := first | omega | simp only [Zs]; omega) only [Zo, Ze, Zn, Zq, a2]
 intro v4 w4 m4 h4
 have hvb3 : vb < w3.heap.size := by have := m3.size; omega
 obtain ⟨sb4, hsb4, hsb4', hs4⟩ : ∃ sb4, sb4 < w4.heap.size /\ vb ≠ sb4 /\ Src w4 v4 sb4 bs bs.isEmpty := by
  have := m03.size
  have := m4.size
  rcases h4 with ⟨rfl, rfl⟩ | ⟨g, g1, g2, g3, g4⟩
  ·exact ⟨gErr, by omega, by omega, .inl ⟨rfl, rfl, rfl⟩⟩
  ·exact ⟨g, g2, by omega, by rw [g4]; exact g3⟩
 have hE4 : ErrIs w4 ev := (hEr.mod m03 (fun f => f)).mod m4 (fun f => f)
 have c4 : Cur σ none' vb 0 (v1.1.set 0 (.num (IntKind.i16.wrap n)), v1.2) w4 := c3.later m4 (fun f => f) (fun _ f => f.elim)
 have m04 : Mod none' w w4 := m03.trans m4
 have hvb4 : vb < w4.heap.size := by have := m4.size; omega
 refine wpl_call rfl (Zy hb3 rfl) (R := fun e w' => ∃ r, e = .returned r /\ Mod (only vb) w4 w' /\ r = .nilIface /\ Cur σ (fun k => k = sb4 \/ w4.heap.size <= k) vb 0 v' w') ?_ ?_
 ·rw [show ∀ a : Act, (#[Operand.tmp 14, .tmp 16] : Array Operand).map a.eval = #[Act.get a 14, Act.get a 16] from fun a => by simp [Ze]]
  simp (disch := first | omega | simp only [Zs]; omega) only [Zo, Ze, Zn, Zq, a8]
  refine (hRF vb _ (IntKind.i16.wrap n) v4 sb4 bs _ ev w4 hE4 (by omega) hsb4' hsb4 c4 (by simp [hv1]) hs4 (by rw [hft]; exact fun h => by cases h)).mono ?_
  rintro e w' ⟨r, rfl, hm, h⟩
  rw [hft] at h
  exact ⟨r, rfl, hm, by rw [h.1, hs']; rfl, h.2⟩
 rintro e w5 ⟨r5, rfl, m5, rfl, c5⟩
 refine ⟨_, rfl, ?_⟩
 have m05 : Mod none' w w5 := m04.trans' m5 (fun _ _ f => f) (fun i hi e => by have : i = vb := e; omega)
 refine Zv rfl (x_neqNil (v := .nilIface) (b := false) hE (fun _ => rfl) ?_ (.inr ⟨rfl, rfl⟩)) (wpList_nil ?_)
 ·rw [Ze, Zq (by simp only [Zs]; omega)]
 refine wp_cond_false ?_ (wp_skip ?_)
 ·rw [Ze, Zq (by simp only [Zs]; omega)]
 refine wp_act (fun a : Act => Act.get a 1 = dstv /\ Act.get a 8 = .pointer (some ⟨vb, 0, none⟩) /\ a.tmps.size = 23 /\ a.defers = []) ⟨?_, ?_, ?_, ?_⟩ ?_
 ·simp (disch := first | omega | simp only [Zs]; omega) only [Zo, Ze, Zn, Zq, a1]
 ·simp (disch := first | omega | simp only [Zs]; omega) only [Zo, Ze, Zn, Zq, a8]
 ·simp only [Zs]; exact aN
 ·simp only [Zd]; exact ad
 clear a1 a2 a8 aN ad
 rintro a ⟨a1, a8, aN, ad⟩
 -- it is written
 have hd5 : OctI w5 dstv ds := hdsto.mod m05
 refine wp_seq (wp_region_lit (Zv rfl Zm (Zv rfl Zm (wpl_octs (base := w5.heap.size) (v := .slice none 0 0) (xv := dstv) (bs := []) (cs := ds) hby' rfl ?_ (OwnB.nil _ _) hd5 (by simp; omega) (Nat.le_refl _) ?_))))
 ·simp (disch := first | omega | simp only [Zs]; omega) only [Zo, Ze, Zn, Zq, a1]
 intro dv w6 o6 m6
 rw [List.nil_append] at o6
 have m56 : Mod none' w5 w6 := m6.mono fun i hi e => by omega
 have c6 : Cur σa (fun k => k < w5.heap.size) vb 0 v' w6 := by
  have h1 := (c5.lt.later m56 (fun f => f) (fun _ _ f => f)).slot hs1 hs2 hs3
  obtain ⟨C, t, g1, g2, g3, g4⟩ := h1.mem
  refine ⟨C, t, g1, g2, g3.mod (Mod.refl (S := none') w6) (fun _ _ f => f) (fun k hk => hk.2), ?_⟩
  cases htg : σa.tg with
  | none => rw [htg] at g4; exact g4
  | some o => rw [htg] at g4; exact TagsR.mod g4 (Mod.refl (S := none') w6) (fun _ _ f => f) (fun k hk => hk.2)
 refine wpl_call rfl (Zy hb4 rfl) (R := fun e w' => ∃ z, e = .returned z /\ OwnB w' w5.heap.size z (ds ++ encP fs (IntKind.i16.wrap n) (flexible (IntKind.i16.wrap n)) (v'.1.drop 1, v'.2)) /\ Mod (fun k => w5.heap.size <= k) w6 w') ?_ ?_
 ·rw [show ∀ a : Act, (#[Operand.tmp 19, .tmp 21] : Array Operand).map a.eval = #[Act.get a 19, Act.get a 21] from fun a => by simp [Ze]]
  simp (disch := first | omega | simp only [Zs]; omega) only [Zo, Ze, Zn, Zq, a8]
  exact hApp w6 _ vb v' _ w5.heap.size dv ds c6 hv0 hok (fun k hk => hk) (by have := m5.size; omega) o6 m6.size hlen
 rintro e w7 ⟨z, rfl, o7, m7⟩
 refine ⟨_, rfl, Zv rfl Zi (Zv rfl Zi (wpList_nil (wp_ret ?_)))⟩
 refine bodyPost_ret (results_tmp2 hres _ _ _) ?_ ⟨z, ?_, ?_, ?_⟩
 ·simp only [Zd]; exact ad
 ·rw [show ∀ (a : Act) t, a.tmps.getD t undef = Act.get a t from fun _ _ => rfl, show ∀ (a : Act) t, a.tmps.getD t undef = Act.get a t from fun _ _ => rfl]
  simp (disch := first | omega | simp only [Zs]; omega) only [Zo, Ze, Zn, Zq]
  rfl
 ·refine m05.trans' (m6.trans m7) (fun _ _ f => f) (fun i hi e => by have := m05.size; omega)
 ·exact o7.low (by have := m05.size; omega)
end
section
variable {P : Program} {ρ : Operand -> Value} {w : World} {d : Option Tmp} {ty : TypeId} {p : String} {af : Array Edge} {g : Option (Nat × Bool)}
theorem x_build0 {t e : Nat} (hI : elemInfo P t e 1 = true) : ∃ C : Array Value, C.size = 0 /\ (execOp ρ ⟨d, .buildSlice t 0 #[], ty, p, af, g⟩).run P w = .ok (.value (.slice (some ⟨w.heap.size, 0, none⟩) 0 0)) (w.alloc (.cells C e)) := by
 obtain ⟨hu, i, z, hi, hz, h2, h3, h4, h5, h6⟩ := elemInfo_spec hI
 refine ⟨(Array.range 0).map fun _ => default, by simp, ?_⟩
 simp [execOp, Instr.buildSlice, run_underlying hu, sizeOf, typeInfo, zeroValue, hi, hz, h2, newRow, Instr.fill]
end
theorem OctI.octS {w : World} {v : Value} {bs : List UInt8} (h : OctI w v bs) (hl : bs.length <= 4294967296) : OctS w v bs := by
 rcases h with ⟨rfl, ao, cap, h⟩ | ⟨sb, off, cap, c, t, fr, h1, h2, h3, h4, h5⟩
 ·exact ⟨ao, cap, h, by simp, fun h => by simp at h⟩
 ·exact ⟨_, cap, h1, by simp only [maxLen]; omega, fun _ => ⟨sb, off, c, t, fr, rfl, h4, h5⟩⟩
section
variable {id : Nat} {y0 y1 y2 y3 y4 y5 y6 y7 y8 y9 y10 : TypeId} {p0 p1 p2 p3 p4 p5 p6 p7 p8 p9 p10 : String} {e0 e1 e2 e3 e4 e5 e6 e7 e8 e9 e10 : Array Edge} {ts : Array TypeId} {a : Act} {w : World} {z dstv bv : Value} {ds bs : List UInt8}
/-- the law's last region: what was written is what was to be written -/
theorem beh_last (hN : a.tmps.size = 52) (a12 : Act.get a 12 = .bool true) (a11 : Act.get a 11 = z) (a1 : Act.get a 1 = dstv) (a10 : Act.get a 10 = bv) (hz : OctI w z (ds ++ bs)) (hd : OctI w dstv ds) (hb : OctI w bv bs) (hl : ds.length + bs.length <= 4294967296) :
  (Code.region id #[⟨some 42, .move (.tmp 12), y0, p0, e0, none⟩, ⟨some 43, .move (.tmp 42), y1, p1, e1, none⟩, ⟨some 44, .move (.tmp 11), y2, p2, e2, some (1, true)⟩, ⟨some 45, .buildSlice 22 0 #[], y3, p3, e3, some (1, true)⟩, ⟨some 46, .move (.tmp 1), y4, p4, e4, some (1, true)⟩,
   ⟨some 47, .call ⟨.builtin .append, #[.tmp 45, .tmp 46], #[22, 22]⟩, y5, p5, e5, some (1, true)⟩, ⟨some 48, .move (.tmp 10), y6, p6, e6, some (1, true)⟩, ⟨some 49, .call ⟨.builtin .append, #[.tmp 47, .tmp 48], #[22, 22]⟩, y7, p7, e7, some (1, true)⟩,
   ⟨some 50, .call ⟨.value (.func fSame), #[.tmp 44, .tmp 49], ts⟩, y8, p8, e8, some (1, true)⟩, ⟨some 51, .pick (.tmp 43) (.tmp 50) (.const (.bool false)), y9, p9, e9, none⟩, ⟨some 6, .assign (.tmp 51), y10, p10, e10, none⟩] false).wp Tryd.prog
   (fun e a' w' => e = .normal /\ Mod none' w w' /\ Act.get a' 6 = .bool true /\ a'.defers = a.defers) a w := by
 refine wp_region_lit (WL.out ?_)
 refine wl_val rfl Zm (wl_val rfl Zm ?_)
 refine wl_act (fun b : Act => Act.get b 43 = .bool true /\ Act.get b 11 = z /\ Act.get b 1 = dstv /\ Act.get b 10 = bv /\ b.tmps.size = 52 /\ b.defers = a.defers) ⟨?_, ?_, ?_, ?_, ?_, ?_⟩ ?_
 ·simp (disch := first | omega | simp only [Zs]; omega) only [Zo, Ze, Zn, Zq, a12]
 ·simp (disch := first | omega | simp only [Zs]; omega) only [Zo, Ze, Zn, Zq, a11]
 ·simp (disch := first | omega | simp only [Zs]; omega) only [Zo, Ze, Zn, Zq, a1]
 ·simp (disch := first | omega | simp only [Zs]; omega) only [Zo, Ze, Zn, Zq, a10]
 ·simp only [Zs]; exact hN
 ·simp only [Zd]
 rintro b ⟨b43, b11, b1, b10, bN, bd⟩
 refine wl_gval (k := 1) (d := 43) (b := true) rfl (by kernel_rfl) b43 Zm ?_
 obtain ⟨C, hC, hbld⟩ := x_build0 (P := Tryd.prog) (ρ := (b.put (some 44) (b.eval (.tmp 11))).eval) (w := w) (d := some 45) (ty := y3) (p := p3) (af := e3) (g := some (1, true)) octs_info
 refine wl_gval (k := 1) (d := 43) (b := true) rfl (by kernel_rfl) ?_ hbld ?_
 ·simp (disch := first | omega | simp only [Zs]; omega) only [Zo, Ze, Zn, Zq, b43]
 have g1 := Zh w (.cells C 5)
 have m1 : Mod none' w (w.alloc (.cells C 5)) := (Mod.refl w).alloc _
 have hsz : (w.alloc (.cells C 5)).heap.size = w.heap.size + 1 := by simp
 generalize w.alloc (.cells C 5) = w1 at *
 have o1 : OwnB w1 w.heap.size (.slice (some ⟨w.heap.size, 0, none⟩) 0 0) [] := ⟨by simp [octV], .inr ⟨w.heap.size, 0, C, rfl, Nat.le_refl _, g1, Nat.le_refl _, by simp, by simp [hC], by simp [octV]⟩⟩
 refine wl_gval (k := 1) (d := 43) (b := true) rfl (by kernel_rfl) ?_ Zm ?_
 ·simp (disch := first | omega | simp only [Zs]; omega) only [Zo, Ze, Zn, Zq, b43]
 refine wl_act (fun c : Act => Act.get c 43 = .bool true /\ Act.get c 44 = z /\ Act.get c 45 = .slice (some ⟨w.heap.size, 0, none⟩) 0 0 /\ Act.get c 46 = dstv /\ Act.get c 10 = bv /\ c.tmps.size = 52 /\ c.defers = a.defers) ⟨?_, ?_, ?_, ?_, ?_, ?_, ?_⟩ ?_
 ·simp (disch := first | omega | simp only [Zs]; omega) only [Zo, Ze, Zn, Zq, b43]
 ·simp (disch := first | omega | simp only [Zs]; omega) only [Zo, Ze, Zn, Zq, b11]
 ·simp (disch := first | omega | simp only [Zs]; omega) only [Zo, Ze, Zn, Zq]
 ·simp (disch := first | omega | simp only [Zs]; omega) only [Zo, Ze, Zn, Zq, b1]
 ·simp (disch := first | omega | simp only [Zs]; omega) only [Zo, Ze, Zn, Zq, b10]
 ·simp only [Zs]; exact bN
 ·simp only [Zd]; exact bd
 clear b43 b11 b1 b10 bN bd hbld b
 rintro c ⟨c43, c44, c45, c46, c10, cN, cd⟩
 obtain ⟨v2, w2, hr2, o2, f2⟩ := x_octs (P := Tryd.prog) (ρ := c.eval) (w := w1) (d := some 47) (ty := y5) (p := p5) (af := e5) (g := some (1, true)) (s := .tmp 45) (x := .tmp 46) octs_info (by rw [Ze]; exact c45) (by rw [Ze]; exact c46) o1 (hd.mod m1) (by simp; omega) (by omega)
 rw [List.nil_append] at o2
 have m2 : Mod none' w w2 := m1.trans' ((Fine.mk f2.1 f2.2).low o1) (fun _ _ f => f) (fun i hi e => by omega)
 refine wl_gval (k := 1) (d := 43) (b := true) rfl (by kernel_rfl) c43 hr2 (wl_gval (k := 1) (d := 43) (b := true) rfl (by kernel_rfl) ?_ Zm ?_)
 ·simp (disch := first | omega | simp only [Zs]; omega) only [Zo, Ze, Zn, Zq, c43]
 refine wl_act (fun b : Act => Act.get b 43 = .bool true /\ Act.get b 44 = z /\ Act.get b 47 = v2 /\ Act.get b 48 = bv /\ b.tmps.size = 52 /\ b.defers = a.defers) ⟨?_, ?_, ?_, ?_, ?_, ?_⟩ ?_
 ·simp (disch := first | omega | simp only [Zs]; omega) only [Zo, Ze, Zn, Zq, c43]
 ·simp (disch := first | omega | simp only [Zs]; omega) only [Zo, Ze, Zn, Zq, c44]
 ·simp (disch := first | omega | simp only [Zs]; omega) only [Zo, Ze, Zn, Zq]
 ·simp (disch := first | omega | simp only [Zs]; omega) only [Zo, Ze, Zn, Zq, c10]
 ·simp only [Zs]; exact cN
 ·simp only [Zd]; exact cd
 clear c43 c44 c45 c46 c10 cN cd hr2 c
 rintro b ⟨b43, b44, b47, b48, bN, bd⟩
 obtain ⟨v3, w3, hr3, o3, f3⟩ := x_octs (P := Tryd.prog) (ρ := b.eval) (w := w2) (d := some 49) (ty := y7) (p := p7) (af := e7) (g := some (1, true)) (s := .tmp 47) (x := .tmp 48) octs_info (by rw [Ze]; exact b47) (by rw [Ze]; exact b48) o2 (hb.mod m2) hl m2.size
 have m3 : Mod none' w w3 := m2.trans' ((Fine.mk f3.1 f3.2).low o2) (fun _ _ f => f) (fun i hi e => by omega)
 refine wl_gval (k := 1) (d := 43) (b := true) rfl (by kernel_rfl) b43 hr3 (wl_gcall (k := 1) (d := 43) (b := true) rfl (by kernel_rfl) ?_ (Zy (by kernel_rfl) rfl) (R := fun e w' => e = .returned (.bool true) /\ Mod none' w3 w') ?_ ?_)
 ·simp (disch := first | omega | simp only [Zs]; omega) only [Zo, Ze, Zn, Zq, b43]
 ·rw [show ∀ a : Act, (#[Operand.tmp 44, .tmp 49] : Array Operand).map a.eval = #[Act.get a 44, Act.get a 49] from fun a => by simp [Ze]]
  simp (disch := first | omega | simp only [Zs]; omega) only [Zo, Ze, Zn, Zq, b44]
  obtain ⟨nl, _, h3⟩ := o3.oct
  exact same_octs ((hz.mod m3).octS (by simp; omega)) ((OctI.of_oct h3).octS (by simp; omega))
 rintro e w4 ⟨rfl, m4⟩
 refine ⟨_, rfl, wl_val rfl (x_pickT (v := .bool true) ?_ ?_) (wl_val rfl Zi (wl_nil ⟨rfl, m3.trans m4, ?_, ?_⟩))⟩
 ·simp (disch := first | omega | simp only [Zs]; omega) only [Zo, Ze, Zn, Zq, b43]
 ·simp (disch := first | omega | simp only [Zs]; omega) only [Zo, Ze, Zn, Zq]
 ·simp (disch := first | omega | simp only [Zs]; omega) only [Zo, Ze, Zn, Zq]
 ·simp only [Zd]; exact bd
end
/-- fields that are no parts: how long they get -/
theorem leafs_len1 {fs : List FD} (h : ∀ f ∈ fs, leafK f.kind = true) (hn : fs.length <= 1000) {ver : Int} {fl : Bool} {t : Tr} (ht : TOk t) : (partW fs ver fl t).length + 1000 <= 4294967295 := by
 have h1 := fieldsW_len (ver := ver) (flex := fl) (t := t) fs 0 h
 have ho := unk_ok t.U ht.tags
 have h2 := tags_len (unkW t.U) (fun p hp => (ho.2.2 p hp).2)
 have h4 := ho.2.1
 have h3 := uvE_ten (n := (unkW t.U).length) (by omega)
 have h5 : (tagsW (unkW t.U)).length <= 10 + (unkW t.U).length * 32800 := by simp only [tagsW, List.length_append]; omega
 rw [partW, List.length_append]
 split
 ·omega
 ·simp only [List.length_nil]; omega
end Go.Proofs.YthkpmmjcmldjhaaDoor
