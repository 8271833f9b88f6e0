/-
  The writer of package spec: the fields one by one.
  The writer of package spec: a part.
-/
import Derived.Test.YtmehfgiadapekaaGreatPWw
set_option linter.unusedSimpArgs false
set_option linter.unusedVariables false
namespace Go.Proofs.YtmehfgiadapekaaGreat
open Go Go.RowKit
/-- fields in memory, those of parts within them too -/
inductive FdsI (w : World) : Value -> List FD -> Prop where
 | mk {v : Value} {fs : List FD} {fc : Nat -> Nat -> Value} {sv : Nat -> Value} (hE : ElemsI w v fs.length 8 fc) (hc : ∀ i (h : i < fs.length) j, j < 8 -> ((fs[i]).cells (sv i))[j]? = some (fc i j))
   (hs : ∀ i (h : i < fs.length), FdsI w (sv i) (fs[i]).sub) : FdsI w v fs
theorem FdsI.mod {w w' : World} {v : Value} {fs : List FD} (h : FdsI w v fs) (hm : Mod none' w w') : FdsI w' v fs := by
 induction h with
 | mk hE hc hs ih => exact .mk (hE.mod hm) hc (fun i hi => ih i hi)
theorem FdsI.slice {w : World} {v : Value} {fs : List FD} (h : FdsI w v fs) : ∃ ao cap, v = .slice ao fs.length cap := by
 cases h with
 | mk hE hc hs => exact hE.slice
theorem FdsI.len {w : World} {v : Value} {fs : List FD} (h : FdsI w v fs) : fs.length <= 9223372036854775807 := by
 cases h with
 | mk h1 hc hs =>
  rcases h1 with ⟨h0, _⟩ | ⟨k, off, cap', C, T, fr, q1, q2, q3, q4, q5⟩
  ·omega
  ·have hml : maxLen = 9223372036854775807 := rfl
   omega
/-- a field's cells in memory -/
theorem FdsI.at' {w : World} {ao : Option Addr} {cap n : Nat} {fs : List FD} (h : FdsI w (.slice ao n cap) fs) {i : Nat} (hi : i < fs.length) : n = fs.length /\ ∃ k off sa sn sc, ao = some ⟨k, off, none⟩ /\ ∃ C T fr, w.heap[k]? = some (.cells C T fr) /\
  (∀ j v, ((fs[i]).cells (.slice sa sn sc)).toList[j]? = some v -> C[off + i * 8 + j]? = some v) /\ FdsI w (.slice sa sn sc) (fs[i]).sub := by
 generalize hv : Value.slice ao n cap = v0 at h
 cases h with
 | @mk _ _ fc sv h1 hc hs =>
  subst hv
  rcases h1 with ⟨h0, _⟩ | ⟨k, off, cap', C, T, fr, q1, q2, q3, q4, q5⟩
  ·omega
  ·obtain ⟨rfl, rfl, rfl⟩ : ao = some ⟨k, off, none⟩ /\ n = fs.length /\ cap = cap' := by simpa using q1
   obtain ⟨sa, sc, h3⟩ := (hs i hi).slice
   have hs' := hs i hi
   have h2 := hc i hi
   rw [h3] at hs' h2
   refine ⟨rfl, k, off, sa, _, sc, rfl, C, T, fr, q4, fun j v hv => ?_, hs'⟩
   have hj : j < 8 := by
    have := (List.getElem?_eq_some_iff.1 hv).1
    simp [FD.cells] at this; omega
   rw [q5 i hi j hj, <- h2 j hj]
   simpa using hv
theorem FdsI.at {w : World} {ao : Option Addr} {cap n : Nat} {fs : List FD} (h : FdsI w (.slice ao n cap) fs) {i : Nat} (hi : i < fs.length) : n = fs.length /\ ∃ k off sa sn sc, ao = some ⟨k, off, none⟩ /\ ∃ C T fr, w.heap[k]? = some (.cells C T fr) /\
  ∀ j v, ((fs[i]).cells (.slice sa sn sc)).toList[j]? = some v -> C[off + i * 8 + j]? = some v := by
 obtain ⟨h1, k, off, sa, sn, sc, h2, C, T, fr, h3, h4, _⟩ := h.at' hi
 exact ⟨h1, k, off, sa, sn, sc, h2, C, T, fr, h3, h4⟩
theorem zeroField : zeroOf Tryz.prog 51 = some (.agg #[.int .i64 0, .int .i64 0, .int .i64 0, .int .i64 0, .int .i64 0, .int .i64 0, .int .i64 0, .slice none 0 0]) := by kernel_rfl
set_option maxRecDepth 100000 in
theorem known_c {w : World} {v : Value} {fs : List FD} (hf : FdsI w v fs) (hno : ∀ f ∈ fs, f.tag < 0) : Calls Tryz.prog 56 #[v] w fun e w' => e = .returned (.int .u32 0) /\ Mod none' w w' := by
 obtain ⟨ao, cap, rfl⟩ := hf.slice
 refine calls_of_wp Tryz.func56 rfl ?_
 rw [Tryz.ntmps56]
 refine wp_act (fun a : Act => Act.get a 0 = .slice ao fs.length cap /\ a.tmps.size = 23 /\ a.defers = []) ⟨by rw [Zj _ _ _ (by simp)]; rfl, by simp, rfl⟩ ?_
 rintro a ⟨a0, aN, ad⟩
 refine wp_seq (wp_region_lit (Zv rfl Zi (wpList_nil (wp_seq (wp_region_lit (Zv rfl Zi (wpList_nil ?_)))))))
 refine wp_seq (wp_seq (wp_region_lit (Zv rfl Zm (Zv rfl (x_len (by kernel_rfl) rfl (ao := ao) (cap := cap) (n := fs.length) ?_) (Zv rfl Zm (wpList_nil ?_))))))
 ·simp (disch := first | omega | simp only [Zs]; omega) only [Zo, Ze, Zn, Zq, a0]
 refine wp_block ?_
 refine wp_loop_ghost (fun (m : Nat) (a : Act) (w' : World) => a.tmps.size = 23 /\ a.defers = [] /\ Act.get a 3 = .int .u32 0 /\ Act.get a 6 = .slice ao fs.length cap /\ Act.get a 7 = .int .i64 (fs.length : Nat) /\ m <= fs.length /\ Act.get a 8 = .int .i64 ((fs.length - m : Nat) : Int) /\ Mod none' w w') fs.length ⟨?_, ?_, ?_, ?_, ?_, Nat.le_refl _, ?_, .refl w⟩ ?_
 ·simp only [Zs]; exact aN
 ·simp only [Zd]; exact ad
 ·simp (disch := first | omega | simp only [Zs]; omega) only [Zo, Ze, Zn, Zq]
  rfl
 ·simp (disch := first | omega | simp only [Zs]; omega) only [Zo, Ze, Zn, Zq, a0]
 ·simp (disch := first | omega | simp only [Zs]; omega) only [Zo, Ze, Zn, Zq]
 ·simp (disch := first | omega | simp only [Zs]; omega) only [Zo, Ze, Zn, Zq]
  rw [Nat.sub_self]; rfl
 clear a0 aN ad a
 rintro m a w1 ⟨aN, ad, a3, a6, a7, hm, a8, hmod⟩
 refine wp_seq (wp_region_lit (Zv rfl (x_lss (k := .i64) (m := ((fs.length - m : Nat) : Int)) (n := (fs.length : Nat)) (by rw [Ze, a8]) (by rw [Ze, a7])) (wpList_nil ?_)))
 by_cases hpos : 0 < m
 ·refine wp_seq (wp_cond_true ?_ (wp_skip ?_))
  ·rw [Ze, Zq (by omega)]; simp; omega
  have hi : fs.length - m < fs.length := by omega
  obtain ⟨_, k, off, sa, sn, sc, rfl, C, T, fr, hC, hcells⟩ := (hf.mod hmod).at hi
  have hlen8 : ((fs[fs.length - m]).cells (.slice sa sn sc)).toList.length = 8 := rfl
  refine wp_seq (wp_block (wp_seq (wp_region_lit (Zv rfl (Zx (sz := 8) (i := fs.length - m) (b := k) (o := off) (n := fs.length) (cap := cap) (k := .i64) (by kernel_rfl) ?_ ?_ hi) (Zv rfl (x_loadN (cs := ((fs[fs.length - m]).cells (.slice sa sn sc)).toList) (b := k) (o := off + (fs.length - m) * 8) (by rw [hlen8]; kernel_rfl) ?_ (fun j v hv => by rw [Zc hC]; exact hcells j v hv)) (Zv rfl (x_alloc zeroField) ?_))))))
  ·simp (disch := first | omega | simp only [Zs]; omega) only [Zo, Ze, Zn, Zq, a6]
  ·simp (disch := first | omega | simp only [Zs]; omega) only [Zo, Ze, Zn, Zq, a8]
  ·simp (disch := first | omega | simp only [Zs]; omega) only [Zo, Ze, Zn, Zq]
  have k1 := Zh w1 (.cells (Value.agg #[.int .i64 0, .int .i64 0, .int .i64 0, .int .i64 0, .int .i64 0, .int .i64 0, .int .i64 0, .slice none 0 0]).cells 51)
  have m1 : Mod none' w1 (w1.alloc (.cells (Value.agg #[.int .i64 0, .int .i64 0, .int .i64 0, .int .i64 0, .int .i64 0, .int .i64 0, .int .i64 0, .slice none 0 0]).cells 51)) := (Mod.refl w1).alloc _
  have s1 : (w1.alloc (.cells (Value.agg #[.int .i64 0, .int .i64 0, .int .i64 0, .int .i64 0, .int .i64 0, .int .i64 0, .int .i64 0, .slice none 0 0]).cells 51)).heap.size = w1.heap.size + 1 := by simp
  generalize w1.alloc (.cells (Value.agg #[.int .i64 0, .int .i64 0, .int .i64 0, .int .i64 0, .int .i64 0, .int .i64 0, .int .i64 0, .slice none 0 0]).cells 51) = w2 at *
  obtain ⟨b5, hb5⟩ : ∃ b, b = w1.heap.size := ⟨_, rfl⟩
  rw [<- hb5] at k1 s1 ⊢
  refine wpl_skip rfl (x_storeN (cs := (fs[fs.length - m]).cells (.slice sa sn sc)) (b := b5) (o := 0) (by kernel_rfl) ?_ ?_ (by simp [FD.cells, Value.oneCell']) ?_) (wpList_nil ?_)
  ·simp (disch := first | omega | simp only [Zs]; omega) only [Zo, Ze, Zn, Zq]
  ·simp (disch := first | omega | simp only [Zs]; omega) only [Zo, Ze, Zn, Zq]
  ·intro j hj
   have hj8 : j < 8 := hj
   rw [Zc k1, Zz k1, Nat.zero_add]
   rcases (by omega : j = 0 \/ j = 1 \/ j = 2 \/ j = 3 \/ j = 4 \/ j = 5 \/ j = 6 \/ j = 7) with rfl | rfl | rfl | rfl | rfl | rfl | rfl | rfl <;> exact ⟨rfl, rfl⟩
  have k2 := put_tree (cs := (fs[fs.length - m]).cells (.slice sa sn sc)) k1 rfl
  have m2 := mod_setCells b5 w2 0 ((fs[fs.length - m]).cells (.slice sa sn sc)).toList
  have hmod3 : Mod none' w (w2.setCells b5 0 ((fs[fs.length - m]).cells (.slice sa sn sc)).toList) := (hmod.trans m1).trans' m2 (fun _ _ f => f) (fun i hi e => by have e' : i = b5 := e; have := hmod.size; omega)
  generalize w2.setCells b5 0 ((fs[fs.length - m]).cells (.slice sa sn sc)).toList = w3 at *
  have htag : (fs[fs.length - m]).tag < 0 := hno _ (List.getElem_mem hi)
  refine wp_seq (wp_region_lit (Zv rfl (Za (o := 4) (by kernel_rfl) (b := b5) (o0 := 0) ?_) (Zv rfl (Zl (by kernel_rfl) (b := b5) (o := 0 + 4) (v := .int .i64 (fs[fs.length - m]).tag) ?_ ?_) (Zv rfl (x_geq (k := .i64) (m := (fs[fs.length - m]).tag) (n := 0) ?_ rfl) (wpList_nil ?_)))))
  ·simp (disch := first | omega | simp only [Zs]; omega) only [Zo, Ze, Zn, Zq]
  ·simp (disch := first | omega | simp only [Zs]; omega) only [Zo, Ze, Zn, Zq]
  ·rw [Zc k2]; rfl
  ·simp (disch := first | omega | simp only [Zs]; omega) only [Zo, Ze, Zn, Zq]
  refine wp_cond_false ?_ (wp_skip ?_)
  ·simp (disch := first | omega | simp only [Zs]; omega) only [Zo, Ze, Zn, Zq]
   simp; omega
  simp only [Exit.then, Exit.inBlock]
  refine wp_region_lit (Zv rfl (x_add (k := .i64) (m := ((fs.length - m : Nat) : Int)) (n := 1) ?_ rfl) (Zv rfl Zm (wpList_nil ?_)))
  ·simp (disch := first | omega | simp only [Zs]; omega) only [Zo, Ze, Zn, Zq, a8]
  refine ⟨m - 1, by omega, ?_, ?_, ?_, ?_, ?_, by omega, ?_, hmod3⟩
  ·simp only [Zs]; exact aN
  ·simp only [Zd]; exact ad
  ·simp (disch := first | omega | simp only [Zs]; omega) only [Zo, Ze, Zn, Zq, a3]
  ·simp (disch := first | omega | simp only [Zs]; omega) only [Zo, Ze, Zn, Zq, a6]
  ·simp (disch := first | omega | simp only [Zs]; omega) only [Zo, Ze, Zn, Zq, a7]
  ·simp (disch := first | omega | simp only [Zs]; omega) only [Zo, Ze, Zn, Zq]
   have hl := hf.len
   congr 1
   rw [IntKind.wrap_i64]; omega
 ·refine wp_seq (wp_cond_false ?_ (wp_exit ?_))
  ·rw [Ze, Zq (by omega)]; simp; omega
  simp only [Exit.then, Exit.inBlock, if_true]
  refine wp_seq (wp_region_lit (Zv rfl Zm (Zv rfl Zi (wpList_nil ?_))))
  refine wp_act (c := .ret) (fun a : Act => Act.get a 2 = .int .u32 0 /\ a.defers = []) ⟨?_, ?_⟩ ?_
  ·simp (disch := first | omega | simp only [Zs]; omega) only [Zo, Ze, Zn, Zq, a3]
  ·simp only [Zd]; exact ad
  rintro a9 ⟨z0, zd⟩
  exact wp_ret (bodyPost_ret (results_tmp rfl _ _ _) zd ⟨congrArg Ending.returned z0, hmod⟩)
end Go.Proofs.YtmehfgiadapekaaGreat
set_option linter.unusedSimpArgs false
set_option linter.unusedVariables false
namespace Go.Proofs.YtmehfgiadapekaaGreat
open Go Go.RowKit
/-- octets behind octets: what is turned -/
theorem x_octs {P : Program} {ρ : Operand -> Value} {w : World} {d : Option Tmp} {ty : TypeId} {p : String} {af : Array Edge} {g : Option (Nat × Bool)} {s x : Operand} {base : Nat} {v xv : Value} {bs cs : List UInt8} (hI : elemInfo P 22 5 1 = true)
  (hs : ρ s = v) (hx : ρ x = xv) (hown : OwnB w base v bs) (ho : OctI w xv cs) (hsm : bs.length + cs.length <= 4294967296) (hbase : base <= w.heap.size) :
  ∃ v' w', (execOp ρ ⟨d, .call ⟨.builtin .append, #[s, x], #[22, 22]⟩, ty, p, af, g⟩).run P w = .ok (.value v') w' /\ OwnB w' base v' (bs ++ cs) /\ Mod (fun k => v.ownBlock = some k) w w' /\ ∀ k, v'.ownBlock = some k -> v.ownBlock = some k \/ w.heap.size <= k := by
 by_cases hb : cs = []
 ·subst hb
  obtain ⟨ao, cap, hvs⟩ : ∃ ao cap, xv = .slice ao 0 cap := by
   rcases ho with ⟨_, h⟩ | ⟨sb, off, cap, c, t, fr, h1, _⟩
   ·exact h
   ·exact ⟨_, _, h1⟩
  obtain ⟨hu, i, z, hi, hz, h2, h3, h4, h5, h6⟩ := elemInfo_spec hI
  subst hvs
  rw [List.append_nil]
  rcases hown.2 with ⟨hv0, hl0⟩ | ⟨g', cap', cur, hv0, q1, q2, q3, q4, q5, q6⟩
  ·subst hv0
   have : bs = [] := List.eq_nil_of_length_eq_zero hl0
   subst this
   refine ⟨.slice none 0 0, w, ?_, hown, .refl w, fun k hk => .inl hk⟩
   cases ao <;> simp [execOp, resolve, invoke, builtin, hs, hx, Builtin.append_, run_underlying hu, sizeOf, typeInfo, hi, Builtin.lenOf, Builtin.firstCells, loadCells, loadCellsFrom]
  ·subst hv0
   have q7 : ¬ cap' < bs.length := by omega
   refine ⟨.slice (some ⟨g', 0, none⟩) bs.length cap', w, ?_, hown, .refl w, fun k hk => .inl hk⟩
   cases ao <;> simp [execOp, resolve, invoke, builtin, hs, hx, Builtin.append_, run_underlying hu, sizeOf, typeInfo, hi, Builtin.lenOf, Builtin.firstCells, loadCells, loadCellsFrom, q7, storeCells]
 ·obtain ⟨sb, off, cap, c, tc, fr, hvs, hcl, hml, hh, hcc⟩ : ∃ sb off cap c t fr, xv = .slice (some ⟨sb, off, none⟩) cs.length cap /\ cs.length <= cap /\ cap <= maxLen /\ w.heap[sb]? = some (.cells c t fr) /\ ∀ i (hi : i < cs.length), c[off + i]? = some (.int .u8 (cs[i]).toNat) := by
   rcases ho with ⟨h, _⟩ | h
   ·exact (hb h).elim
   ·exact h
  obtain ⟨v', w', hr, k1, k2, _, k4⟩ := x_append (P := P) (ρ := ρ) (w := w) (d := d) (ty := ty) (p := p) (af := af) (g := g) (s := s) (x := x) (base := base) (v := v) (n := bs.length) (xs := octV bs) (ad := ⟨sb, off, none⟩) (m := cs.length) (c := cap) (news := octV cs) hI hs (hx.trans hvs) hown (by rw [octV_length]; omega) (fun j u hu => by
   rw [Addr.add_mid, Zc hh]
   simp only [octV, List.getElem?_map, Option.map_eq_some_iff] at hu
   obtain ⟨q, hq, rfl⟩ := hu
   obtain ⟨hj, rfl⟩ := List.getElem?_eq_some_iff.1 hq
   exact hcc j hj) (fun u hu => by obtain ⟨q, _, rfl⟩ := List.mem_map.1 hu; rfl) hsm hbase
  refine ⟨v', w', hr, ?_, k2, k4⟩
  unfold OwnB
  rw [List.length_append, octV_append]
  exact k1
theorem fieldsW_append : ∀ (a b : List FD) (k : Nat) (ver : Int) (flex : Bool) (t : Tr), fieldsW (a ++ b) k ver flex t = fieldsW a k ver flex t ++ fieldsW b (k + a.length) ver flex t
 | [], b, k, ver, flex, t => by simp [fieldsW]
 | f :: a, b, k, ver, flex, t => by
  simp only [List.cons_append, fieldsW, List.length_cons]
  rw [fieldsW_append a b (k + 1) ver flex t, List.append_assoc, show k + 1 + a.length = k + (a.length + 1) by omega]
set_option maxRecDepth 100000 in
set_option maxHeartbeats 1000000 in
/-- 'f.Tag < 0 && f.has(version)' -/
theorem part_test {w : World} {a : Act} {id b13 : Nat} {ver : Int} {f : FD} {sa : Option Addr} {sn sc : Nat} {T2 : TypeId} {y0 y1 y2 y3 y4 y5 y6 y7 ya yb : TypeId} {p0 p1 p2 p3 p4 p5 p6 p7 : String} {e0 e1 e2 e3 e4 e5 e6 e7 : Array Edge} {ts6 : Array TypeId}
  (hN : a.tmps.size = 132) (g1 : Act.get a 1 = .int .i64 ver) (g13 : Act.get a 13 = .pointer (some ⟨b13, 0, none⟩)) (h13 : w.heap[b13]? = some (.cells (f.cells (.slice sa sn sc)) T2 (0, 0))) (hg : f.tag < 0) :
  (Code.region id #[⟨some 28, .fieldAddr 51 (.tmp 13) 4, y0, p0, e0, none⟩, ⟨some 29, .load 3 (.tmp 28), y1, p1, e1, none⟩, ⟨some 30, .binOp .lss ya (.tmp 29) (.const (.int .i64 0)) yb, y2, p2, e2, none⟩, ⟨some 31, .move (.tmp 30), y3, p3, e3, none⟩,
   ⟨some 32, .load 51 (.tmp 13), y4, p4, e4, some (3, true)⟩, ⟨some 33, .move (.tmp 1), y5, p5, e5, some (3, true)⟩, ⟨some 34, .call ⟨.value (.func 57), #[.tmp 32, .tmp 33], ts6⟩, y6, p6, e6, some (3, true)⟩,
   ⟨some 35, .pick (.tmp 31) (.tmp 34) (.const (.bool false)), y7, p7, e7, none⟩] false).wp Tryz.prog (fun e a' w' => e = .normal /\ SameBut (fun t => t ∈ [28, 29, 30, 31, 32, 33, 34, 35]) a a' /\ Mod none' w w' /\ Act.get a' 35 = .bool (f.has ver)) a w := by
 refine wp_region_lit (Zv rfl (Za (o := 4) (by kernel_rfl) (b := b13) (o0 := 0) (by rw [Ze]; exact g13)) (Zv rfl (Zl (by kernel_rfl) (b := b13) (o := 0 + 4) (v := .int .i64 f.tag) ?_ ?_) (Zv rfl (x_lss (k := .i64) (m := f.tag) (n := 0) ?_ rfl) (Zv rfl Zm ?_))))
 ·simp (disch := first | omega | simp only [Zs]; omega) only [Zo, Ze, Zn, Zq]
 ·rw [Zc h13]; rfl
 ·simp (disch := first | omega | simp only [Zs]; omega) only [Zo, Ze, Zn, Zq]
 refine wpl_abs (fun b => SameBut (fun t => t ∈ [28, 29, 30, 31, 32, 33, 34, 35]) a b /\ Act.get b 31 = .bool true) ⟨((((SameBut.refl a).put (by simp) _).put (by simp) _).put (by simp) _).put (by simp) _, ?_⟩ ?_
 ·simp (disch := first | omega | simp only [Zs]; omega) only [Zo, Ze, Zn, Zq]
  rw [decide_eq_true hg]
 rintro b ⟨hs, b31⟩
 have bN : b.tmps.size = 132 := hs.size.trans hN
 refine wpl_gval (k := 3) (d := 31) (b := true) rfl rfl b31 (x_loadN (cs := (f.cells (.slice sa sn sc)).toList) (b := b13) (o := 0) (by kernel_rfl) (by rw [Ze]; exact (hs.get 13 (by decide)).trans g13) (fun j v hv => by rw [Zc h13, Nat.zero_add]; simpa using hv)) ?_
 refine wpl_gval (k := 3) (d := 31) (b := true) rfl rfl (by rw [Zn (by decide)]; exact b31) Zm ?_
 refine wpl_abs (fun c => SameBut (fun t => t ∈ [28, 29, 30, 31, 32, 33, 34, 35]) a c /\ Act.get c 31 = .bool true /\ Act.get c 32 = .agg (f.cells (.slice sa sn sc)) /\ Act.get c 33 = .int .i64 ver) ⟨(hs.put (by simp) _).put (by simp) _, ?_, ?_, ?_⟩ ?_
 ·simp (disch := first | omega | simp only [Zs]; omega) only [Zo, Ze, Zn, Zq, b31]
 ·simp (disch := first | omega | simp only [Zs]; omega) only [Zo, Ze, Zn, Zq]
 ·simp (disch := first | omega | simp only [Zs]; omega) only [Zo, Ze, Zn, Zq]
  exact (hs.get 1 (by decide)).trans g1
 rintro c ⟨hs2, c31, c32, c33⟩
 have cN : c.tmps.size = 132 := hs2.size.trans hN
 have e1 : (#[Operand.tmp 32, .tmp 33] : Array Operand).map c.eval = #[.agg (f.cells (.slice sa sn sc)), .int .i64 ver] := by simp [Ze, c32, c33]
 refine wpl_gcall (k := 3) (d := 31) (b := true) rfl rfl c31 (Zy (by kernel_rfl) rfl) (by rw [e1]; exact has_c) ?_
 rintro e w1 ⟨bb, rfl, hbb, hm⟩
 refine ⟨_, rfl, Zv rfl (x_pickT (v := .bool bb) (by rw [Ze, Zn (by decide)]; exact c31) (by rw [Ze, Zq (by omega)])) (wpList_nil ⟨rfl, (hs2.put (by simp) _).put (by simp) _, hm, ?_⟩)⟩
 rw [Zq (by simp only [Zs]; omega)]
 congr 1
 have hh : f.has ver = true ↔ f.from_ <= ver /\ (f.to < 0 \/ ver <= f.to) := by simp [FD.has]
 cases hv : f.has ver
 ·cases bb
  ·rfl
  ·exact absurd (hh.2 (hbb.1 rfl)) (by rw [hv]; decide)
 ·exact hbb.2 (hh.1 hv)
theorem zeroTag : zeroOf Tryz.prog 63 = some (.agg #[.int .u32 0, .slice none 0 0]) := by kernel_rfl
theorem tagW_len {p : Int × List UInt8} (h : p.1 < 4294967296) : (tagW p).length <= 32800 := by
 have h1 := uvE_ten (n := p.1.toNat) (by omega)
 have h2 := whole_length p.2
 have h3 := uvE_ten (n := (whole p.2).length) (by omega)
 simp only [tagW, List.length_append]; omega
theorem tags_len : ∀ (u : Tags), (∀ p ∈ u, p.1 < 4294967296) -> (u.flatMap tagW).length <= u.length * 32800
 | [], _ => by simp
 | p :: u, h => by
  have h1 := tags_len u (fun q hq => h q (by simp [hq]))
  have h2 := tagW_len (h p (by simp))
  simp only [List.flatMap_cons, List.length_append, List.length_cons]
  omega
/-- the tags that are unknown -/
def UnkC (P : Program) (f : FuncId) (v uv : Value) (w : World) (u : Tags) : Prop := Calls P f #[v, uv] w fun e w' => ∃ rv g, e = .returned rv /\ Mod none' w w' /\ ElemsI w' rv u.length 2 g /\ ∀ i (h : i < u.length), g i 0 = .int .u32 (u[i]).1 /\ 0 <= (u[i]).1 /\ (u[i]).1 < 4294967296 /\ OctI w' (g i 1) (u[i]).2
end Go.Proofs.YtmehfgiadapekaaGreat
