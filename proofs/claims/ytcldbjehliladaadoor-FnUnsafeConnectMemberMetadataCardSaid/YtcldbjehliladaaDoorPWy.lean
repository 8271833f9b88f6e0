/-
  The writer of package spec: a part.
-/
import Derived.Test.YtcldbjehliladaaDoorPWx
set_option linter.unusedSimpArgs false
set_option linter.unusedVariables false
namespace Go.Proofs.YtcldbjehliladaaDoor
open Go Go.RowKit
/-- octets behind octets: what is turned -/
theorem x_octs {P : Program} {ρ : Operand -> Value} {w : World} {d : Option Tmp} {ty : TypeId} {p : String} {af : Array Edge} {g : Option (Nat × Bool)} {s x : Operand} {base : Nat} {v xv : Value} {bs cs : List UInt8} (hI : elemInfo P 22 5 1 = true)
  (hs : ρ s = v) (hx : ρ x = xv) (hown : OwnB w base v bs) (ho : OctI w xv cs) (hsm : bs.length + cs.length <= 4294967296) (hbase : base <= w.heap.size) :
  ∃ v' w', (execOp ρ ⟨d, .call ⟨.builtin .append, #[s, x], #[22, 22]⟩, ty, p, af, g⟩).run P w = .ok (.value v') w' /\ OwnB w' base v' (bs ++ cs) /\ Mod (fun k => v.ownBlock = some k) w w' /\ ∀ k, v'.ownBlock = some k -> v.ownBlock = some k \/ w.heap.size <= k := by
 by_cases hb : cs = []
 ·subst hb
  obtain ⟨ao, cap, hvs⟩ : ∃ ao cap, xv = .slice ao 0 cap := by
   rcases ho with ⟨_, h⟩ | ⟨sb, off, cap, c, t, fr, h1, _⟩
   ·exact h
   ·exact ⟨_, _, h1⟩
  obtain ⟨hu, i, z, hi, hz, h2, h3, h4, h5, h6⟩ := elemInfo_spec hI
  subst hvs
  rw [List.append_nil]
  rcases hown.2 with ⟨hv0, hl0⟩ | ⟨g', cap', cur, hv0, q1, q2, q3, q4, q5, q6⟩
  ·subst hv0
   have : bs = [] := List.eq_nil_of_length_eq_zero hl0
   subst this
   refine ⟨.slice none 0 0, w, ?_, hown, .refl w, fun k hk => .inl hk⟩
   cases ao <;> simp [execOp, resolve, invoke, builtin, hs, hx, Builtin.append_, run_underlying hu, sizeOf, typeInfo, hi, Builtin.lenOf, Builtin.firstCells, loadCells, loadCellsFrom]
  ·subst hv0
   have q7 : ¬ cap' < bs.length := by omega
   refine ⟨.slice (some ⟨g', 0, none⟩) bs.length cap', w, ?_, hown, .refl w, fun k hk => .inl hk⟩
   cases ao <;> simp [execOp, resolve, invoke, builtin, hs, hx, Builtin.append_, run_underlying hu, sizeOf, typeInfo, hi, Builtin.lenOf, Builtin.firstCells, loadCells, loadCellsFrom, q7, storeCells]
 ·obtain ⟨sb, off, cap, c, tc, fr, hvs, hcl, hml, hh, hcc⟩ : ∃ sb off cap c t fr, xv = .slice (some ⟨sb, off, none⟩) cs.length cap /\ cs.length <= cap /\ cap <= maxLen /\ w.heap[sb]? = some (.cells c t fr) /\ ∀ i (hi : i < cs.length), c[off + i]? = some (.int .u8 (cs[i]).toNat) := by
   rcases ho with ⟨h, _⟩ | h
   ·exact (hb h).elim
   ·exact h
  obtain ⟨v', w', hr, k1, k2, _, k4⟩ := x_append (P := P) (ρ := ρ) (w := w) (d := d) (ty := ty) (p := p) (af := af) (g := g) (s := s) (x := x) (base := base) (v := v) (n := bs.length) (xs := octV bs) (ad := ⟨sb, off, none⟩) (m := cs.length) (c := cap) (news := octV cs) hI hs (hx.trans hvs) hown (by rw [octV_length]; omega) (fun j u hu => by
   rw [Addr.add_mid, Zc hh]
   simp only [octV, List.getElem?_map, Option.map_eq_some_iff] at hu
   obtain ⟨q, hq, rfl⟩ := hu
   obtain ⟨hj, rfl⟩ := List.getElem?_eq_some_iff.1 hq
   exact hcc j hj) (fun u hu => by obtain ⟨q, _, rfl⟩ := List.mem_map.1 hu; rfl) hsm hbase
  refine ⟨v', w', hr, ?_, k2, k4⟩
  unfold OwnB
  rw [List.length_append, octV_append]
  exact k1
theorem counted_len {flex nl : Bool} {n size : Nat} (h : n <= 4294967295 /\ size <= 8) : (counted flex nl n size).length <= 10 := by
 have := uvE_ten (n := n + 1) (by omega)
 unfold counted
 split
 ·split
  ·simp
  ·omega
 ·split
  ·rw [fixedE_length]; omega
  ·rw [fixedE_length]; omega
theorem leafW_len {k : Int} {nl flex : Bool} {t : Tr} : (leafW k nl flex t).length <= 32800 := by
 have hw := whole_length t.S
 have hd : (if nl = true then [] else whole t.S).length <= 32767 := by
  split
  ·simp
  ·exact hw
 unfold leafW
 split
 ·simp
 ·split
  ·rw [uu_length]; omega
  ·split
   ·have := counted_len (flex := flex) (nl := nl) (n := (if nl = true then [] else whole t.S).length) (size := 2) ⟨by omega, by omega⟩
    rw [List.length_append]; omega
   ·split
    ·have := counted_len (flex := flex) (nl := nl) (n := (if nl = true then [] else whole t.S).length) (size := 4) ⟨by omega, by omega⟩
     rw [List.length_append]; omega
    ·rw [fixedE_length]
     have : width k <= 8 := by unfold width; split; omega; split; omega; split <;> omega
     omega
theorem fieldW_leaf {f : FD} {ver : Int} {flex : Bool} {t : Tr} (hk : leafK f.kind = true) : fieldW f ver flex t = leafW f.kind (nullW f.null ver t) flex t := by
 obtain ⟨k, fr, to, nl, g, d, o, sub⟩ := f
 simp only [FD.kind] at hk
 have h1 : ¬ k = 11 := fun e => by subst e; simp [leafK] at hk
 have h2 : ¬ k = 10 := fun e => by subst e; simp [leafK] at hk
 simp only [fieldW, FD.kind, FD.null]
 rw [if_neg h1, if_neg h2]
theorem fieldsW_append : ∀ (a b : List FD) (k : Nat) (ver : Int) (flex : Bool) (t : Tr), fieldsW (a ++ b) k ver flex t = fieldsW a k ver flex t ++ fieldsW b (k + a.length) ver flex t
 | [], b, k, ver, flex, t => by simp [fieldsW]
 | f :: a, b, k, ver, flex, t => by
  simp only [List.cons_append, fieldsW, List.length_cons]
  rw [fieldsW_append a b (k + 1) ver flex t, List.append_assoc, show k + 1 + a.length = k + (a.length + 1) by omega]
theorem fieldsW_len {ver : Int} {flex : Bool} {t : Tr} : ∀ (fs : List FD) (k : Nat), (∀ f ∈ fs, leafK f.kind = true) -> (fieldsW fs k ver flex t).length <= fs.length * 32800
 | [], k, _ => by simp [fieldsW]
 | f :: r, k, h => by
  have h1 := fieldsW_len (ver := ver) (flex := flex) (t := t) r (k + 1) (fun g hg => h g (by simp [hg]))
  simp only [fieldsW, List.length_append, List.length_cons]
  have h2 : (if (decide (f.tag < 0) && f.has ver) = true then fieldW f ver flex (t.L.getD k .zero) else []).length <= 32800 := by
   split
   ·rw [fieldW_leaf (h f (by simp))]; exact leafW_len
   ·simp
  rw [Nat.add_mul]
  omega
set_option maxRecDepth 100000 in
set_option maxHeartbeats 1000000 in
/-- 'f.Tag < 0 && f.has(version)' -/
theorem part_test {w : World} {a : Act} {id b13 : Nat} {ver : Int} {f : FD} {sa : Option Addr} {sn sc : Nat} {T2 : TypeId} {y0 y1 y2 y3 y4 y5 y6 y7 ya yb : TypeId} {p0 p1 p2 p3 p4 p5 p6 p7 : String} {e0 e1 e2 e3 e4 e5 e6 e7 : Array Edge} {ts6 : Array TypeId}
  (hN : a.tmps.size = 132) (g1 : Act.get a 1 = .int .i64 ver) (g13 : Act.get a 13 = .pointer (some ⟨b13, 0, none⟩)) (h13 : w.heap[b13]? = some (.cells (f.cells (.slice sa sn sc)) T2 (0, 0))) (hg : f.tag < 0) :
  (Code.region id #[⟨some 28, .fieldAddr 56 (.tmp 13) 4, y0, p0, e0, none⟩, ⟨some 29, .load 3 (.tmp 28), y1, p1, e1, none⟩, ⟨some 30, .binOp .lss ya (.tmp 29) (.const (.int .i64 0)) yb, y2, p2, e2, none⟩, ⟨some 31, .move (.tmp 30), y3, p3, e3, none⟩,
   ⟨some 32, .load 56 (.tmp 13), y4, p4, e4, some (3, true)⟩, ⟨some 33, .move (.tmp 1), y5, p5, e5, some (3, true)⟩, ⟨some 34, .call ⟨.value (.func 61), #[.tmp 32, .tmp 33], ts6⟩, y6, p6, e6, some (3, true)⟩,
   ⟨some 35, .pick (.tmp 31) (.tmp 34) (.const (.bool false)), y7, p7, e7, none⟩] false).wp Tryd.prog (fun e a' w' => e = .normal /\ SameBut (fun t => t ∈ [28, 29, 30, 31, 32, 33, 34, 35]) a a' /\ Mod none' w w' /\ Act.get a' 35 = .bool (f.has ver)) a w := by
 refine wp_region_lit (Zv rfl (Za (o := 4) (by kernel_rfl) (b := b13) (o0 := 0) (by rw [Ze]; exact g13)) (Zv rfl (Zl (by kernel_rfl) (b := b13) (o := 0 + 4) (v := .int .i64 f.tag) ?_ ?_) (Zv rfl (x_lss (k := .i64) (m := f.tag) (n := 0) ?_ rfl) (Zv rfl Zm ?_))))
 ·simp (disch := first | omega | simp only [Zs]; omega) only [Zo, Ze, Zn, Zq]
 ·rw [Zc h13]; rfl
 ·simp (disch := first | omega | simp only [Zs]; omega) only [Zo, Ze, Zn, Zq]
 refine wpl_abs (fun b => SameBut (fun t => t ∈ [28, 29, 30, 31, 32, 33, 34, 35]) a b /\ Act.get b 31 = .bool true) ⟨((((SameBut.refl a).put (by simp) _).put (by simp) _).put (by simp) _).put (by simp) _, ?_⟩ ?_
 ·simp (disch := first | omega | simp only [Zs]; omega) only [Zo, Ze, Zn, Zq]
  rw [decide_eq_true hg]
 rintro b ⟨hs, b31⟩
 have bN : b.tmps.size = 132 := hs.size.trans hN
 refine wpl_gval (k := 3) (d := 31) (b := true) rfl rfl b31 (x_loadN (cs := (f.cells (.slice sa sn sc)).toList) (b := b13) (o := 0) (by kernel_rfl) (by rw [Ze]; exact (hs.get 13 (by decide)).trans g13) (fun j v hv => by rw [Zc h13, Nat.zero_add]; simpa using hv)) ?_
 refine wpl_gval (k := 3) (d := 31) (b := true) rfl rfl (by rw [Zn (by decide)]; exact b31) Zm ?_
 refine wpl_abs (fun c => SameBut (fun t => t ∈ [28, 29, 30, 31, 32, 33, 34, 35]) a c /\ Act.get c 31 = .bool true /\ Act.get c 32 = .agg (f.cells (.slice sa sn sc)) /\ Act.get c 33 = .int .i64 ver) ⟨(hs.put (by simp) _).put (by simp) _, ?_, ?_, ?_⟩ ?_
 ·simp (disch := first | omega | simp only [Zs]; omega) only [Zo, Ze, Zn, Zq, b31]
 ·simp (disch := first | omega | simp only [Zs]; omega) only [Zo, Ze, Zn, Zq]
 ·simp (disch := first | omega | simp only [Zs]; omega) only [Zo, Ze, Zn, Zq]
  exact (hs.get 1 (by decide)).trans g1
 rintro c ⟨hs2, c31, c32, c33⟩
 have cN : c.tmps.size = 132 := hs2.size.trans hN
 have e1 : (#[Operand.tmp 32, .tmp 33] : Array Operand).map c.eval = #[.agg (f.cells (.slice sa sn sc)), .int .i64 ver] := by simp [Ze, c32, c33]
 refine wpl_gcall (k := 3) (d := 31) (b := true) rfl rfl c31 (Zy (by kernel_rfl) rfl) (by rw [e1]; exact has_c) ?_
 rintro e w1 ⟨bb, rfl, hbb, hm⟩
 refine ⟨_, rfl, Zv rfl (x_pickT (v := .bool bb) (by rw [Ze, Zn (by decide)]; exact c31) (by rw [Ze, Zq (by omega)])) (wpList_nil ⟨rfl, (hs2.put (by simp) _).put (by simp) _, hm, ?_⟩)⟩
 rw [Zq (by simp only [Zs]; omega)]
 congr 1
 have hh : f.has ver = true ↔ f.from_ <= ver /\ (f.to < 0 \/ ver <= f.to) := by simp [FD.has]
 cases hv : f.has ver
 ·cases bb
  ·rfl
  ·exact absurd (hh.2 (hbb.1 rfl)) (by rw [hv]; decide)
 ·exact hbb.2 (hh.1 hv)
theorem zeroTag : zeroOf Tryd.prog 60 = some (.agg #[.int .u32 0, .slice none 0 0]) := by kernel_rfl
theorem tagW_len {p : Int × List UInt8} (h : p.1 < 4294967296) : (tagW p).length <= 32800 := by
 have h1 := uvE_ten (n := p.1.toNat) (by omega)
 have h2 := whole_length p.2
 have h3 := uvE_ten (n := (whole p.2).length) (by omega)
 simp only [tagW, List.length_append]; omega
theorem tags_len : ∀ (u : Tags), (∀ p ∈ u, p.1 < 4294967296) -> (u.flatMap tagW).length <= u.length * 32800
 | [], _ => by simp
 | p :: u, h => by
  have h1 := tags_len u (fun q hq => h q (by simp [hq]))
  have h2 := tagW_len (h p (by simp))
  simp only [List.flatMap_cons, List.length_append, List.length_cons]
  omega
/-- the tags that are unknown -/
def UnkC (P : Program) (f : FuncId) (v uv : Value) (w : World) (u : Tags) : Prop := Calls P f #[v, uv] w fun e w' => ∃ rv g, e = .returned rv /\ Mod none' w w' /\ ElemsI w' rv u.length 2 g /\ ∀ i (h : i < u.length), g i 0 = .int .u32 (u[i]).1 /\ 0 <= (u[i]).1 /\ (u[i]).1 < 4294967296 /\ OctI w' (g i 1) (u[i]).2
end Go.Proofs.YtcldbjehliladaaDoor
