/-
  The writer of package spec: numbers and counts.
-/
import Derived.Test.YtcldbjehliladaaDoorPWb
import Derived.Test.YtcldbjehliladaaDoorPTelO
set_option linter.unusedSimpArgs false
set_option linter.unusedVariables false
namespace Go.Proofs.YtcldbjehliladaaDoor
open Go Go.RowKit
section
variable {P : Program} {ρ : Operand -> Value} {w : World} {d : Option Tmp} {ty : TypeId} {p : String} {af : Array Edge} {g : Option (Nat × Bool)}
theorem x_mul {x y : Operand} {t u : TypeId} {k : IntKind} {m n : Int} (hx : ρ x = .int k m) (hy : ρ y = .int k n) : (execOp ρ ⟨d, .binOp .mul t x y u, ty, p, af, g⟩).run P w = .ok (.value (.int k (k.wrap (m * n)))) w := by
 simp [execOp, hx, hy, eqGuard, binOp, Op.intArith]
theorem x_bitAnd {x y : Operand} {t u : TypeId} {k : IntKind} {m n : Int} (hx : ρ x = .int k m) (hy : ρ y = .int k n) : (execOp ρ ⟨d, .binOp .and t x y u, ty, p, af, g⟩).run P w = .ok (.value (.int k (bits .and k m n))) w := by
 simp [execOp, hx, hy, eqGuard, binOp, Op.intBits]
 rfl
theorem x_bitOr {x y : Operand} {t u : TypeId} {k : IntKind} {m n : Int} (hx : ρ x = .int k m) (hy : ρ y = .int k n) : (execOp ρ ⟨d, .binOp .or t x y u, ty, p, af, g⟩).run P w = .ok (.value (.int k (bits .or k m n))) w := by
 simp [execOp, hx, hy, eqGuard, binOp, Op.intBits]
 rfl
theorem x_shr {x y : Operand} {t u : TypeId} {k k' : IntKind} {m n : Int} (hx : ρ x = .int k m) (hy : ρ y = .int k' n) (hn : 0 <= n) (hb : n.toNat <= k.bits) : (execOp ρ ⟨d, .binOp .shr t x y u, ty, p, af, g⟩).run P w = .ok (.value (.int k (m / 2 ^ n.toNat))) w := by
 simp [execOp, hx, hy, eqGuard, binOp, Op.shift]
 rw [if_neg (by omega), Nat.min_eq_left hb, Int.fdiv_eq_ediv_of_nonneg _ (Int.pow_nonneg (by decide))]
end
/-- octets as cells -/
def octV (bs : List UInt8) : List Value := bs.map fun x => Value.int .u8 x.toNat
theorem octV_length (bs : List UInt8) : (octV bs).length = bs.length := by simp [octV]
theorem octV_append (a b : List UInt8) : octV (a ++ b) = octV a ++ octV b := by simp [octV]
/-- octets in memory of their own, at or above a bound -/
def OwnB (w : World) (base : Nat) (v : Value) (bs : List UInt8) : Prop := w.ownsRow base 5 1 v bs.length (octV bs)
theorem OwnB.nil (w : World) (base : Nat) : OwnB w base (.slice none 0 0) [] := World.ownsRow_nil _ _ _ _
theorem OwnB.mod {w w' : World} {base : Nat} {v : Value} {bs : List UInt8} {S : Nat -> Prop} (h : OwnB w base v bs) (hm : Mod S w w') (hs : ∀ k, base <= k -> ¬ S k) : OwnB w' base v bs :=
 ownsRow_mod h hm fun k hk => hs k (World.ownsRow.lt h k hk).1
theorem OwnB.low {w : World} {base base' : Nat} {v : Value} {bs : List UInt8} (h : OwnB w base v bs) (hb : base' <= base) : OwnB w base' v bs := by
 refine ⟨h.1, ?_⟩
 rcases h.2 with hn | ⟨g, cap, cur, h1, h2, rest⟩
 ·exact .inl hn
 ·exact .inr ⟨g, cap, cur, h1, by omega, rest⟩
theorem OwnB.oct {w : World} {base : Nat} {v : Value} {bs : List UInt8} (h : OwnB w base v bs) : ∃ nl, (bs ≠ [] -> nl = false) /\ Oct w (fun k => base <= k) v bs nl := by
 obtain ⟨h1, h2⟩ := h
 rcases h2 with ⟨rfl, h2⟩ | ⟨g, cap, cur, rfl, h3, h4, h5, h6, h7, h8⟩
 ·have : bs = [] := List.eq_nil_of_length_eq_zero h2
  subst this
  exact ⟨true, fun h => (h rfl).elim, .inl ⟨0, .inl rfl, .inl ⟨rfl, rfl, rfl⟩⟩⟩
 ·refine ⟨false, fun _ => rfl, .inl ⟨g, .inr h3, .inr ⟨rfl, 0, cap, cur, _, (0, 0), rfl, h5, h6, h4, fun i hi => ?_⟩⟩⟩
  have e := congrArg (fun q => q[i]?) h8
  simp only [List.getElem?_take, Nat.mul_one, if_pos hi, Array.getElem?_toList] at e
  rw [Nat.zero_add, e]
  simp [octV, hi]
theorem OwnB.slice {w : World} {base : Nat} {v : Value} {bs : List UInt8} (h : OwnB w base v bs) : ∃ ao cap, v = .slice ao bs.length cap := owns_slice h
/-- octets that came in: those of no length may bear any address -/
def OctI (w : World) (v : Value) (bs : List UInt8) : Prop := (bs = [] /\ ∃ ao cap, v = .slice ao 0 cap) \/
 ∃ sb off cap c t fr, v = .slice (some ⟨sb, off, none⟩) bs.length cap /\ bs.length <= cap /\ cap <= maxLen /\ w.heap[sb]? = some (.cells c t fr) /\ ∀ i (hi : i < bs.length), c[off + i]? = some (.int .u8 (bs[i]).toNat)
theorem OctI.mod {w w' : World} {v : Value} {bs : List UInt8} (h : OctI w v bs) (hm : Mod none' w w') : OctI w' v bs := by
 rcases h with h | ⟨sb, off, cap, c, t, fr, h1, h2, h3, h4, h5⟩
 ·exact .inl h
 ·exact .inr ⟨sb, off, cap, c, t, fr, h1, h2, h3, hm.some h4 (fun f => f), h5⟩
theorem OctI.slice {w : World} {v : Value} {bs : List UInt8} (h : OctI w v bs) : ∃ ao cap, v = .slice ao bs.length cap /\ (bs ≠ [] -> bs.length <= cap /\ ∃ sb off, ao = some ⟨sb, off, none⟩) := by
 rcases h with ⟨rfl, ao, cap, h⟩ | ⟨sb, off, cap, c, t, fr, h1, h2, h3, h4, h5⟩
 ·exact ⟨ao, cap, h, fun h => (h rfl).elim⟩
 ·exact ⟨_, cap, h1, fun _ => ⟨h2, sb, off, rfl⟩⟩
theorem OctI.of_oct {w : World} {F : Nat -> Prop} {v : Value} {bs : List UInt8} {nl : Bool} (h : Oct w F v bs nl) : OctI w v bs := by
 rcases h with ⟨sb, _, h⟩ | ⟨h, ao, cap, h2, _⟩
 ·rcases h with ⟨_, rfl, rfl⟩ | ⟨_, off, cap, c, t, fr, h2, h3, h4, h5, h6⟩
  ·exact .inl ⟨rfl, _, _, rfl⟩
  ·exact .inr ⟨sb, off, cap, c, t, fr, h2, h3, h4, h5, h6⟩
 ·exact .inl ⟨h, ao, cap, h2⟩
/-- octets are put behind octets -/
theorem wpl_octs {P : Program} {Q : Exit -> Act -> World -> Prop} {ops : Array Oper} {rest : List Oper} {a : Act} {w : World} {d : Option Tmp} {ty : TypeId} {p : String} {af : Array Edge} {s x : Operand} {base : Nat} {v xv : Value} {bs cs : List UInt8} (hI : elemInfo P 22 5 1 = true)
  (hs : a.eval s = v) (hx : a.eval x = xv) (hown : OwnB w base v bs) (ho : OctI w xv cs) (hsm : bs.length + cs.length <= 4294967296) (hbase : base <= w.heap.size)
  (hk : ∀ v' w', OwnB w' base v' (bs ++ cs) -> Mod (fun k => base <= k) w w' -> wpList P ops Q rest (a.put d v') w') :
  wpList P ops Q (⟨d, .call ⟨.builtin .append, #[s, x], #[22, 22]⟩, ty, p, af, none⟩ :: rest) a w := by
 by_cases hb : cs = []
 ·subst hb
  rw [List.append_nil] at hk
  obtain ⟨ao, cap, hvs⟩ : ∃ ao cap, xv = .slice ao 0 cap := by
   rcases ho with ⟨_, h⟩ | ⟨sb, off, cap, c, t, fr, h1, _⟩
   ·exact h
   ·exact ⟨_, _, h1⟩
  obtain ⟨hu, i, z, hi, hz, h2, h3, h4, h5, h6⟩ := elemInfo_spec hI
  subst hvs
  rcases hown.2 with ⟨hv0, hl0⟩ | ⟨g, cap', cur, hv0, q1, q2, q3, q4, q5, q6⟩
  ·subst hv0
   have : bs = [] := List.eq_nil_of_length_eq_zero hl0
   subst this
   refine Zv rfl (v := .slice none 0 0) (w' := w) ?_ (hk _ _ hown (.refl w))
   cases ao <;> simp [execOp, resolve, invoke, builtin, hs, hx, Builtin.append_, run_underlying hu, sizeOf, typeInfo, hi, Builtin.lenOf, Builtin.firstCells, loadCells, loadCellsFrom]
  ·subst hv0
   have q7 : ¬ cap' < bs.length := by omega
   refine Zv rfl (v := .slice (some ⟨g, 0, none⟩) bs.length cap') (w' := w) ?_ (hk _ _ hown (.refl w))
   cases ao <;> simp [execOp, resolve, invoke, builtin, hs, hx, Builtin.append_, run_underlying hu, sizeOf, typeInfo, hi, Builtin.lenOf, Builtin.firstCells, loadCells, loadCellsFrom, q7, storeCells]
 ·have hpos : 0 < cs.length := List.length_pos_iff.2 hb
  obtain ⟨sb, off, cap, c, tc, fr, hvs, hcl, hml, hh, hcc⟩ : ∃ sb off cap c t fr, xv = .slice (some ⟨sb, off, none⟩) cs.length cap /\ cs.length <= cap /\ cap <= maxLen /\ w.heap[sb]? = some (.cells c t fr) /\ ∀ i (hi : i < cs.length), c[off + i]? = some (.int .u8 (cs[i]).toNat) := by
   rcases ho with ⟨h, _⟩ | h
   ·exact (hb h).elim
   ·exact h
  refine wpl_append (base := base) (v := v) (n := bs.length) (xs := octV bs) (ad := ⟨sb, off, none⟩) (m := cs.length) (c := cap) (news := octV cs) hI hs (hx.trans hvs) hown (by rw [octV_length]; omega) (fun j u hu => ?_) (fun u hu => by obtain ⟨q, _, rfl⟩ := List.mem_map.1 hu; rfl) hsm hbase ?_
  ·rw [Addr.add_mid, Zc hh]
   simp only [octV, List.getElem?_map, Option.map_eq_some_iff] at hu
   obtain ⟨q, hq, rfl⟩ := hu
   obtain ⟨hj, rfl⟩ := List.getElem?_eq_some_iff.1 hq
   exact hcc j hj
  ·intro v' w' h1 h2 _ _
   refine hk v' w' ?_ (h2.mono fun k _ e => (World.ownsRow.lt hown k e).1)
   unfold OwnB
   rw [List.length_append, octV_append]
   exact h1
theorem octs_info : elemInfo Tryd.prog 22 5 1 = true := by kernel_rfl
/-- one octet is put behind octets -/
theorem wpl_oct1 {P : Program} {Q : Exit -> Act -> World -> Prop} {ops : Array Oper} {rest : List Oper} {a : Act} {w : World} {d : Option Tmp} {ty ty1 : TypeId} {p p1 : String} {af af1 : Array Edge} {s x : Operand} {base t1 : Nat} {v : Value} {bs : List UInt8} {c : UInt8} (hI : elemInfo P 22 5 1 = true)
  (hx : a.eval x = .int .u8 c.toNat) (ht : t1 < a.tmps.size) (hs : (a.put (some t1) (.slice (some ⟨w.heap.size, 0, none⟩) 1 1)).eval s = v) (hown : OwnB w base v bs) (hsm : bs.length + 1 <= 4294967296) (hbase : base <= w.heap.size)
  (hk : ∀ v' w', OwnB w' base v' (bs ++ [c]) -> Mod (fun k => base <= k) w w' -> wpList P ops Q rest ((a.put (some t1) (.slice (some ⟨w.heap.size, 0, none⟩) 1 1)).put d v') w') :
  wpList P ops Q (⟨some t1, .buildSlice 22 1 #[(0, x)], ty1, p1, af1, none⟩ :: ⟨d, .call ⟨.builtin .append, #[s, .tmp t1], #[22, 22]⟩, ty, p, af, none⟩ :: rest) a w := by
 refine Zv rfl (x_buildSlice1 (v := .int .u8 c.toNat) hI hx rfl) ?_
 have k1 := Zh w (.cells (Value.int .u8 c.toNat).cells 5)
 have m1 : Mod none' w (w.alloc (.cells (Value.int .u8 c.toNat).cells 5)) := (Mod.refl w).alloc _
 have hsz : (w.alloc (.cells (Value.int .u8 c.toNat).cells 5)).heap.size = w.heap.size + 1 := by simp
 refine wpl_octs (base := base) (v := v) (xv := .slice (some ⟨w.heap.size, 0, none⟩) 1 1) (bs := bs) (cs := [c]) hI hs ?_ (hown.mod m1 (fun _ _ f => f)) ?_ (by simpa using hsm) (by omega) ?_
 ·show Act.get _ t1 = _
  rw [Zq ht]
 ·exact .inr ⟨w.heap.size, 0, 1, _, _, (0, 0), rfl, by simp, by simp [maxLen], k1, fun i hi => by
   have : i = 0 := by simpa using hi
   subst this; rfl⟩
 ·intro v' w' h1 h2
  exact hk v' w' h1 (m1.none.trans h2)
/-- what is made is octets of its own -/
def BytesC (P : Program) (f : FuncId) (args : Array Value) (w : World) (bs : List UInt8) : Prop := Calls P f args w fun e w' => ∃ v, e = .returned v /\ Mod none' w w' /\ OwnB w' w.heap.size v bs
theorem Mod.fresh {w a b : World} (h : Mod none' w a) (k : Mod (fun k => w.heap.size <= k) a b) : Mod none' w b := h.trans' k (fun _ _ f => f) (fun i hi e => by omega)
theorem uvE_len : ∀ (k n : Nat), n < 128 ^ (k + 1) -> (uvE n).length <= k + 1
 | 0, n, h => by rw [uvE_small (by omega)]; simp
 | k + 1, n, h => by
  by_cases hn : n <= 127
  ·rw [uvE_small hn]; simp
  ·rw [uvE_big (by omega)]
   have := uvE_len k (n / 128) (by rw [Nat.div_lt_iff_lt_mul (by decide)]; rw [Nat.pow_succ] at h; exact h)
   simp; omega
theorem uvE_ten {n : Nat} (h : n < 18446744073709551616) : (uvE n).length <= 10 := uvE_len 9 n (Nat.lt_of_lt_of_le h (by decide))
theorem and127 {m : Int} (h0 : 0 <= m) (h1 : m < 18446744073709551616) : bits .and .u64 m 127 = m % 128 := bits_mask .u64 64 (by decide) wraps_u64 7 (by decide) m h0 (by omega)
theorem or128 {m : Nat} (h : m < 128) : bits .or .u8 (m : Int) 128 = (m : Int) + 128 := by
 have h' : ∀ i : Fin 128, bits BinOp.or IntKind.u8 (i.val : Int) 128 = (i.val : Int) + 128 := by decide +kernel
 exact h' ⟨m, h⟩
theorem wrap_u8 {m : Int} (h0 : 0 <= m) (h1 : m < 256) : IntKind.u8.wrap m = m := by
 simp only [IntKind.wrap, IntKind.bits, IntKind.signed]; simp; omega
theorem uv_c {w : World} {n : Nat} (hn : n < 18446744073709551616) : BytesC Tryd.prog 66 #[.int .u64 n] w (uvE n) := by
 refine calls_of_wp Tryd.func66 rfl ?_
 rw [Tryd.ntmps66]
 refine wp_act (fun a : Act => Act.get a 0 = .int .u64 n /\ a.tmps.size = 20 /\ a.defers = []) ⟨by rw [Zj _ _ _ (by simp)]; rfl, by simp, rfl⟩ ?_
 rintro a ⟨a0, aN, ad⟩
 refine wp_seq (wp_region_lit (Zv rfl Zi (wpList_nil (wp_seq (wp_region_lit (Zv rfl Zi (wpList_nil ?_)))))))
 refine wp_seq (wp_block ?_)
 refine wp_loop_ghost (fun (m : Nat) (a : Act) (w' : World) => a.tmps.size = 20 /\ a.defers = [] /\ Act.get a 0 = .int .u64 m /\ m < 18446744073709551616 /\ Mod none' w w' /\ ∃ done, OwnB w' w.heap.size (Act.get a 3) done /\ done ++ uvE m = uvE n /\ done.length + m <= n) n ⟨?_, ?_, ?_, hn, .refl w, [], ?_, rfl, by simp⟩ ?_
 ·simp only [Zs]; exact aN
 ·simp only [Zd]; exact ad
 ·simp (disch := first | omega | simp only [Zs]; omega) only [Zo, Ze, Zn, Zq, a0]
 ·simp (disch := first | omega | simp only [Zs]; omega) only [Zo, Ze, Zn, Zq]
  exact OwnB.nil _ _
 clear a0 aN ad a
 rintro m a w1 ⟨aN, ad, a0, hm64, hmod, done, hown, heq, hlen⟩
 refine wp_seq (wp_seq (wp_region_lit (Zv rfl Zm (Zv rfl (x_gtr (k := .u64) (m := m) (n := 127) ?_ rfl) (wpList_nil ?_)))))
 ·simp (disch := first | omega | simp only [Zs]; omega) only [Zo, Ze, Zn, Zq, a0]
 by_cases hbig : 127 < m
 ·refine wp_cond_true ?_ (wp_skip ?_)
  ·simp (disch := first | omega | simp only [Zs]; omega) only [Zo, Ze, Zn, Zq]
   simp; omega
  refine wp_block (wp_seq (wp_region_lit (Zv rfl Zm (Zv rfl Zm (Zv rfl (x_bitAnd (k := .u64) (m := m) (n := 127) ?_ rfl) (Zv rfl (x_convInt (n := (m : Int) % 128) (k := .u64) (k' := .u8) (by kernel_rfl) (by kernel_rfl) ?_) (Zv rfl (x_bitOr (k := .u8) (m := ((m % 128 : Nat) : Int)) (n := 128) ?_ rfl) ?_)))))))
  ·simp (disch := first | omega | simp only [Zs]; omega) only [Zo, Ze, Zn, Zq, a0]
  ·simp (disch := first | omega | simp only [Zs]; omega) only [Zo, Ze, Zn, Zq]
   rw [and127 (by omega) (by omega)]
  ·simp (disch := first | omega | simp only [Zs]; omega) only [Zo, Ze, Zn, Zq]
   rw [wrap_u8 (by omega) (by omega)]; rfl
  rw [or128 (by omega)]
  refine wpl_abs (fun a' => a'.tmps.size = 20 /\ a'.defers = [] /\ Act.get a' 0 = .int .u64 m /\ Act.get a' 6 = Act.get a 3 /\ Act.get a' 10 = .int .u8 (UInt8.ofNat (m % 128 + 128)).toNat) ⟨?_, ?_, ?_, ?_, ?_⟩ ?_
  ·simp only [Zs]; exact aN
  ·simp only [Zd]; exact ad
  ·simp (disch := first | omega | simp only [Zs]; omega) only [Zo, Ze, Zn, Zq, a0]
  ·simp (disch := first | omega | simp only [Zs]; omega) only [Zo, Ze, Zn, Zq]
  ·simp (disch := first | omega | simp only [Zs]; omega) only [Zo, Ze, Zn, Zq]
   rw [ofNat_val (by omega)]; rfl
  rintro b ⟨bN, bd, b0, b6, b10⟩
  refine wpl_oct1 (base := w.heap.size) (v := Act.get a 3) (bs := done) (c := UInt8.ofNat (m % 128 + 128)) octs_info (by rw [Ze]; exact b10) (by omega) ?_ hown ?_ hmod.size ?_
  ·simp (disch := first | omega | simp only [Zs]; omega) only [Zo, Ze, Zn, Zq, b6]
  ·have := uvE_ten hn
   have e := congrArg List.length heq
   simp only [List.length_append] at e
   have := uvE_pos m
   omega
  intro v' w2 h1 h2
  have hmod2 : Mod none' w w2 := hmod.fresh h2
  refine Zv rfl Zi (wpList_nil (wp_region_lit (Zv rfl Zm (Zv rfl (x_shr (k := .u64) (k' := .u64) (m := m) (n := 7) ?_ rfl (by decide) (by decide)) (Zv rfl Zi (wpList_nil ?_))))))
  ·simp (disch := first | omega | simp only [Zs]; omega) only [Zo, Ze, Zn, Zq, b0]
  simp only [Exit.then, Exit.inBlock]
  refine ⟨m / 128, by omega, ?_, ?_, ?_, by omega, hmod2, done ++ [UInt8.ofNat (m % 128 + 128)], ?_, ?_, ?_⟩
  ·simp only [Zs]; exact bN
  ·simp only [Zd]; exact bd
  ·simp (disch := first | omega | simp only [Zs]; omega) only [Zo, Ze, Zn, Zq]
   simp
  ·simp (disch := first | omega | simp only [Zs]; omega) only [Zo, Ze, Zn, Zq]
   exact h1
  ·rw [List.append_assoc, <- heq, uvE_big hbig]; rfl
  ·simp; omega
 ·refine wp_cond_false ?_ (wp_exit ?_)
  ·simp (disch := first | omega | simp only [Zs]; omega) only [Zo, Ze, Zn, Zq]
   simp; omega
  simp only [Exit.then, Exit.inBlock, if_true]
  refine wp_seq (wp_region_lit (Zv rfl Zm (Zv rfl Zm (Zv rfl (x_convInt (n := (m : Int)) (k := .u64) (k' := .u8) (by kernel_rfl) (by kernel_rfl) ?_) ?_))))
  ·simp (disch := first | omega | simp only [Zs]; omega) only [Zo, Ze, Zn, Zq, a0]
  refine wpl_abs (fun a' => a'.tmps.size = 20 /\ a'.defers = [] /\ Act.get a' 15 = Act.get a 3 /\ Act.get a' 17 = .int .u8 (UInt8.ofNat m).toNat) ⟨?_, ?_, ?_, ?_⟩ ?_
  ·simp only [Zs]; exact aN
  ·simp only [Zd]; exact ad
  ·simp (disch := first | omega | simp only [Zs]; omega) only [Zo, Ze, Zn, Zq]
  ·simp (disch := first | omega | simp only [Zs]; omega) only [Zo, Ze, Zn, Zq]
   rw [ofNat_val (by omega), wrap_u8 (by omega) (by omega)]
  rintro b ⟨bN, bd, b15, b17⟩
  refine wpl_oct1 (base := w.heap.size) (v := Act.get a 3) (bs := done) (c := UInt8.ofNat m) octs_info (by rw [Ze]; exact b17) (by omega) ?_ hown ?_ hmod.size ?_
  ·simp (disch := first | omega | simp only [Zs]; omega) only [Zo, Ze, Zn, Zq, b15]
  ·have := uvE_ten hn
   have e := congrArg List.length heq
   simp only [List.length_append] at e
   have := uvE_pos m
   omega
  intro v' w2 h1 h2
  refine Zv rfl Zi (wpList_nil (wp_ret (bodyPost_ret (results_tmp rfl _ _ _) ?_ ⟨_, rfl, hmod.fresh h2, ?_⟩)))
  ·simp only [Zd]; exact bd
  ·show OwnB w2 w.heap.size (Act.get _ 2) (uvE n)
   simp (disch := first | omega | simp only [Zs]; omega) only [Zo, Ze, Zn, Zq]
   rw [<- heq, uvE_small (by omega)]
   exact h1
/-- the first octets of a number -/
def fixedP (n : Int) (size q : Nat) : List UInt8 := (List.range q).map fun i => oct8 (n / (256 : Int) ^ (size - 1 - i))
theorem fixedP_succ (n : Int) (size q : Nat) : fixedP n size (q + 1) = fixedP n size q ++ [oct8 (n / (256 : Int) ^ (size - 1 - q))] := by
 simp [fixedP, List.range_succ]
theorem oct8_wrap (n : Int) : Value.int .u8 (IntKind.u8.wrap n) = .int .u8 (oct8 n).toNat := by
 rw [oct8_val]
 simp [IntKind.wrap, IntKind.bits, IntKind.signed]
theorem pow256 (m : Nat) : (2 : Int) ^ (8 * m) = 256 ^ m := by rw [Int.pow_mul]; rfl
theorem fixed_c {w : World} {n : Int} {size : Nat} (hs : size <= 8) : BytesC Tryd.prog 22 #[.int .i64 n, .int .i64 size] w (fixedE n size) := by
 refine calls_of_wp Tryd.func22 rfl ?_
 rw [Tryd.ntmps22]
 refine wp_act (fun a : Act => Act.get a 0 = .int .i64 n /\ Act.get a 1 = .int .i64 size /\ a.tmps.size = 22 /\ a.defers = []) ⟨by rw [Zj _ _ _ (by simp)]; rfl, by rw [Zj _ _ _ (by simp)]; rfl, by simp, rfl⟩ ?_
 rintro a ⟨a0, a1, aN, ad⟩
 refine wp_seq (wp_region_lit (Zv rfl Zi (wpList_nil (wp_seq (wp_region_lit (Zv rfl Zi (wpList_nil ?_)))))))
 refine wp_seq (wp_seq (wp_region_lit (Zv rfl Zm (Zv rfl (x_sub (k := .i64) (m := size) (n := 1) ?_ rfl) (Zv rfl Zi (wpList_nil ?_))))))
 ·simp (disch := first | omega | simp only [Zs]; omega) only [Zo, Ze, Zn, Zq, a1]
 refine wp_block ?_
 refine wp_loop_ghost (fun (j : Nat) (a : Act) (w' : World) => a.tmps.size = 22 /\ a.defers = [] /\ Act.get a 0 = .int .i64 n /\ j <= size /\ Act.get a 6 = .int .i64 ((j : Int) - 1) /\ Mod none' w w' /\ OwnB w' w.heap.size (Act.get a 5) (fixedP n size (size - j))) size ⟨?_, ?_, ?_, Nat.le_refl _, ?_, .refl w, ?_⟩ ?_
 ·simp only [Zs]; exact aN
 ·simp only [Zd]; exact ad
 ·simp (disch := first | omega | simp only [Zs]; omega) only [Zo, Ze, Zn, Zq, a0]
 ·simp (disch := first | omega | simp only [Zs]; omega) only [Zo, Ze, Zn, Zq]
  congr 1
  rw [IntKind.wrap_i64]; omega
 ·simp (disch := first | omega | simp only [Zs]; omega) only [Zo, Ze, Zn, Zq]
  rw [Nat.sub_self]; exact OwnB.nil _ _
 clear a0 a1 aN ad a
 rintro j a w1 ⟨aN, ad, a0, hj, a6, hmod, hown⟩
 refine wp_seq (wp_seq (wp_region_lit (Zv rfl Zm (Zv rfl (x_geq (k := .i64) (m := (j : Int) - 1) (n := 0) ?_ rfl) (wpList_nil ?_)))))
 ·simp (disch := first | omega | simp only [Zs]; omega) only [Zo, Ze, Zn, Zq, a6]
 by_cases hpos : 0 < j
 ·refine wp_cond_true ?_ (wp_skip ?_)
  ·simp (disch := first | omega | simp only [Zs]; omega) only [Zo, Ze, Zn, Zq]
   simp; omega
  obtain ⟨m, rfl⟩ : ∃ m, j = m + 1 := ⟨j - 1, by omega⟩
  refine wp_seq (wp_block (wp_region_lit (Zv rfl Zm (Zv rfl Zm (Zv rfl Zm (Zv rfl (x_mul (k := .i64) (m := 8) (n := (m : Int)) rfl ?_) (Zv rfl (x_shr (k := .i64) (k' := .i64) (m := n) (n := ((8 * m : Nat) : Int)) ?_ ?_ (by omega) ?_) (Zv rfl (x_convInt (n := n / 256 ^ m) (k := .i64) (k' := .u8) (by kernel_rfl) (by kernel_rfl) ?_) ?_))))))))
  ·simp (disch := first | omega | simp only [Zs]; omega) only [Zo, Ze, Zn, Zq, a6]
   congr 1; omega
  ·simp (disch := first | omega | simp only [Zs]; omega) only [Zo, Ze, Zn, Zq, a0]
  ·simp (disch := first | omega | simp only [Zs]; omega) only [Zo, Ze, Zn, Zq]
   congr 1
   rw [IntKind.wrap_i64]; omega
  ·simp only [Int.toNat_natCast, IntKind.bits]; omega
  ·simp (disch := first | omega | simp only [Zs]; omega) only [Zo, Ze, Zn, Zq]
   rw [Int.toNat_natCast, pow256]
  refine wpl_abs (fun a' => a'.tmps.size = 22 /\ a'.defers = [] /\ Act.get a' 0 = .int .i64 n /\ Act.get a' 6 = .int .i64 (m : Nat) /\ Act.get a' 13 = Act.get a 5 /\ Act.get a' 18 = .int .u8 (oct8 (n / 256 ^ m)).toNat) ⟨?_, ?_, ?_, ?_, ?_, ?_⟩ ?_
  ·simp only [Zs]; exact aN
  ·simp only [Zd]; exact ad
  ·simp (disch := first | omega | simp only [Zs]; omega) only [Zo, Ze, Zn, Zq, a0]
  ·simp (disch := first | omega | simp only [Zs]; omega) only [Zo, Ze, Zn, Zq, a6]
   congr 1; omega
  ·simp (disch := first | omega | simp only [Zs]; omega) only [Zo, Ze, Zn, Zq]
  ·simp (disch := first | omega | simp only [Zs]; omega) only [Zo, Ze, Zn, Zq]
   exact oct8_wrap _
  rintro b ⟨bN, bd, b0, b6, b13, b18⟩
  refine wpl_oct1 (base := w.heap.size) (v := Act.get a 5) (bs := fixedP n size (size - (m + 1))) (c := oct8 (n / 256 ^ m)) octs_info (by rw [Ze]; exact b18) (by omega) ?_ hown ?_ hmod.size ?_
  ·simp (disch := first | omega | simp only [Zs]; omega) only [Zo, Ze, Zn, Zq, b13]
  ·simp [fixedP]; omega
  intro v' w2 h1 h2
  refine Zv rfl Zi (wpList_nil ?_)
  simp only [Exit.then, Exit.inBlock]
  refine wp_region_lit (Zv rfl Zm (Zv rfl (x_sub (k := .i64) (m := m) (n := 1) ?_ rfl) (Zv rfl Zi (wpList_nil ?_))))
  ·simp (disch := first | omega | simp only [Zs]; omega) only [Zo, Ze, Zn, Zq, b6]
  refine ⟨m, by omega, ?_, ?_, ?_, by omega, ?_, hmod.fresh h2, ?_⟩
  ·simp only [Zs]; exact bN
  ·simp only [Zd]; exact bd
  ·simp (disch := first | omega | simp only [Zs]; omega) only [Zo, Ze, Zn, Zq, b0]
  ·simp (disch := first | omega | simp only [Zs]; omega) only [Zo, Ze, Zn, Zq]
   congr 1
   rw [IntKind.wrap_i64]; omega
  ·simp (disch := first | omega | simp only [Zs]; omega) only [Zo, Ze, Zn, Zq]
   rw [show size - m = (size - (m + 1)) + 1 by omega, fixedP_succ, show size - 1 - (size - (m + 1)) = m by omega]
   exact h1
 ·refine wp_cond_false ?_ (wp_exit ?_)
  ·simp (disch := first | omega | simp only [Zs]; omega) only [Zo, Ze, Zn, Zq]
   simp; omega
  simp only [Exit.then, Exit.inBlock, if_true]
  have hj0 : j = 0 := by omega
  subst hj0
  refine wp_seq (wp_region_lit (Zv rfl Zm (Zv rfl Zi (wpList_nil (wp_ret (bodyPost_ret (results_tmp rfl _ _ _) ?_ ⟨_, rfl, hmod, ?_⟩))))))
  ·simp only [Zd]; exact ad
  ·show OwnB w1 w.heap.size (Act.get _ 4) (fixedE n size)
   simp (disch := first | omega | simp only [Zs]; omega) only [Zo, Ze, Zn, Zq]
   exact hown
end Go.Proofs.YtcldbjehliladaaDoor
