/-
  What kbin's functions put behind octets.
-/
import Derived.Lib.AppendStr
import Derived.Test.YtmehfgiadapekaaGreatPYa
import Derived.Test.YtmehfgiadapekaaGreatPWs
import Derived.Test.YtmehfgiadapekaaGreatPLn
set_option linter.unusedSimpArgs false
set_option linter.unusedVariables false
namespace Go.Proofs.YtmehfgiadapekaaGreat
open Go Go.RowKit
theorem fill_octs : ∀ (bs : List UInt8) (k : Nat) (cells : Array Value), k + bs.length <= cells.size -> ∃ R : Array Value, Instr.fill (fun i => some (i * 1, 1)) cells (((octV bs).zipIdx k).map fun p => (p.2, p.1)) = some R /\ R.size = cells.size /\
  (∀ j, j < k -> R[j]? = cells[j]?) /\ ∀ j (h : j < bs.length), R[k + j]? = some (.int .u8 (bs[j]).toNat)
 | [], k, cells, h => ⟨cells, by simp [octV, Instr.fill], rfl, fun _ _ => rfl, fun j h => by simp at h⟩
 | b :: bs, k, cells, h => by
  simp only [List.length_cons] at h
  have hk : k < cells.size := by omega
  obtain ⟨R, h1, h2, h3, h4⟩ := fill_octs bs (k + 1) (cells.setIfInBounds k (.int .u8 b.toNat)) (by simp; omega)
  have hc : (Value.int .u8 b.toNat).cells = #[.int .u8 b.toNat] := rfl
  refine ⟨R, ?_, by simpa using h2, fun j hj => ?_, fun j hj => ?_⟩
  ·rw [<- h1]
   have e : ¬ cells.size < k * 1 + 1 := by omega
   simp [octV, Instr.fill, hc, e]
   intro h0; omega
  ·rw [h3 j (by omega), Array.getElem?_setIfInBounds_ne (by omega)]
  ·cases j with
   | zero => rw [h3 (k + 0) (by omega)]; simp [hk]
   | succ j =>
    have := h4 j (by simpa using hj)
    rw [show k + (j + 1) = k + 1 + j by omega, this]
    simp
section
variable {P : Program} {ρ : Operand -> Value} {w : World} {d : Option Tmp} {ty : TypeId} {p : String} {af : Array Edge} {g : Option (Nat × Bool)}
/-- a slice of octets is built -/
theorem x_buildOcts {t e n : Nat} {parts : Array (Nat × Operand)} {bs : List UInt8} (hI : elemInfo P t e 1 = true) (hn : bs.length = n) (hnb : 0 < n /\ n <= 16) (hp : (parts.map fun q => (q.1, ρ q.2)).toList = ((octV bs).zipIdx 0).map fun p => (p.2, p.1)) :
  (execOp ρ ⟨d, .buildSlice t n parts, ty, p, af, g⟩).run P w = .ok (.value (.slice (some ⟨w.heap.size, 0, none⟩) n n)) (w.alloc (.cells (octV bs).toArray e)) := by
 obtain ⟨hu, i, z, hi, hz, h2, h3, h4, h5, h6⟩ := elemInfo_spec hI
 obtain ⟨R, q1, q2, q3, q4⟩ := fill_octs bs 0 ((Array.range (n * 1)).map (z.cells[· % z.cells.size]!)) (by simp; omega)
 have hR : R = (octV bs).toArray := by
  apply Array.ext
  ·rw [q2]; simp [octV]; omega
  ·intro j h1 h2
   have hj : j < bs.length := by simpa [octV] using h2
   have := q4 j hj
   rw [Nat.zero_add, Array.getElem?_eq_getElem h1] at this
   simp [octV]
   simpa using this
 subst hR
 rw [<- hp] at q1
 have hs : ¬ (16777216 < n) := by omega
 have hs0 : ¬ n = 0 := by omega
 simp only [Nat.mul_one, Array.toList_map] at q1
 simp [execOp, Instr.buildSlice, run_underlying hu, sizeOf, typeInfo, zeroValue, hi, hz, h2, hs, hs0, newRow, q1]
/-- an octet of a text -/
theorem x_indexS {x i : Operand} {t : Nat} {S : ByteArray} {k : IntKind} {n : Int} {b : UInt8} (ht : P.underlying t = some .string) (hx : ρ x = .string S) (hi : ρ i = .int k n) (hn : 0 <= n) (hb : S[n.toNat]? = some b) :
  (execOp ρ ⟨d, .index t x i, ty, p, af, g⟩).run P w = .ok (.value (.int .u8 b.toNat)) w := by
 simp [execOp, hx, hi, Instr.index, asIntOf, run_underlying ht, hn, hb]
theorem x_indexTab {x i : Operand} {t : Nat} {S : ByteArray} {k : IntKind} {m : Nat} {tab : Nat -> UInt8} (ht : P.underlying t = some .string) (hx : ρ x = .string S) (hS : ∀ q : Fin 33, S[q.val]? = some (tab q.val)) (hi : ρ i = .int k (m : Nat)) (hm : m < 33) :
  (execOp ρ ⟨d, .index t x i, ty, p, af, g⟩).run P w = .ok (.value (.int .u8 (tab m).toNat)) w := x_indexS ht hx hi (by omega) (by simpa using hS ⟨m, hm⟩)
theorem x_shrL {x y : Operand} {t u : TypeId} {k k' : IntKind} {m : Int} {s : Nat} (hx : ρ x = .int k m) (hy : ρ y = .int k' (s : Nat)) (hb : s <= k.bits) : (execOp ρ ⟨d, .binOp .shr t x y u, ty, p, af, g⟩).run P w = .ok (.value (.int k (m / 2 ^ s))) w := by
 have := x_shr (P := P) (w := w) (d := d) (ty := ty) (p := p) (af := af) (g := g) (t := t) (u := u) hx hy (by omega) (by simpa using hb)
 simpa using this
theorem x_lenStr {x : Operand} {t : Nat} {ts : Array TypeId} {S : ByteArray} (ht : P.underlying t = some .string) (hts : ts[0]? = some t) (hx : ρ x = .string S) :
  (execOp ρ ⟨d, .call ⟨.builtin .len, #[x], ts⟩, ty, p, af, g⟩).run P w = .ok (.value (.int .i64 S.size)) w := by
 simp [execOp, resolve, invoke, builtin, hx, Builtin.len_, hts, run_underlying ht, goInt]
end
section
variable {P : Program} {ρ : Operand -> Value} {w : World} {d : Option Tmp} {ty : TypeId} {p : String} {af : Array Edge} {g : Option (Nat × Bool)}
theorem x_lenText {x : Operand} {t : Nat} {ts : Array TypeId} {cs : List UInt8} (ht : P.underlying t = some .string) (hts : ts[0]? = some t) (hx : ρ x = .string (str cs)) :
  (execOp ρ ⟨d, .call ⟨.builtin .len, #[x], ts⟩, ty, p, af, g⟩).run P w = .ok (.value (.int .i64 cs.length)) w := x_lenStr ht hts hx
end
/-- only what a value owned has turned; what the new one owns was owned, or is new -/
structure Fine (a b : Value) (w w' : World) : Prop where
 mod : Mod (fun k => a.ownBlock = some k) w w'
 own : ∀ k, b.ownBlock = some k -> a.ownBlock = some k \/ w.heap.size <= k
theorem Fine.refl (a : Value) (w : World) : Fine a a w w := ⟨.refl w, fun _ h => .inl h⟩
theorem Fine.trans {a b c : Value} {w w1 w2 : World} (h : Fine a b w w1) (k : Fine b c w1 w2) : Fine a c w w2 :=
 ⟨h.mod.trans' k.mod (fun _ _ h => h) (fun i hi e => by rcases h.own i e with h' | h'; exact h'; omega), fun i e => by
  rcases k.own i e with h' | h'
  ·exact h.own i h'
  ·exact .inr (Nat.le_trans h.mod.size h')⟩
theorem Fine.size {a b : Value} {w w' : World} (h : Fine a b w w') : w.heap.size <= w'.heap.size := h.mod.size
theorem Fine.low {a b : Value} {w w' : World} {base : Nat} {bs : List UInt8} (h : Fine a b w w') (ho : OwnB w base a bs) : Mod (fun k => base <= k) w w' := h.mod.mono fun k _ e => (World.ownsRow.lt ho k e).1
/-- octets are put behind octets -/
theorem wpl_octsF {P : Program} {Q : Exit -> Act -> World -> Prop} {ops : Array Oper} {rest : List Oper} {a : Act} {w : World} {d : Option Tmp} {ty : TypeId} {p : String} {af : Array Edge} {s x : Operand} {base : Nat} {v xv : Value} {bs cs : List UInt8} (hI : elemInfo P 22 5 1 = true)
  (hs : a.eval s = v) (hx : a.eval x = xv) (hown : OwnB w base v bs) (ho : OctI w xv cs) (hsm : bs.length + cs.length <= 4294967296) (hbase : base <= w.heap.size)
  (hk : ∀ v' w', OwnB w' base v' (bs ++ cs) -> Fine v v' w w' -> wpList P ops Q rest (a.put d v') w') :
  wpList P ops Q (⟨d, .call ⟨.builtin .append, #[s, x], #[22, 22]⟩, ty, p, af, none⟩ :: rest) a w := by
 by_cases hb : cs = []
 ·subst hb
  rw [List.append_nil] at hk
  obtain ⟨ao, cap, hvs⟩ : ∃ ao cap, xv = .slice ao 0 cap := by
   rcases ho with ⟨_, h⟩ | ⟨sb, off, cap, c, t, fr, h1, _⟩
   ·exact h
   ·exact ⟨_, _, h1⟩
  obtain ⟨hu, i, z, hi, hz, h2, h3, h4, h5, h6⟩ := elemInfo_spec hI
  subst hvs
  rcases hown.2 with ⟨hv0, hl0⟩ | ⟨g, cap', cur, hv0, q1, q2, q3, q4, q5, q6⟩
  ·subst hv0
   have : bs = [] := List.eq_nil_of_length_eq_zero hl0
   subst this
   refine Zv rfl (v := .slice none 0 0) (w' := w) ?_ (hk _ _ hown (.refl _ w))
   cases ao <;> simp [execOp, resolve, invoke, builtin, hs, hx, Builtin.append_, run_underlying hu, sizeOf, typeInfo, hi, Builtin.lenOf, Builtin.firstCells, loadCells, loadCellsFrom]
  ·subst hv0
   have q7 : ¬ cap' < bs.length := by omega
   refine Zv rfl (v := .slice (some ⟨g, 0, none⟩) bs.length cap') (w' := w) ?_ (hk _ _ hown (.refl _ w))
   cases ao <;> simp [execOp, resolve, invoke, builtin, hs, hx, Builtin.append_, run_underlying hu, sizeOf, typeInfo, hi, Builtin.lenOf, Builtin.firstCells, loadCells, loadCellsFrom, q7, storeCells]
 ·have hpos : 0 < cs.length := List.length_pos_iff.2 hb
  obtain ⟨sb, off, cap, c, tc, fr, hvs, hcl, hml, hh, hcc⟩ : ∃ sb off cap c t fr, xv = .slice (some ⟨sb, off, none⟩) cs.length cap /\ cs.length <= cap /\ cap <= maxLen /\ w.heap[sb]? = some (.cells c t fr) /\ ∀ i (hi : i < cs.length), c[off + i]? = some (.int .u8 (cs[i]).toNat) := by
   rcases ho with ⟨h, _⟩ | h
   ·exact (hb h).elim
   ·exact h
  refine wpl_append (base := base) (v := v) (n := bs.length) (xs := octV bs) (ad := ⟨sb, off, none⟩) (m := cs.length) (c := cap) (news := octV cs) hI hs (hx.trans hvs) hown (by rw [octV_length]; omega) (fun j u hu => ?_) (fun u hu => by obtain ⟨q, _, rfl⟩ := List.mem_map.1 hu; rfl) hsm hbase ?_
  ·rw [Addr.add_mid, Zc hh]
   simp only [octV, List.getElem?_map, Option.map_eq_some_iff] at hu
   obtain ⟨q, hq, rfl⟩ := hu
   obtain ⟨hj, rfl⟩ := List.getElem?_eq_some_iff.1 hq
   exact hcc j hj
  ·intro v' w' h1 h2 _ h4
   refine hk v' w' ?_ ⟨h2, h4⟩
   unfold OwnB
   rw [List.length_append, octV_append]
   exact h1
/-- octets are built and put behind octets -/
theorem wpl_octN {P : Program} {Q : Exit -> Act -> World -> Prop} {ops : Array Oper} {rest : List Oper} {a : Act} {w : World} {d : Option Tmp} {ty ty1 : TypeId} {p p1 : String} {af af1 : Array Edge} {s : Operand} {base t1 n : Nat} {v : Value} {bs cs : List UInt8} {parts : Array (Nat × Operand)} (hI : elemInfo P 22 5 1 = true)
  (hn : cs.length = n) (hnb : 0 < n /\ n <= 16) (hp : (parts.map fun q => (q.1, a.eval q.2)).toList = ((octV cs).zipIdx 0).map fun p => (p.2, p.1)) (ht : t1 < a.tmps.size) (hs : (a.put (some t1) (.slice (some ⟨w.heap.size, 0, none⟩) n n)).eval s = v) (hown : OwnB w base v bs) (hsm : bs.length + n <= 4294967296) (hbase : base <= w.heap.size)
  (hk : ∀ v' w', OwnB w' base v' (bs ++ cs) -> Fine v v' w w' -> wpList P ops Q rest ((a.put (some t1) (.slice (some ⟨w.heap.size, 0, none⟩) n n)).put d v') w') :
  wpList P ops Q (⟨some t1, .buildSlice 22 n parts, ty1, p1, af1, none⟩ :: ⟨d, .call ⟨.builtin .append, #[s, .tmp t1], #[22, 22]⟩, ty, p, af, none⟩ :: rest) a w := by
 refine Zv rfl (x_buildOcts hI hn hnb hp) ?_
 have k1 := Zh w (.cells (octV cs).toArray 5)
 have m1 : Mod none' w (w.alloc (.cells (octV cs).toArray 5)) := (Mod.refl w).alloc _
 have hsz : (w.alloc (.cells (octV cs).toArray 5)).heap.size = w.heap.size + 1 := by simp
 refine wpl_octsF (base := base) (v := v) (xv := .slice (some ⟨w.heap.size, 0, none⟩) n n) (bs := bs) (cs := cs) hI hs ?_ (hown.mod m1 (fun _ _ f => f)) ?_ (by omega) (by omega) ?_
 ·show Act.get _ t1 = _
  rw [Zq ht]
 ·refine .inr ⟨w.heap.size, 0, n, _, _, (0, 0), by rw [hn], by omega, by simp only [maxLen]; omega, k1, fun i hi => ?_⟩
  simp [octV, hi]
 ·intro v' w' h1 h2
  exact hk v' w' h1 ⟨m1.none.trans h2.mod, fun k e => by rcases h2.own k e with h | h; exact .inl h; exact .inr (by omega)⟩
/-- a text is put behind octets -/
theorem wpl_ostr {P : Program} {Q : Exit -> Act -> World -> Prop} {ops : Array Oper} {rest : List Oper} {a : Act} {w : World} {d : Option Tmp} {ty : TypeId} {p : String} {af : Array Edge} {s x : Operand} {base t : Nat} {v : Value} {bs cs : List UInt8} (hI : elemInfo P 22 5 1 = true) (hu : P.underlying t = some .string)
  (hz : ∃ i, P.info? 5 = some i /\ i.zero = some (.int .u8 0) /\ i.bytes = 1)
  (hs : a.eval s = v) (hx : a.eval x = .string (str cs)) (hown : OwnB w base v bs) (hsm : bs.length + cs.length <= 4294967296) (hbase : base <= w.heap.size)
  (hk : ∀ v' w', OwnB w' base v' (bs ++ cs) -> Fine v v' w w' -> wpList P ops Q rest (a.put d v') w') :
  wpList P ops Q (⟨d, .call ⟨.builtin .append, #[s, x], #[22, t]⟩, ty, p, af, none⟩ :: rest) a w := by
 obtain ⟨hu0, i, z, hi, hz0, h2, h3, h4, h5, h6⟩ := elemInfo_spec hI
 obtain ⟨i', hi', hz', hb'⟩ := hz
 rw [hi] at hi'
 obtain rfl : i = i' := by simpa using hi'
 obtain ⟨v', w', hr, k1, k2, k3⟩ := Lib.run_append_own_string (P := P) w base 22 t ty 5 i hu0 hu hi hz' h2 hb' v bs.length (octV bs) hown (str cs) (by simp only [maxLen, str_size]; omega) (by simp only [str_size]; omega) hbase
 refine Zv rfl (v := v') (w' := w') ?_ (hk v' w' ?_ ?_)
 ·simp [execOp, resolve, invoke, builtin, hs, hx, hr]
 ·unfold OwnB
  rw [List.length_append, octV_append]
  have e : Lib.strCells (str cs) = octV cs := by simp [Lib.strCells, octV, str]
  rw [e, str_size] at k1
  exact k1
 ·refine ⟨(Mod.of_grown k2).mono fun k _ e => e.symm ▸ rfl, fun k hk2 => ?_⟩
  rcases hown.2 with ⟨hv0, hl0⟩ | ⟨g, cap, cur, hv0, hb0, hg, hnc, hcm, hsz, htake⟩
  ·subst hv0
   have hbs : bs = [] := List.eq_nil_of_length_eq_zero hl0
   subst hbs
   obtain ⟨v2, w2, hr2, q1, q2, q3⟩ := Lib.run_append_own_string (P := P) w w.heap.size 22 t ty 5 i hu0 hu hi hz' h2 hb' (.slice none 0 0) 0 [] (World.ownsRow_nil w _ _ 1) (str cs) (by simp only [maxLen, str_size]; omega) (by simp only [str_size]; omega) (Nat.le_refl _)
   rw [hr] at hr2
   obtain ⟨rfl, rfl⟩ : v' = v2 /\ w' = w2 := by simpa using hr2
   exact .inr (q1.lt k hk2).1
  ·subst hv0
   by_cases hroom : bs.length + (str cs).size <= cap
   ·have hr2 := Lib.run_append_room_string (P := P) w 22 t ty 5 i hu0 hu hi h2 g bs.length cap cur hg (str cs) hroom (by omega)
    rw [hr] at hr2
    have := (by simpa using hr2 : v' = _ /\ w' = _).1
    subst this
    exact .inl hk2
   ·have holds : ∀ j u, (octV bs)[j]? = some u -> w.cell? ((⟨g, 0, none⟩ : Addr).add j) = some u := hown.cells (g := g) rfl
    have hgf := growslice_fits (need := bs.length + (str cs).size) (old := cap) (bytes := 1) (by omega) (by simp only [str_size]; omega)
    have hr2 := Lib.run_append_grow_string (P := P) w 22 t ty 5 i z hu0 hu hi hz0 ⟨g, 0, none⟩ bs.length cap (octV bs) (by rw [h2, octV_length]; omega) holds (str cs) (by omega) (by simp only [str_size]; omega) (by rw [hb']; exact hgf)
    rw [hr] at hr2
    have := (by simpa using hr2 : v' = _ /\ w' = _).1
    subst this
    simp [Value.ownBlock] at hk2
    exact .inr (by omega)
def u8zero (P : Program) (t : Nat) : Bool := match P.info? t with
 | some i => i.bytes == 1 && (match i.zero with | some (.int .u8 n) => n == 0 | _ => false)
 | none => false
theorem u8_zero_of {P : Program} {t : Nat} (h : u8zero P t = true) : ∃ i, P.info? t = some i /\ i.zero = some (.int .u8 0) /\ i.bytes = 1 := by
 unfold u8zero at h
 cases hi : P.info? t with
 | none => simp [hi] at h
 | some i =>
  simp only [hi, Bool.and_eq_true, beq_iff_eq] at h
  refine ⟨i, rfl, ?_, h.1⟩
  have h2 := h.2
  split at h2
  ·rename_i n hz
   rw [hz]; simpa using h2
  ·simp at h2
theorem u8_zero : ∃ i, Tryz.prog.info? 5 = some i /\ i.zero = some (.int .u8 0) /\ i.bytes = 1 := u8_zero_of (by kernel_rfl)
/-- octets are put behind octets of one's own -/
def PutC (P : Program) (f : FuncId) (args : Array Value) (w : World) (base : Nat) (dv : Value) (out bs : List UInt8) : Prop := Calls P f args w fun e w' => ∃ v, e = .returned v /\ OwnB w' base v (out ++ bs) /\ Fine dv v w w'
theorem PutC.out {P : Program} {f : FuncId} {args : Array Value} {w : World} {base : Nat} {dv : Value} {out bs : List UInt8} (h : PutC P f args w base dv out bs) : Calls P f args w fun e w' => ∃ v, e = .returned v /\ OwnB w' base v (out ++ bs) /\ Fine dv v w w' := h
theorem fixedE_i16 (n : Int) : fixedE (IntKind.i16.wrap n) 2 = fixedE n 2 := by
 apply fixedE_mod; simp only [IntKind.wrap, IntKind.bits, IntKind.signed]; simp <;> (try split) <;> (try omega)
theorem fixedE_u16 (n : Int) : fixedE (IntKind.u16.wrap n) 2 = fixedE n 2 := by
 apply fixedE_mod; simp only [IntKind.wrap, IntKind.bits, IntKind.signed]; simp <;> (try split) <;> (try omega)
theorem fixedE_i32 (n : Int) : fixedE (IntKind.i32.wrap n) 4 = fixedE n 4 := by
 apply fixedE_mod; simp only [IntKind.wrap, IntKind.bits, IntKind.signed]; simp <;> (try split) <;> (try omega)
theorem fixedE_u32 (n : Int) : fixedE (IntKind.u32.wrap n) 4 = fixedE n 4 := by
 apply fixedE_mod; simp only [IntKind.wrap, IntKind.bits, IntKind.signed]; simp <;> (try split) <;> (try omega)
theorem fixedE_u64 (n : Int) : fixedE (IntKind.u64.wrap n) 8 = fixedE n 8 := by
 apply fixedE_mod; simp only [IntKind.wrap, IntKind.bits, IntKind.signed]; simp <;> (try split) <;> (try omega)
theorem oct8_u8 (n : Int) : Value.int .u8 (IntKind.u8.wrap n) = .int .u8 (oct8 n).toNat := oct8_wrap n
theorem or128w {m : Nat} (h : m < 128) : bits .or .u32 (m : Int) 128 = (m : Int) + 128 := by
 have h' : ∀ i : Fin 128, bits BinOp.or IntKind.u32 (i.val : Int) 128 = (i.val : Int) + 128 := by decide +kernel
 exact h' ⟨m, h⟩
theorem and127w {m : Int} (h0 : 0 <= m) (h1 : m < 4294967296) : bits .and .u32 m 127 = m % 128 := bits_mask .u32 32 (by decide) wraps_u32 7 (by decide) m h0 (by omega)
/-- seven bits, with a 1 ahead -/
theorem grp_hi {m : Nat} (h : m < 4294967296) : Value.int .u8 (IntKind.u8.wrap (bits .or .u32 (bits .and .u32 (m : Int) 127) 128)) = .int .u8 (UInt8.ofNat (m % 128 + 128)).toNat := by
 rw [and127w (by omega) (by omega), show ((m : Int) % 128) = ((m % 128 : Nat) : Int) by omega, or128w (by omega), wrap_u8 (by omega) (by omega), ofNat_val (by omega)]
 rfl
theorem grp_lo {m : Nat} (h : m < 256) : Value.int .u8 (IntKind.u8.wrap (m : Int)) = .int .u8 (UInt8.ofNat m).toNat := by
 rw [wrap_u8 (by omega) (by omega), ofNat_val (by omega)]
theorem bitLen_le (k : Nat) : ∀ n : Nat, n < 2 ^ 64 -> (Lib.bitLen n <= k ↔ n < 2 ^ k) := by
 induction k with
 | zero =>
  intro n hn
  by_cases h : n = 0
  ·subst h; simp [Lib.bitLen, Lib.bitLenAux]
  ·rw [Lib.bitLen_half n h hn]; simp; omega
 | succ k ih =>
  intro n hn
  by_cases h : n = 0
  ·subst h; simp [Lib.bitLen, Lib.bitLenAux]; exact Nat.pos_of_ne_zero (by simp)
  ·rw [Lib.bitLen_half n h hn]
   have := ih (n / 2) (by omega)
   have e : 2 ^ (k + 1) = 2 ^ k * 2 := Nat.pow_succ ..
   omega
def uvLen (n : Nat) : Nat := if n < 128 then 1 else if n < 16384 then 2 else if n < 2097152 then 3 else if n < 268435456 then 4 else 5
def tabL (m : Nat) : UInt8 := if m < 8 then 1 else if m < 15 then 2 else if m < 22 then 3 else if m < 29 then 4 else 5
theorem tabL_uv {n : Nat} (h : n < 4294967296) : ((tabL (Lib.bitLen n)).toNat : Int) = (uvLen n : Nat) /\ Lib.bitLen n < 33 := by
 have h7 := bitLen_le 7 n (by omega)
 have h14 := bitLen_le 14 n (by omega)
 have h21 := bitLen_le 21 n (by omega)
 have h28 := bitLen_le 28 n (by omega)
 have h32 := bitLen_le 32 n (by omega)
 refine ⟨?_, by omega⟩
 unfold tabL uvLen
 by_cases a7 : n < 128
 ·rw [if_pos a7, if_pos (by omega)]; rfl
 rw [if_neg a7, if_neg (by omega)]
 by_cases a14 : n < 16384
 ·rw [if_pos a14, if_pos (by omega)]; rfl
 rw [if_neg a14, if_neg (by omega)]
 by_cases a21 : n < 2097152
 ·rw [if_pos a21, if_pos (by omega)]; rfl
 rw [if_neg a21, if_neg (by omega)]
 by_cases a28 : n < 268435456
 ·rw [if_pos a28, if_pos (by omega)]; rfl
 ·rw [if_neg a28, if_neg (by omega)]; rfl
theorem uvlen_c {w : World} {n : Nat} (hn : n < 4294967296) : Calls Tryz.prog 78 #[.int .u32 n] w fun e w' => e = .returned (.int .i64 (uvLen n : Nat)) /\ w = w' := by
 obtain ⟨ht, hb⟩ := tabL_uv hn
 refine calls_of_wp Tryz.func78 rfl ?_
 rw [Tryz.ntmps78]
 refine wp_act (fun a : Act => Act.get a 0 = .int .u32 n /\ a.tmps.size = 8 /\ a.defers = []) ⟨by rw [Zj _ _ _ (by simp)]; rfl, by simp, rfl⟩ ?_
 rintro a ⟨a0, aN, ad⟩
 refine wp_seq (wp_region_lit (Zv rfl Zi (wpList_nil ?_)))
 refine wp_seq (wp_region_lit (Zv rfl Zm (wpl_call rfl (Zy (by kernel_rfl) rfl) (R := fun e w' => e = .returned (.int .i64 (Lib.bitLen n)) /\ w' = w) ?_ ?_)))
 ·rw [show ∀ a : Act, (#[Operand.tmp 3] : Array Operand).map a.eval = #[Act.get a 3] from fun a => by simp [Ze]]
  simp (disch := first | omega | simp only [Zs]; omega) only [Zo, Ze, Zn, Zq, a0]
  exact len32_c n w (by omega) (by omega)
 rintro e w' ⟨rfl, rfl⟩
 refine ⟨_, rfl, Zv rfl (x_convInt (n := (Lib.bitLen n : Nat)) (k := .i64) (k' := .u8) (by kernel_rfl) (by kernel_rfl) ?_) (Zv rfl (x_indexTab (k := .u8) (m := Lib.bitLen n) (tab := tabL) (by kernel_rfl) rfl (by decide +kernel) ?_ hb)
  (Zv rfl (x_convInt (n := (uvLen n : Nat)) (k := .u8) (k' := .i64) (by kernel_rfl) (by kernel_rfl) ?_) (Zv rfl Zi (wpList_nil (wp_ret (bodyPost_ret (results_tmp rfl _ _ _) ?_ ⟨?_, rfl⟩))))))⟩
 ·simp (disch := first | omega | simp only [Zs]; omega) only [Zo, Ze, Zn, Zq]
 ·simp (disch := first | omega | simp only [Zs]; omega) only [Zo, Ze, Zn, Zq]
  rw [wrap_u8 (by omega) (by omega)]
 ·simp (disch := first | omega | simp only [Zs]; omega) only [Zo, Ze, Zn, Zq]
  rw [ht]
 ·simp only [Zd]; exact ad
 ·rw [show ∀ (a : Act), a.tmps.getD 2 undef = Act.get a 2 from fun _ => rfl]
  simp (disch := first | omega | simp only [Zs]; omega) only [Zo, Ze, Zn, Zq]
  have hle : uvLen n <= 5 := by unfold uvLen; split <;> (try split) <;> (try split) <;> (try split) <;> omega
  have e : IntKind.i64.wrap ((uvLen n : Nat) : Int) = (uvLen n : Nat) := by rw [IntKind.wrap_i64]; omega
  rw [e]
theorem app_i8 {w : World} {base : Nat} {dv : Value} {out : List UInt8} {n : Int} (hown : OwnB w base dv out) (hb : base <= w.heap.size) (hl : out.length + 1 <= 4294967296) : PutC Tryz.prog 50 #[dv, .int .i8 n] w base dv out (fixedE n 1) := by
 refine calls_of_wp Tryz.func50 rfl ?_
 rw [Tryz.ntmps50]
 refine wp_act (fun a : Act => Act.get a 0 = dv /\ Act.get a 1 = .int .i8 n /\ a.tmps.size = 10 /\ a.defers = []) ⟨by rw [Zj _ _ _ (by simp)]; rfl, by rw [Zj _ _ _ (by simp)]; rfl, by simp, rfl⟩ ?_
 rintro a ⟨a0, a1, aN, ad⟩
 refine wp_seq (wp_region_lit (Zv rfl Zi (wpList_nil ?_)))
 refine wp_seq (wp_region_lit (Zv rfl Zm (Zv rfl Zm (Zv rfl (x_convInt (n := n) (k := .i8) (k' := .u8) (by kernel_rfl) (by kernel_rfl) ?_) ?_))))
 ·simp (disch := first | omega | simp only [Zs]; omega) only [Zo, Ze, Zn, Zq, a0, a1]
 refine wpl_abs (fun b : Act => b.tmps.size = 10 /\ b.defers = [] /\ Act.get b 5 = dv /\ Act.get b 7 = .int .u8 (oct8 n).toNat) ⟨?_, ?_, ?_, ?_⟩ ?_
 ·simp only [Zs]; exact aN
 ·simp only [Zd]; exact ad
 ·simp (disch := first | omega | simp only [Zs]; omega) only [Zo, Ze, Zn, Zq, a0, a1]
 ·simp (disch := first | omega | simp only [Zs]; omega) only [Zo, Ze, Zn, Zq, a0, a1]
  exact oct8_u8 _
 rintro b ⟨bN, bd, bD, q0⟩
 refine wpl_octN (base := base) (v := dv) (bs := out) (cs := [oct8 n]) octs_info rfl (by decide) ?_ (by omega) ?_ hown (by omega) hb ?_
 ·simp [Ze, octV, q0]
 ·simp (disch := first | omega | simp only [Zs]; omega) only [Zo, Ze, Zn, Zq, bD]
 intro v' w' h1 h2
 refine Zv rfl Zi (wpList_nil (wp_ret ?_))
 try simp only [Exit.then, Exit.inBlock]
 refine bodyPost_ret (results_tmp rfl _ _ _) ?_ ⟨_, rfl, ?_, ?_⟩
 ·simp only [Zd]; exact bd
 ·rw [show ∀ (a : Act), a.tmps.getD 4 undef = Act.get a 4 from fun _ => rfl]
  simp (disch := first | omega | simp only [Zs]; omega) only [Zo, Ze, Zn, Zq]
  rw [show fixedE n 1 = [oct8 n] by simp [fixed1]]
  exact h1
 ·rw [show ∀ (a : Act), a.tmps.getD 4 undef = Act.get a 4 from fun _ => rfl]
  simp (disch := first | omega | simp only [Zs]; omega) only [Zo, Ze, Zn, Zq]
  exact h2
theorem app_u16 {w : World} {base : Nat} {dv : Value} {out : List UInt8} {n : Int} (hown : OwnB w base dv out) (hb : base <= w.heap.size) (hl : out.length + 2 <= 4294967296) : PutC Tryz.prog 72 #[dv, .int .u16 n] w base dv out (fixedE n 2) := by
 refine calls_of_wp Tryz.func72 rfl ?_
 rw [Tryz.ntmps72]
 refine wp_act (fun a : Act => Act.get a 0 = dv /\ Act.get a 1 = .int .u16 n /\ a.tmps.size = 13 /\ a.defers = []) ⟨by rw [Zj _ _ _ (by simp)]; rfl, by rw [Zj _ _ _ (by simp)]; rfl, by simp, rfl⟩ ?_
 rintro a ⟨a0, a1, aN, ad⟩
 refine wp_seq (wp_region_lit (Zv rfl Zi (wpList_nil ?_)))
 refine wp_seq (wp_region_lit (Zv rfl Zm (Zv rfl Zm (Zv rfl (x_shrL (k := .u16) (k' := .u64) (m := n) (s := 8) ?_ rfl (by decide)) (Zv rfl (x_convInt (n := (n) / 2 ^ 8) (k := .u16) (k' := .u8) (by kernel_rfl) (by kernel_rfl) ?_) (Zv rfl Zm (Zv rfl (x_convInt (n := n) (k := .u16) (k' := .u8) (by kernel_rfl) (by kernel_rfl) ?_) ?_)))))))
 ·simp (disch := first | omega | simp only [Zs]; omega) only [Zo, Ze, Zn, Zq, a0, a1]
 ·simp (disch := first | omega | simp only [Zs]; omega) only [Zo, Ze, Zn, Zq, a0, a1]
 ·simp (disch := first | omega | simp only [Zs]; omega) only [Zo, Ze, Zn, Zq, a0, a1]
 refine wpl_abs (fun b : Act => b.tmps.size = 13 /\ b.defers = [] /\ Act.get b 5 = dv /\ Act.get b 8 = .int .u8 (oct8 (n / 2 ^ 8)).toNat /\ Act.get b 10 = .int .u8 (oct8 n).toNat) ⟨?_, ?_, ?_, ?_, ?_⟩ ?_
 ·simp only [Zs]; exact aN
 ·simp only [Zd]; exact ad
 ·simp (disch := first | omega | simp only [Zs]; omega) only [Zo, Ze, Zn, Zq, a0, a1]
 ·simp (disch := first | omega | simp only [Zs]; omega) only [Zo, Ze, Zn, Zq, a0, a1]
  exact oct8_u8 _
 ·simp (disch := first | omega | simp only [Zs]; omega) only [Zo, Ze, Zn, Zq, a0, a1]
  exact oct8_u8 _
 rintro b ⟨bN, bd, bD, q0, q1⟩
 refine wpl_octN (base := base) (v := dv) (bs := out) (cs := [oct8 (n / 2 ^ 8), oct8 n]) octs_info rfl (by decide) ?_ (by omega) ?_ hown (by omega) hb ?_
 ·simp [Ze, octV, q0, q1]
 ·simp (disch := first | omega | simp only [Zs]; omega) only [Zo, Ze, Zn, Zq, bD]
 intro v' w' h1 h2
 refine Zv rfl Zi (wpList_nil (wp_ret ?_))
 try simp only [Exit.then, Exit.inBlock]
 refine bodyPost_ret (results_tmp rfl _ _ _) ?_ ⟨_, rfl, ?_, ?_⟩
 ·simp only [Zd]; exact bd
 ·rw [show ∀ (a : Act), a.tmps.getD 4 undef = Act.get a 4 from fun _ => rfl]
  simp (disch := first | omega | simp only [Zs]; omega) only [Zo, Ze, Zn, Zq]
  rw [show fixedE n 2 = [oct8 (n / 2 ^ 8), oct8 n] by simp [fixed2]]
  exact h1
 ·rw [show ∀ (a : Act), a.tmps.getD 4 undef = Act.get a 4 from fun _ => rfl]
  simp (disch := first | omega | simp only [Zs]; omega) only [Zo, Ze, Zn, Zq]
  exact h2
theorem app_u32 {w : World} {base : Nat} {dv : Value} {out : List UInt8} {n : Int} (hown : OwnB w base dv out) (hb : base <= w.heap.size) (hl : out.length + 4 <= 4294967296) : PutC Tryz.prog 76 #[dv, .int .u32 n] w base dv out (fixedE n 4) := by
 refine calls_of_wp Tryz.func76 rfl ?_
 rw [Tryz.ntmps76]
 refine wp_act (fun a : Act => Act.get a 0 = dv /\ Act.get a 1 = .int .u32 n /\ a.tmps.size = 19 /\ a.defers = []) ⟨by rw [Zj _ _ _ (by simp)]; rfl, by rw [Zj _ _ _ (by simp)]; rfl, by simp, rfl⟩ ?_
 rintro a ⟨a0, a1, aN, ad⟩
 refine wp_seq (wp_region_lit (Zv rfl Zi (wpList_nil ?_)))
 refine wp_seq (wp_region_lit (Zv rfl Zm (Zv rfl Zm (Zv rfl (x_shrL (k := .u32) (k' := .u64) (m := n) (s := 24) ?_ rfl (by decide)) (Zv rfl (x_convInt (n := (n) / 2 ^ 24) (k := .u32) (k' := .u8) (by kernel_rfl) (by kernel_rfl) ?_) (Zv rfl Zm (Zv rfl (x_shrL (k := .u32) (k' := .u64) (m := n) (s := 16) ?_ rfl (by decide)) (Zv rfl (x_convInt (n := (n) / 2 ^ 16) (k := .u32) (k' := .u8) (by kernel_rfl) (by kernel_rfl) ?_) (Zv rfl Zm (Zv rfl (x_shrL (k := .u32) (k' := .u64) (m := n) (s := 8) ?_ rfl (by decide)) (Zv rfl (x_convInt (n := (n) / 2 ^ 8) (k := .u32) (k' := .u8) (by kernel_rfl) (by kernel_rfl) ?_) (Zv rfl Zm (Zv rfl (x_convInt (n := n) (k := .u32) (k' := .u8) (by kernel_rfl) (by kernel_rfl) ?_) ?_)))))))))))))
 ·simp (disch := first | omega | simp only [Zs]; omega) only [Zo, Ze, Zn, Zq, a0, a1]
 ·simp (disch := first | omega | simp only [Zs]; omega) only [Zo, Ze, Zn, Zq, a0, a1]
 ·simp (disch := first | omega | simp only [Zs]; omega) only [Zo, Ze, Zn, Zq, a0, a1]
 ·simp (disch := first | omega | simp only [Zs]; omega) only [Zo, Ze, Zn, Zq, a0, a1]
 ·simp (disch := first | omega | simp only [Zs]; omega) only [Zo, Ze, Zn, Zq, a0, a1]
 ·simp (disch := first | omega | simp only [Zs]; omega) only [Zo, Ze, Zn, Zq, a0, a1]
 ·simp (disch := first | omega | simp only [Zs]; omega) only [Zo, Ze, Zn, Zq, a0, a1]
 refine wpl_abs (fun b : Act => b.tmps.size = 19 /\ b.defers = [] /\ Act.get b 5 = dv /\ Act.get b 8 = .int .u8 (oct8 (n / 2 ^ 24)).toNat /\ Act.get b 11 = .int .u8 (oct8 (n / 2 ^ 16)).toNat /\ Act.get b 14 = .int .u8 (oct8 (n / 2 ^ 8)).toNat /\ Act.get b 16 = .int .u8 (oct8 n).toNat) ⟨?_, ?_, ?_, ?_, ?_, ?_, ?_⟩ ?_
 ·simp only [Zs]; exact aN
 ·simp only [Zd]; exact ad
 ·simp (disch := first | omega | simp only [Zs]; omega) only [Zo, Ze, Zn, Zq, a0, a1]
 ·simp (disch := first | omega | simp only [Zs]; omega) only [Zo, Ze, Zn, Zq, a0, a1]
  exact oct8_u8 _
 ·simp (disch := first | omega | simp only [Zs]; omega) only [Zo, Ze, Zn, Zq, a0, a1]
  exact oct8_u8 _
 ·simp (disch := first | omega | simp only [Zs]; omega) only [Zo, Ze, Zn, Zq, a0, a1]
  exact oct8_u8 _
 ·simp (disch := first | omega | simp only [Zs]; omega) only [Zo, Ze, Zn, Zq, a0, a1]
  exact oct8_u8 _
 rintro b ⟨bN, bd, bD, q0, q1, q2, q3⟩
 refine wpl_octN (base := base) (v := dv) (bs := out) (cs := [oct8 (n / 2 ^ 24), oct8 (n / 2 ^ 16), oct8 (n / 2 ^ 8), oct8 n]) octs_info rfl (by decide) ?_ (by omega) ?_ hown (by omega) hb ?_
 ·simp [Ze, octV, q0, q1, q2, q3]
 ·simp (disch := first | omega | simp only [Zs]; omega) only [Zo, Ze, Zn, Zq, bD]
 intro v' w' h1 h2
 refine Zv rfl Zi (wpList_nil (wp_ret ?_))
 try simp only [Exit.then, Exit.inBlock]
 refine bodyPost_ret (results_tmp rfl _ _ _) ?_ ⟨_, rfl, ?_, ?_⟩
 ·simp only [Zd]; exact bd
 ·rw [show ∀ (a : Act), a.tmps.getD 4 undef = Act.get a 4 from fun _ => rfl]
  simp (disch := first | omega | simp only [Zs]; omega) only [Zo, Ze, Zn, Zq]
  rw [show fixedE n 4 = [oct8 (n / 2 ^ 24), oct8 (n / 2 ^ 16), oct8 (n / 2 ^ 8), oct8 n] by simp [fixed4]]
  exact h1
 ·rw [show ∀ (a : Act), a.tmps.getD 4 undef = Act.get a 4 from fun _ => rfl]
  simp (disch := first | omega | simp only [Zs]; omega) only [Zo, Ze, Zn, Zq]
  exact h2
theorem app_u64 {w : World} {base : Nat} {dv : Value} {out : List UInt8} {n : Int} (hown : OwnB w base dv out) (hb : base <= w.heap.size) (hl : out.length + 8 <= 4294967296) : PutC Tryz.prog 77 #[dv, .int .u64 n] w base dv out (fixedE n 8) := by
 refine calls_of_wp Tryz.func77 rfl ?_
 rw [Tryz.ntmps77]
 refine wp_act (fun a : Act => Act.get a 0 = dv /\ Act.get a 1 = .int .u64 n /\ a.tmps.size = 31 /\ a.defers = []) ⟨by rw [Zj _ _ _ (by simp)]; rfl, by rw [Zj _ _ _ (by simp)]; rfl, by simp, rfl⟩ ?_
 rintro a ⟨a0, a1, aN, ad⟩
 refine wp_seq (wp_region_lit (Zv rfl Zi (wpList_nil ?_)))
 refine wp_seq (wp_region_lit (Zv rfl Zm (Zv rfl Zm (Zv rfl (x_shrL (k := .u64) (k' := .u64) (m := n) (s := 56) ?_ rfl (by decide)) (Zv rfl (x_convInt (n := (n) / 2 ^ 56) (k := .u64) (k' := .u8) (by kernel_rfl) (by kernel_rfl) ?_) (Zv rfl Zm (Zv rfl (x_shrL (k := .u64) (k' := .u64) (m := n) (s := 48) ?_ rfl (by decide)) (Zv rfl (x_convInt (n := (n) / 2 ^ 48) (k := .u64) (k' := .u8) (by kernel_rfl) (by kernel_rfl) ?_) (Zv rfl Zm (Zv rfl (x_shrL (k := .u64) (k' := .u64) (m := n) (s := 40) ?_ rfl (by decide)) (Zv rfl (x_convInt (n := (n) / 2 ^ 40) (k := .u64) (k' := .u8) (by kernel_rfl) (by kernel_rfl) ?_) (Zv rfl Zm (Zv rfl (x_shrL (k := .u64) (k' := .u64) (m := n) (s := 32) ?_ rfl (by decide)) (Zv rfl (x_convInt (n := (n) / 2 ^ 32) (k := .u64) (k' := .u8) (by kernel_rfl) (by kernel_rfl) ?_) (Zv rfl Zm (Zv rfl (x_shrL (k := .u64) (k' := .u64) (m := n) (s := 24) ?_ rfl (by decide)) (Zv rfl (x_convInt (n := (n) / 2 ^ 24) (k := .u64) (k' := .u8) (by kernel_rfl) (by kernel_rfl) ?_) (Zv rfl Zm (Zv rfl (x_shrL (k := .u64) (k' := .u64) (m := n) (s := 16) ?_ rfl (by decide)) (Zv rfl (x_convInt (n := (n) / 2 ^ 16) (k := .u64) (k' := .u8) (by kernel_rfl) (by kernel_rfl) ?_) (Zv rfl Zm (Zv rfl (x_shrL (k := .u64) (k' := .u64) (m := n) (s := 8) ?_ rfl (by decide)) (Zv rfl (x_convInt (n := (n) / 2 ^ 8) (k := .u64) (k' := .u8) (by kernel_rfl) (by kernel_rfl) ?_) (Zv rfl Zm (Zv rfl (x_convInt (n := n) (k := .u64) (k' := .u8) (by kernel_rfl) (by kernel_rfl) ?_) ?_)))))))))))))))))))))))))
 ·simp (disch := first | omega | simp only [Zs]; omega) only [Zo, Ze, Zn, Zq, a0, a1]
 ·simp (disch := first | omega | simp only [Zs]; omega) only [Zo, Ze, Zn, Zq, a0, a1]
 ·simp (disch := first | omega | simp only [Zs]; omega) only [Zo, Ze, Zn, Zq, a0, a1]
 ·simp (disch := first | omega | simp only [Zs]; omega) only [Zo, Ze, Zn, Zq, a0, a1]
 ·simp (disch := first | omega | simp only [Zs]; omega) only [Zo, Ze, Zn, Zq, a0, a1]
 ·simp (disch := first | omega | simp only [Zs]; omega) only [Zo, Ze, Zn, Zq, a0, a1]
 ·simp (disch := first | omega | simp only [Zs]; omega) only [Zo, Ze, Zn, Zq, a0, a1]
 ·simp (disch := first | omega | simp only [Zs]; omega) only [Zo, Ze, Zn, Zq, a0, a1]
 ·simp (disch := first | omega | simp only [Zs]; omega) only [Zo, Ze, Zn, Zq, a0, a1]
 ·simp (disch := first | omega | simp only [Zs]; omega) only [Zo, Ze, Zn, Zq, a0, a1]
 ·simp (disch := first | omega | simp only [Zs]; omega) only [Zo, Ze, Zn, Zq, a0, a1]
 ·simp (disch := first | omega | simp only [Zs]; omega) only [Zo, Ze, Zn, Zq, a0, a1]
 ·simp (disch := first | omega | simp only [Zs]; omega) only [Zo, Ze, Zn, Zq, a0, a1]
 ·simp (disch := first | omega | simp only [Zs]; omega) only [Zo, Ze, Zn, Zq, a0, a1]
 ·simp (disch := first | omega | simp only [Zs]; omega) only [Zo, Ze, Zn, Zq, a0, a1]
 refine wpl_abs (fun b : Act => b.tmps.size = 31 /\ b.defers = [] /\ Act.get b 5 = dv /\ Act.get b 8 = .int .u8 (oct8 (n / 2 ^ 56)).toNat /\ Act.get b 11 = .int .u8 (oct8 (n / 2 ^ 48)).toNat /\ Act.get b 14 = .int .u8 (oct8 (n / 2 ^ 40)).toNat /\ Act.get b 17 = .int .u8 (oct8 (n / 2 ^ 32)).toNat /\ Act.get b 20 = .int .u8 (oct8 (n / 2 ^ 24)).toNat /\ Act.get b 23 = .int .u8 (oct8 (n / 2 ^ 16)).toNat /\ Act.get b 26 = .int .u8 (oct8 (n / 2 ^ 8)).toNat /\ Act.get b 28 = .int .u8 (oct8 n).toNat) ⟨?_, ?_, ?_, ?_, ?_, ?_, ?_, ?_, ?_, ?_, ?_⟩ ?_
 ·simp only [Zs]; exact aN
 ·simp only [Zd]; exact ad
 ·simp (disch := first | omega | simp only [Zs]; omega) only [Zo, Ze, Zn, Zq, a0, a1]
 ·simp (disch := first | omega | simp only [Zs]; omega) only [Zo, Ze, Zn, Zq, a0, a1]
  exact oct8_u8 _
 ·simp (disch := first | omega | simp only [Zs]; omega) only [Zo, Ze, Zn, Zq, a0, a1]
  exact oct8_u8 _
 ·simp (disch := first | omega | simp only [Zs]; omega) only [Zo, Ze, Zn, Zq, a0, a1]
  exact oct8_u8 _
 ·simp (disch := first | omega | simp only [Zs]; omega) only [Zo, Ze, Zn, Zq, a0, a1]
  exact oct8_u8 _
 ·simp (disch := first | omega | simp only [Zs]; omega) only [Zo, Ze, Zn, Zq, a0, a1]
  exact oct8_u8 _
 ·simp (disch := first | omega | simp only [Zs]; omega) only [Zo, Ze, Zn, Zq, a0, a1]
  exact oct8_u8 _
 ·simp (disch := first | omega | simp only [Zs]; omega) only [Zo, Ze, Zn, Zq, a0, a1]
  exact oct8_u8 _
 ·simp (disch := first | omega | simp only [Zs]; omega) only [Zo, Ze, Zn, Zq, a0, a1]
  exact oct8_u8 _
 rintro b ⟨bN, bd, bD, q0, q1, q2, q3, q4, q5, q6, q7⟩
 refine wpl_octN (base := base) (v := dv) (bs := out) (cs := [oct8 (n / 2 ^ 56), oct8 (n / 2 ^ 48), oct8 (n / 2 ^ 40), oct8 (n / 2 ^ 32), oct8 (n / 2 ^ 24), oct8 (n / 2 ^ 16), oct8 (n / 2 ^ 8), oct8 n]) octs_info rfl (by decide) ?_ (by omega) ?_ hown (by omega) hb ?_
 ·simp [Ze, octV, q0, q1, q2, q3, q4, q5, q6, q7]
 ·simp (disch := first | omega | simp only [Zs]; omega) only [Zo, Ze, Zn, Zq, bD]
 intro v' w' h1 h2
 refine Zv rfl Zi (wpList_nil (wp_ret ?_))
 try simp only [Exit.then, Exit.inBlock]
 refine bodyPost_ret (results_tmp rfl _ _ _) ?_ ⟨_, rfl, ?_, ?_⟩
 ·simp only [Zd]; exact bd
 ·rw [show ∀ (a : Act), a.tmps.getD 4 undef = Act.get a 4 from fun _ => rfl]
  simp (disch := first | omega | simp only [Zs]; omega) only [Zo, Ze, Zn, Zq]
  rw [show fixedE n 8 = [oct8 (n / 2 ^ 56), oct8 (n / 2 ^ 48), oct8 (n / 2 ^ 40), oct8 (n / 2 ^ 32), oct8 (n / 2 ^ 24), oct8 (n / 2 ^ 16), oct8 (n / 2 ^ 8), oct8 n] by simp [fixed8]]
  exact h1
 ·rw [show ∀ (a : Act), a.tmps.getD 4 undef = Act.get a 4 from fun _ => rfl]
  simp (disch := first | omega | simp only [Zs]; omega) only [Zo, Ze, Zn, Zq]
  exact h2
theorem app_i16 {w : World} {base : Nat} {dv : Value} {out : List UInt8} {n : Int} (hown : OwnB w base dv out) (hb : base <= w.heap.size) (hl : out.length + 2 <= 4294967296) : PutC Tryz.prog 46 #[dv, .int .i16 n] w base dv out (fixedE n 2) := by
 refine calls_of_wp Tryz.func46 rfl ?_
 rw [Tryz.ntmps46]
 refine wp_act (fun a : Act => Act.get a 0 = dv /\ Act.get a 1 = .int .i16 n /\ a.tmps.size = 9 /\ a.defers = []) ⟨by rw [Zj _ _ _ (by simp)]; rfl, by rw [Zj _ _ _ (by simp)]; rfl, by simp, rfl⟩ ?_
 rintro a ⟨a0, a1, aN, ad⟩
 refine wp_seq (wp_region_lit (Zv rfl Zi (wpList_nil ?_)))
 refine wp_seq (wp_region_lit (Zv rfl Zm (Zv rfl Zm (Zv rfl (x_convInt (n := n) (k := .i16) (k' := .u16) (by kernel_rfl) (by kernel_rfl) ?_) (wpl_call rfl (Zy (by kernel_rfl) rfl) (R := fun e w' => ∃ v, e = .returned v /\ OwnB w' base v (out ++ (fixedE n 2)) /\ Fine dv v w w') ?_ ?_)))))
 ·simp (disch := first | omega | simp only [Zs]; omega) only [Zo, Ze, Zn, Zq, a0, a1]
 ·rw [show ∀ a : Act, (#[Operand.tmp 5, .tmp 7] : Array Operand).map a.eval = #[Act.get a 5, Act.get a 7] from fun a => by simp [Ze]]
  simp (disch := first | omega | simp only [Zs]; omega) only [Zo, Ze, Zn, Zq, a0, a1]
  have h := app_u16 (n := IntKind.u16.wrap n) hown hb hl
  rw [fixedE_u16] at h
  exact h.out
 rintro e w' ⟨v', rfl, h1, h2⟩
 refine ⟨_, rfl, ?_⟩
 have bd := ad
 refine Zv rfl Zi (wpList_nil (wp_ret ?_))
 try simp only [Exit.then, Exit.inBlock]
 refine bodyPost_ret (results_tmp rfl _ _ _) ?_ ⟨_, rfl, ?_, ?_⟩
 ·simp only [Zd]; exact bd
 ·rw [show ∀ (a : Act), a.tmps.getD 4 undef = Act.get a 4 from fun _ => rfl]
  simp (disch := first | omega | simp only [Zs]; omega) only [Zo, Ze, Zn, Zq]
  exact h1
 ·rw [show ∀ (a : Act), a.tmps.getD 4 undef = Act.get a 4 from fun _ => rfl]
  simp (disch := first | omega | simp only [Zs]; omega) only [Zo, Ze, Zn, Zq]
  exact h2
theorem app_i32 {w : World} {base : Nat} {dv : Value} {out : List UInt8} {n : Int} (hown : OwnB w base dv out) (hb : base <= w.heap.size) (hl : out.length + 4 <= 4294967296) : PutC Tryz.prog 45 #[dv, .int .i32 n] w base dv out (fixedE n 4) := by
 refine calls_of_wp Tryz.func45 rfl ?_
 rw [Tryz.ntmps45]
 refine wp_act (fun a : Act => Act.get a 0 = dv /\ Act.get a 1 = .int .i32 n /\ a.tmps.size = 9 /\ a.defers = []) ⟨by rw [Zj _ _ _ (by simp)]; rfl, by rw [Zj _ _ _ (by simp)]; rfl, by simp, rfl⟩ ?_
 rintro a ⟨a0, a1, aN, ad⟩
 refine wp_seq (wp_region_lit (Zv rfl Zi (wpList_nil ?_)))
 refine wp_seq (wp_region_lit (Zv rfl Zm (Zv rfl Zm (Zv rfl (x_convInt (n := n) (k := .i32) (k' := .u32) (by kernel_rfl) (by kernel_rfl) ?_) (wpl_call rfl (Zy (by kernel_rfl) rfl) (R := fun e w' => ∃ v, e = .returned v /\ OwnB w' base v (out ++ (fixedE n 4)) /\ Fine dv v w w') ?_ ?_)))))
 ·simp (disch := first | omega | simp only [Zs]; omega) only [Zo, Ze, Zn, Zq, a0, a1]
 ·rw [show ∀ a : Act, (#[Operand.tmp 5, .tmp 7] : Array Operand).map a.eval = #[Act.get a 5, Act.get a 7] from fun a => by simp [Ze]]
  simp (disch := first | omega | simp only [Zs]; omega) only [Zo, Ze, Zn, Zq, a0, a1]
  have h := app_u32 (n := IntKind.u32.wrap n) hown hb hl
  rw [fixedE_u32] at h
  exact h.out
 rintro e w' ⟨v', rfl, h1, h2⟩
 refine ⟨_, rfl, ?_⟩
 have bd := ad
 refine Zv rfl Zi (wpList_nil (wp_ret ?_))
 try simp only [Exit.then, Exit.inBlock]
 refine bodyPost_ret (results_tmp rfl _ _ _) ?_ ⟨_, rfl, ?_, ?_⟩
 ·simp only [Zd]; exact bd
 ·rw [show ∀ (a : Act), a.tmps.getD 4 undef = Act.get a 4 from fun _ => rfl]
  simp (disch := first | omega | simp only [Zs]; omega) only [Zo, Ze, Zn, Zq]
  exact h1
 ·rw [show ∀ (a : Act), a.tmps.getD 4 undef = Act.get a 4 from fun _ => rfl]
  simp (disch := first | omega | simp only [Zs]; omega) only [Zo, Ze, Zn, Zq]
  exact h2
theorem app_i64 {w : World} {base : Nat} {dv : Value} {out : List UInt8} {n : Int} (hown : OwnB w base dv out) (hb : base <= w.heap.size) (hl : out.length + 8 <= 4294967296) : PutC Tryz.prog 49 #[dv, .int .i64 n] w base dv out (fixedE n 8) := by
 refine calls_of_wp Tryz.func49 rfl ?_
 rw [Tryz.ntmps49]
 refine wp_act (fun a : Act => Act.get a 0 = dv /\ Act.get a 1 = .int .i64 n /\ a.tmps.size = 9 /\ a.defers = []) ⟨by rw [Zj _ _ _ (by simp)]; rfl, by rw [Zj _ _ _ (by simp)]; rfl, by simp, rfl⟩ ?_
 rintro a ⟨a0, a1, aN, ad⟩
 refine wp_seq (wp_region_lit (Zv rfl Zi (wpList_nil ?_)))
 refine wp_seq (wp_region_lit (Zv rfl Zm (Zv rfl Zm (Zv rfl (x_convInt (n := n) (k := .i64) (k' := .u64) (by kernel_rfl) (by kernel_rfl) ?_) (wpl_call rfl (Zy (by kernel_rfl) rfl) (R := fun e w' => ∃ v, e = .returned v /\ OwnB w' base v (out ++ (fixedE n 8)) /\ Fine dv v w w') ?_ ?_)))))
 ·simp (disch := first | omega | simp only [Zs]; omega) only [Zo, Ze, Zn, Zq, a0, a1]
 ·rw [show ∀ a : Act, (#[Operand.tmp 5, .tmp 7] : Array Operand).map a.eval = #[Act.get a 5, Act.get a 7] from fun a => by simp [Ze]]
  simp (disch := first | omega | simp only [Zs]; omega) only [Zo, Ze, Zn, Zq, a0, a1]
  have h := app_u64 (n := IntKind.u64.wrap n) hown hb hl
  rw [fixedE_u64] at h
  exact h.out
 rintro e w' ⟨v', rfl, h1, h2⟩
 refine ⟨_, rfl, ?_⟩
 have bd := ad
 refine Zv rfl Zi (wpList_nil (wp_ret ?_))
 try simp only [Exit.then, Exit.inBlock]
 refine bodyPost_ret (results_tmp rfl _ _ _) ?_ ⟨_, rfl, ?_, ?_⟩
 ·simp only [Zd]; exact bd
 ·rw [show ∀ (a : Act), a.tmps.getD 4 undef = Act.get a 4 from fun _ => rfl]
  simp (disch := first | omega | simp only [Zs]; omega) only [Zo, Ze, Zn, Zq]
  exact h1
 ·rw [show ∀ (a : Act), a.tmps.getD 4 undef = Act.get a 4 from fun _ => rfl]
  simp (disch := first | omega | simp only [Zs]; omega) only [Zo, Ze, Zn, Zq]
  exact h2
theorem app_uv {w : World} {base : Nat} {dv : Value} {out : List UInt8} {n : Nat} (hn : n < 4294967296) (hown : OwnB w base dv out) (hb : base <= w.heap.size) (hl : out.length + (uvE n).length <= 4294967296) : PutC Tryz.prog 51 #[dv, .int .u32 n] w base dv out (uvE n) := by
 refine calls_of_wp Tryz.func51 rfl ?_
 rw [Tryz.ntmps51]
 refine wp_act (fun a : Act => Act.get a 0 = dv /\ Act.get a 1 = .int .u32 n /\ a.tmps.size = 93 /\ a.defers = []) ⟨by rw [Zj _ _ _ (by simp)]; rfl, by rw [Zj _ _ _ (by simp)]; rfl, by simp, rfl⟩ ?_
 rintro a ⟨a0, a1, aN, ad⟩
 refine wp_seq (wp_region_lit (Zv rfl Zi (wpList_nil ?_)))
 refine wp_seq (wp_seq (wp_region_lit (Zv rfl Zm (wpl_call rfl (Zy (by kernel_rfl) rfl) (R := fun e w' => e = .returned (.int .i64 (uvLen n : Nat)) /\ w = w') ?_ ?_))))
 ·rw [show ∀ a : Act, (#[Operand.tmp 5] : Array Operand).map a.eval = #[Act.get a 5] from fun a => by simp [Ze]]
  simp (disch := first | omega | simp only [Zs]; omega) only [Zo, Ze, Zn, Zq, a1]
  exact uvlen_c hn
 rintro e w' ⟨rfl, rfl⟩
 refine ⟨_, rfl, wpList_nil ?_⟩
 refine wp_act (fun a : Act => Act.get a 0 = dv /\ Act.get a 1 = .int .u32 n /\ Act.get a 6 = .int .i64 (uvLen n : Nat) /\ a.tmps.size = 93 /\ a.defers = []) ⟨?_, ?_, ?_, ?_, ?_⟩ ?_
 ·simp (disch := first | omega | simp only [Zs]; omega) only [Zo, Ze, Zn, Zq, a0]
 ·simp (disch := first | omega | simp only [Zs]; omega) only [Zo, Ze, Zn, Zq, a1]
 ·simp (disch := first | omega | simp only [Zs]; omega) only [Zo, Ze, Zn, Zq]
 ·simp only [Zs]; exact aN
 ·simp only [Zd]; exact ad
 clear a0 a1 aN ad a
 rintro a ⟨a0, a1, a6, aN, ad⟩
 refine wp_block ?_
 -- 5 octets
 refine wp_seq (wp_region_lit (Zv rfl (x_eqlI (k := .i64) (m := (uvLen n : Nat)) (n := 5) ?_ rfl) (Zv rfl Zi (wpList_nil ?_))))
 ·simp (disch := first | omega | simp only [Zs]; omega) only [Zo, Ze, Zn, Zq, a6]
 by_cases h5 : 268435456 <= n
 ·have hu : uvLen n = 5 := by
   unfold uvLen
   rw [if_neg (by omega)]
   rw [if_neg (by omega)]
   rw [if_neg (by omega)]
   rw [if_neg (by omega)]
  have he : uvE n = [UInt8.ofNat (n % 128 + 128), UInt8.ofNat (n / 128 % 128 + 128), UInt8.ofNat (n / 128 / 128 % 128 + 128), UInt8.ofNat (n / 128 / 128 / 128 % 128 + 128), UInt8.ofNat (n / 128 / 128 / 128 / 128)] := by
   rw [uvE_big (n := n) (by omega)]
   rw [uvE_big (n := n / 128) (by omega)]
   rw [uvE_big (n := n / 128 / 128) (by omega)]
   rw [uvE_big (n := n / 128 / 128 / 128) (by omega)]
   rw [uvE_small (n := n / 128 / 128 / 128 / 128) (by omega)]
  rw [he] at hl ⊢
  simp only [List.length_cons, List.length_nil] at hl
  refine wp_cond_true ?_ ?_
  ·simp (disch := first | omega | simp only [Zs]; omega) only [Zo, Ze, Zn, Zq]
   rw [hu]; rfl
  refine wp_seq (wp_region_lit (Zv rfl Zm (Zv rfl Zm (Zv rfl (x_bitAnd (k := .u32) (m := (n : Int)) (n := 127) ?_ rfl) (Zv rfl (x_bitOr (k := .u32) (m := (bits .and .u32 ((n : Int)) (127))) (n := 128) ?_ rfl) (Zv rfl (x_convInt (n := (bits .or .u32 ((bits .and .u32 ((n : Int)) (127))) (128))) (k := .u32) (k' := .u8) (by kernel_rfl) (by kernel_rfl) ?_) (Zv rfl Zm (Zv rfl (x_shrL (k := .u32) (k' := .u64) (m := (n : Int)) (s := 7) ?_ rfl (by decide)) (Zv rfl (x_bitAnd (k := .u32) (m := ((n : Int)) / 2 ^ 7) (n := 127) ?_ rfl) (Zv rfl (x_bitOr (k := .u32) (m := (bits .and .u32 (((n : Int)) / 2 ^ 7) (127))) (n := 128) ?_ rfl) (Zv rfl (x_convInt (n := (bits .or .u32 ((bits .and .u32 (((n : Int)) / 2 ^ 7) (127))) (128))) (k := .u32) (k' := .u8) (by kernel_rfl) (by kernel_rfl) ?_) (Zv rfl Zm (Zv rfl (x_shrL (k := .u32) (k' := .u64) (m := (n : Int)) (s := 14) ?_ rfl (by decide)) (Zv rfl (x_bitAnd (k := .u32) (m := ((n : Int)) / 2 ^ 14) (n := 127) ?_ rfl) (Zv rfl (x_bitOr (k := .u32) (m := (bits .and .u32 (((n : Int)) / 2 ^ 14) (127))) (n := 128) ?_ rfl) (Zv rfl (x_convInt (n := (bits .or .u32 ((bits .and .u32 (((n : Int)) / 2 ^ 14) (127))) (128))) (k := .u32) (k' := .u8) (by kernel_rfl) (by kernel_rfl) ?_) (Zv rfl Zm (Zv rfl (x_shrL (k := .u32) (k' := .u64) (m := (n : Int)) (s := 21) ?_ rfl (by decide)) (Zv rfl (x_bitAnd (k := .u32) (m := ((n : Int)) / 2 ^ 21) (n := 127) ?_ rfl) (Zv rfl (x_bitOr (k := .u32) (m := (bits .and .u32 (((n : Int)) / 2 ^ 21) (127))) (n := 128) ?_ rfl) (Zv rfl (x_convInt (n := (bits .or .u32 ((bits .and .u32 (((n : Int)) / 2 ^ 21) (127))) (128))) (k := .u32) (k' := .u8) (by kernel_rfl) (by kernel_rfl) ?_) (Zv rfl Zm (Zv rfl (x_shrL (k := .u32) (k' := .u64) (m := (n : Int)) (s := 28) ?_ rfl (by decide)) (Zv rfl (x_convInt (n := ((n : Int)) / 2 ^ 28) (k := .u32) (k' := .u8) (by kernel_rfl) (by kernel_rfl) ?_) ?_))))))))))))))))))))))))
  ·simp (disch := first | omega | simp only [Zs]; omega) only [Zo, Ze, Zn, Zq, a0, a1]
  ·simp (disch := first | omega | simp only [Zs]; omega) only [Zo, Ze, Zn, Zq, a0, a1]
  ·simp (disch := first | omega | simp only [Zs]; omega) only [Zo, Ze, Zn, Zq, a0, a1]
  ·simp (disch := first | omega | simp only [Zs]; omega) only [Zo, Ze, Zn, Zq, a0, a1]
  ·simp (disch := first | omega | simp only [Zs]; omega) only [Zo, Ze, Zn, Zq, a0, a1]
  ·simp (disch := first | omega | simp only [Zs]; omega) only [Zo, Ze, Zn, Zq, a0, a1]
  ·simp (disch := first | omega | simp only [Zs]; omega) only [Zo, Ze, Zn, Zq, a0, a1]
  ·simp (disch := first | omega | simp only [Zs]; omega) only [Zo, Ze, Zn, Zq, a0, a1]
  ·simp (disch := first | omega | simp only [Zs]; omega) only [Zo, Ze, Zn, Zq, a0, a1]
  ·simp (disch := first | omega | simp only [Zs]; omega) only [Zo, Ze, Zn, Zq, a0, a1]
  ·simp (disch := first | omega | simp only [Zs]; omega) only [Zo, Ze, Zn, Zq, a0, a1]
  ·simp (disch := first | omega | simp only [Zs]; omega) only [Zo, Ze, Zn, Zq, a0, a1]
  ·simp (disch := first | omega | simp only [Zs]; omega) only [Zo, Ze, Zn, Zq, a0, a1]
  ·simp (disch := first | omega | simp only [Zs]; omega) only [Zo, Ze, Zn, Zq, a0, a1]
  ·simp (disch := first | omega | simp only [Zs]; omega) only [Zo, Ze, Zn, Zq, a0, a1]
  ·simp (disch := first | omega | simp only [Zs]; omega) only [Zo, Ze, Zn, Zq, a0, a1]
  ·simp (disch := first | omega | simp only [Zs]; omega) only [Zo, Ze, Zn, Zq, a0, a1]
  refine wpl_abs (fun b : Act => b.tmps.size = 93 /\ b.defers = [] /\ Act.get b 9 = dv /\ Act.get b 13 = .int .u8 (UInt8.ofNat (n % 128 + 128)).toNat /\ Act.get b 18 = .int .u8 (UInt8.ofNat (n / 128 % 128 + 128)).toNat /\ Act.get b 23 = .int .u8 (UInt8.ofNat (n / 128 / 128 % 128 + 128)).toNat /\ Act.get b 28 = .int .u8 (UInt8.ofNat (n / 128 / 128 / 128 % 128 + 128)).toNat /\ Act.get b 31 = .int .u8 (UInt8.ofNat (n / 128 / 128 / 128 / 128)).toNat) ⟨?_, ?_, ?_, ?_, ?_, ?_, ?_, ?_⟩ ?_
  ·simp only [Zs]; exact aN
  ·simp only [Zd]; exact ad
  ·simp (disch := first | omega | simp only [Zs]; omega) only [Zo, Ze, Zn, Zq, a0, a1]
  ·simp (disch := first | omega | simp only [Zs]; omega) only [Zo, Ze, Zn, Zq, a0, a1]
   have e : ((n : Int) / 2 ^ 0) = ((n : Nat) : Int) := by omega
   skip
   exact grp_hi (by omega)
  ·simp (disch := first | omega | simp only [Zs]; omega) only [Zo, Ze, Zn, Zq, a0, a1]
   have e : ((n : Int) / 2 ^ 7) = ((n / 128 : Nat) : Int) := by omega
   rw [e]
   exact grp_hi (by omega)
  ·simp (disch := first | omega | simp only [Zs]; omega) only [Zo, Ze, Zn, Zq, a0, a1]
   have e : ((n : Int) / 2 ^ 14) = ((n / 128 / 128 : Nat) : Int) := by omega
   rw [e]
   exact grp_hi (by omega)
  ·simp (disch := first | omega | simp only [Zs]; omega) only [Zo, Ze, Zn, Zq, a0, a1]
   have e : ((n : Int) / 2 ^ 21) = ((n / 128 / 128 / 128 : Nat) : Int) := by omega
   rw [e]
   exact grp_hi (by omega)
  ·simp (disch := first | omega | simp only [Zs]; omega) only [Zo, Ze, Zn, Zq, a0, a1]
   have e : ((n : Int) / 2 ^ 28) = ((n / 128 / 128 / 128 / 128 : Nat) : Int) := by omega
   rw [e]
   exact grp_lo (by omega)
  rintro b ⟨bN, bd, bD, q0, q1, q2, q3, q4⟩
  refine wpl_octN (base := base) (v := dv) (bs := out) (cs := [UInt8.ofNat (n % 128 + 128), UInt8.ofNat (n / 128 % 128 + 128), UInt8.ofNat (n / 128 / 128 % 128 + 128), UInt8.ofNat (n / 128 / 128 / 128 % 128 + 128), UInt8.ofNat (n / 128 / 128 / 128 / 128)]) octs_info rfl (by decide) ?_ (by omega) ?_ hown (by omega) hb ?_
  ·simp [Ze, octV, q0, q1, q2, q3, q4]
  ·simp (disch := first | omega | simp only [Zs]; omega) only [Zo, Ze, Zn, Zq, bD]
  intro v' w' h1 h2
  refine Zv rfl Zi (wpList_nil (wp_ret ?_))
  try simp only [Exit.then, Exit.inBlock]
  refine bodyPost_ret (results_tmp rfl _ _ _) ?_ ⟨_, rfl, ?_, ?_⟩
  ·simp only [Zd]; exact bd
  ·rw [show ∀ (a : Act), a.tmps.getD 4 undef = Act.get a 4 from fun _ => rfl]
   simp (disch := first | omega | simp only [Zs]; omega) only [Zo, Ze, Zn, Zq]
   exact h1
  ·rw [show ∀ (a : Act), a.tmps.getD 4 undef = Act.get a 4 from fun _ => rfl]
   simp (disch := first | omega | simp only [Zs]; omega) only [Zo, Ze, Zn, Zq]
   exact h2
 have hu : uvLen n ≠ 5 := by
  unfold uvLen
  split <;> (try split) <;> (try split) <;> (try split) <;> omega
 refine wp_cond_false ?_ ?_
 ·simp (disch := first | omega | simp only [Zs]; omega) only [Zo, Ze, Zn, Zq]
  simp; omega
 refine wp_act (fun b : Act => Act.get b 0 = dv /\ Act.get b 1 = .int .u32 n /\ Act.get b 6 = .int .i64 (uvLen n : Nat) /\ b.tmps.size = 93 /\ b.defers = []) ⟨?_, ?_, ?_, ?_, ?_⟩ ?_
 ·simp (disch := first | omega | simp only [Zs]; omega) only [Zo, Ze, Zn, Zq, a0]
 ·simp (disch := first | omega | simp only [Zs]; omega) only [Zo, Ze, Zn, Zq, a1]
 ·simp (disch := first | omega | simp only [Zs]; omega) only [Zo, Ze, Zn, Zq, a6]
 ·simp only [Zs]; exact aN
 ·simp only [Zd]; exact ad
 clear a0 a1 a6 aN ad a
 rintro a ⟨a0, a1, a6, aN, ad⟩
 -- 4 octets
 refine wp_seq (wp_region_lit (Zv rfl (x_eqlI (k := .i64) (m := (uvLen n : Nat)) (n := 4) ?_ rfl) (Zv rfl Zi (wpList_nil ?_))))
 ·simp (disch := first | omega | simp only [Zs]; omega) only [Zo, Ze, Zn, Zq, a6]
 by_cases h4 : 2097152 <= n
 ·have hu : uvLen n = 4 := by
   unfold uvLen
   rw [if_neg (by omega)]
   rw [if_neg (by omega)]
   rw [if_neg (by omega)]
   rw [if_pos (by omega)]
  have he : uvE n = [UInt8.ofNat (n % 128 + 128), UInt8.ofNat (n / 128 % 128 + 128), UInt8.ofNat (n / 128 / 128 % 128 + 128), UInt8.ofNat (n / 128 / 128 / 128)] := by
   rw [uvE_big (n := n) (by omega)]
   rw [uvE_big (n := n / 128) (by omega)]
   rw [uvE_big (n := n / 128 / 128) (by omega)]
   rw [uvE_small (n := n / 128 / 128 / 128) (by omega)]
  rw [he] at hl ⊢
  simp only [List.length_cons, List.length_nil] at hl
  refine wp_cond_true ?_ ?_
  ·simp (disch := first | omega | simp only [Zs]; omega) only [Zo, Ze, Zn, Zq]
   rw [hu]; rfl
  refine wp_seq (wp_region_lit (Zv rfl Zm (Zv rfl Zm (Zv rfl (x_bitAnd (k := .u32) (m := (n : Int)) (n := 127) ?_ rfl) (Zv rfl (x_bitOr (k := .u32) (m := (bits .and .u32 ((n : Int)) (127))) (n := 128) ?_ rfl) (Zv rfl (x_convInt (n := (bits .or .u32 ((bits .and .u32 ((n : Int)) (127))) (128))) (k := .u32) (k' := .u8) (by kernel_rfl) (by kernel_rfl) ?_) (Zv rfl Zm (Zv rfl (x_shrL (k := .u32) (k' := .u64) (m := (n : Int)) (s := 7) ?_ rfl (by decide)) (Zv rfl (x_bitAnd (k := .u32) (m := ((n : Int)) / 2 ^ 7) (n := 127) ?_ rfl) (Zv rfl (x_bitOr (k := .u32) (m := (bits .and .u32 (((n : Int)) / 2 ^ 7) (127))) (n := 128) ?_ rfl) (Zv rfl (x_convInt (n := (bits .or .u32 ((bits .and .u32 (((n : Int)) / 2 ^ 7) (127))) (128))) (k := .u32) (k' := .u8) (by kernel_rfl) (by kernel_rfl) ?_) (Zv rfl Zm (Zv rfl (x_shrL (k := .u32) (k' := .u64) (m := (n : Int)) (s := 14) ?_ rfl (by decide)) (Zv rfl (x_bitAnd (k := .u32) (m := ((n : Int)) / 2 ^ 14) (n := 127) ?_ rfl) (Zv rfl (x_bitOr (k := .u32) (m := (bits .and .u32 (((n : Int)) / 2 ^ 14) (127))) (n := 128) ?_ rfl) (Zv rfl (x_convInt (n := (bits .or .u32 ((bits .and .u32 (((n : Int)) / 2 ^ 14) (127))) (128))) (k := .u32) (k' := .u8) (by kernel_rfl) (by kernel_rfl) ?_) (Zv rfl Zm (Zv rfl (x_shrL (k := .u32) (k' := .u64) (m := (n : Int)) (s := 21) ?_ rfl (by decide)) (Zv rfl (x_convInt (n := ((n : Int)) / 2 ^ 21) (k := .u32) (k' := .u8) (by kernel_rfl) (by kernel_rfl) ?_) ?_)))))))))))))))))))
  ·simp (disch := first | omega | simp only [Zs]; omega) only [Zo, Ze, Zn, Zq, a0, a1]
  ·simp (disch := first | omega | simp only [Zs]; omega) only [Zo, Ze, Zn, Zq, a0, a1]
  ·simp (disch := first | omega | simp only [Zs]; omega) only [Zo, Ze, Zn, Zq, a0, a1]
  ·simp (disch := first | omega | simp only [Zs]; omega) only [Zo, Ze, Zn, Zq, a0, a1]
  ·simp (disch := first | omega | simp only [Zs]; omega) only [Zo, Ze, Zn, Zq, a0, a1]
  ·simp (disch := first | omega | simp only [Zs]; omega) only [Zo, Ze, Zn, Zq, a0, a1]
  ·simp (disch := first | omega | simp only [Zs]; omega) only [Zo, Ze, Zn, Zq, a0, a1]
  ·simp (disch := first | omega | simp only [Zs]; omega) only [Zo, Ze, Zn, Zq, a0, a1]
  ·simp (disch := first | omega | simp only [Zs]; omega) only [Zo, Ze, Zn, Zq, a0, a1]
  ·simp (disch := first | omega | simp only [Zs]; omega) only [Zo, Ze, Zn, Zq, a0, a1]
  ·simp (disch := first | omega | simp only [Zs]; omega) only [Zo, Ze, Zn, Zq, a0, a1]
  ·simp (disch := first | omega | simp only [Zs]; omega) only [Zo, Ze, Zn, Zq, a0, a1]
  ·simp (disch := first | omega | simp only [Zs]; omega) only [Zo, Ze, Zn, Zq, a0, a1]
  refine wpl_abs (fun b : Act => b.tmps.size = 93 /\ b.defers = [] /\ Act.get b 36 = dv /\ Act.get b 40 = .int .u8 (UInt8.ofNat (n % 128 + 128)).toNat /\ Act.get b 45 = .int .u8 (UInt8.ofNat (n / 128 % 128 + 128)).toNat /\ Act.get b 50 = .int .u8 (UInt8.ofNat (n / 128 / 128 % 128 + 128)).toNat /\ Act.get b 53 = .int .u8 (UInt8.ofNat (n / 128 / 128 / 128)).toNat) ⟨?_, ?_, ?_, ?_, ?_, ?_, ?_⟩ ?_
  ·simp only [Zs]; exact aN
  ·simp only [Zd]; exact ad
  ·simp (disch := first | omega | simp only [Zs]; omega) only [Zo, Ze, Zn, Zq, a0, a1]
  ·simp (disch := first | omega | simp only [Zs]; omega) only [Zo, Ze, Zn, Zq, a0, a1]
   have e : ((n : Int) / 2 ^ 0) = ((n : Nat) : Int) := by omega
   skip
   exact grp_hi (by omega)
  ·simp (disch := first | omega | simp only [Zs]; omega) only [Zo, Ze, Zn, Zq, a0, a1]
   have e : ((n : Int) / 2 ^ 7) = ((n / 128 : Nat) : Int) := by omega
   rw [e]
   exact grp_hi (by omega)
  ·simp (disch := first | omega | simp only [Zs]; omega) only [Zo, Ze, Zn, Zq, a0, a1]
   have e : ((n : Int) / 2 ^ 14) = ((n / 128 / 128 : Nat) : Int) := by omega
   rw [e]
   exact grp_hi (by omega)
  ·simp (disch := first | omega | simp only [Zs]; omega) only [Zo, Ze, Zn, Zq, a0, a1]
   have e : ((n : Int) / 2 ^ 21) = ((n / 128 / 128 / 128 : Nat) : Int) := by omega
   rw [e]
   exact grp_lo (by omega)
  rintro b ⟨bN, bd, bD, q0, q1, q2, q3⟩
  refine wpl_octN (base := base) (v := dv) (bs := out) (cs := [UInt8.ofNat (n % 128 + 128), UInt8.ofNat (n / 128 % 128 + 128), UInt8.ofNat (n / 128 / 128 % 128 + 128), UInt8.ofNat (n / 128 / 128 / 128)]) octs_info rfl (by decide) ?_ (by omega) ?_ hown (by omega) hb ?_
  ·simp [Ze, octV, q0, q1, q2, q3]
  ·simp (disch := first | omega | simp only [Zs]; omega) only [Zo, Ze, Zn, Zq, bD]
  intro v' w' h1 h2
  refine Zv rfl Zi (wpList_nil (wp_ret ?_))
  try simp only [Exit.then, Exit.inBlock]
  refine bodyPost_ret (results_tmp rfl _ _ _) ?_ ⟨_, rfl, ?_, ?_⟩
  ·simp only [Zd]; exact bd
  ·rw [show ∀ (a : Act), a.tmps.getD 4 undef = Act.get a 4 from fun _ => rfl]
   simp (disch := first | omega | simp only [Zs]; omega) only [Zo, Ze, Zn, Zq]
   exact h1
  ·rw [show ∀ (a : Act), a.tmps.getD 4 undef = Act.get a 4 from fun _ => rfl]
   simp (disch := first | omega | simp only [Zs]; omega) only [Zo, Ze, Zn, Zq]
   exact h2
 have hu : uvLen n ≠ 4 := by
  unfold uvLen
  split <;> (try split) <;> (try split) <;> (try split) <;> omega
 refine wp_cond_false ?_ ?_
 ·simp (disch := first | omega | simp only [Zs]; omega) only [Zo, Ze, Zn, Zq]
  simp; omega
 refine wp_act (fun b : Act => Act.get b 0 = dv /\ Act.get b 1 = .int .u32 n /\ Act.get b 6 = .int .i64 (uvLen n : Nat) /\ b.tmps.size = 93 /\ b.defers = []) ⟨?_, ?_, ?_, ?_, ?_⟩ ?_
 ·simp (disch := first | omega | simp only [Zs]; omega) only [Zo, Ze, Zn, Zq, a0]
 ·simp (disch := first | omega | simp only [Zs]; omega) only [Zo, Ze, Zn, Zq, a1]
 ·simp (disch := first | omega | simp only [Zs]; omega) only [Zo, Ze, Zn, Zq, a6]
 ·simp only [Zs]; exact aN
 ·simp only [Zd]; exact ad
 clear a0 a1 a6 aN ad a
 rintro a ⟨a0, a1, a6, aN, ad⟩
 -- 3 octets
 refine wp_seq (wp_region_lit (Zv rfl (x_eqlI (k := .i64) (m := (uvLen n : Nat)) (n := 3) ?_ rfl) (Zv rfl Zi (wpList_nil ?_))))
 ·simp (disch := first | omega | simp only [Zs]; omega) only [Zo, Ze, Zn, Zq, a6]
 by_cases h3 : 16384 <= n
 ·have hu : uvLen n = 3 := by
   unfold uvLen
   rw [if_neg (by omega)]
   rw [if_neg (by omega)]
   rw [if_pos (by omega)]
  have he : uvE n = [UInt8.ofNat (n % 128 + 128), UInt8.ofNat (n / 128 % 128 + 128), UInt8.ofNat (n / 128 / 128)] := by
   rw [uvE_big (n := n) (by omega)]
   rw [uvE_big (n := n / 128) (by omega)]
   rw [uvE_small (n := n / 128 / 128) (by omega)]
  rw [he] at hl ⊢
  simp only [List.length_cons, List.length_nil] at hl
  refine wp_cond_true ?_ ?_
  ·simp (disch := first | omega | simp only [Zs]; omega) only [Zo, Ze, Zn, Zq]
   rw [hu]; rfl
  refine wp_seq (wp_region_lit (Zv rfl Zm (Zv rfl Zm (Zv rfl (x_bitAnd (k := .u32) (m := (n : Int)) (n := 127) ?_ rfl) (Zv rfl (x_bitOr (k := .u32) (m := (bits .and .u32 ((n : Int)) (127))) (n := 128) ?_ rfl) (Zv rfl (x_convInt (n := (bits .or .u32 ((bits .and .u32 ((n : Int)) (127))) (128))) (k := .u32) (k' := .u8) (by kernel_rfl) (by kernel_rfl) ?_) (Zv rfl Zm (Zv rfl (x_shrL (k := .u32) (k' := .u64) (m := (n : Int)) (s := 7) ?_ rfl (by decide)) (Zv rfl (x_bitAnd (k := .u32) (m := ((n : Int)) / 2 ^ 7) (n := 127) ?_ rfl) (Zv rfl (x_bitOr (k := .u32) (m := (bits .and .u32 (((n : Int)) / 2 ^ 7) (127))) (n := 128) ?_ rfl) (Zv rfl (x_convInt (n := (bits .or .u32 ((bits .and .u32 (((n : Int)) / 2 ^ 7) (127))) (128))) (k := .u32) (k' := .u8) (by kernel_rfl) (by kernel_rfl) ?_) (Zv rfl Zm (Zv rfl (x_shrL (k := .u32) (k' := .u64) (m := (n : Int)) (s := 14) ?_ rfl (by decide)) (Zv rfl (x_convInt (n := ((n : Int)) / 2 ^ 14) (k := .u32) (k' := .u8) (by kernel_rfl) (by kernel_rfl) ?_) ?_))))))))))))))
  ·simp (disch := first | omega | simp only [Zs]; omega) only [Zo, Ze, Zn, Zq, a0, a1]
  ·simp (disch := first | omega | simp only [Zs]; omega) only [Zo, Ze, Zn, Zq, a0, a1]
  ·simp (disch := first | omega | simp only [Zs]; omega) only [Zo, Ze, Zn, Zq, a0, a1]
  ·simp (disch := first | omega | simp only [Zs]; omega) only [Zo, Ze, Zn, Zq, a0, a1]
  ·simp (disch := first | omega | simp only [Zs]; omega) only [Zo, Ze, Zn, Zq, a0, a1]
  ·simp (disch := first | omega | simp only [Zs]; omega) only [Zo, Ze, Zn, Zq, a0, a1]
  ·simp (disch := first | omega | simp only [Zs]; omega) only [Zo, Ze, Zn, Zq, a0, a1]
  ·simp (disch := first | omega | simp only [Zs]; omega) only [Zo, Ze, Zn, Zq, a0, a1]
  ·simp (disch := first | omega | simp only [Zs]; omega) only [Zo, Ze, Zn, Zq, a0, a1]
  refine wpl_abs (fun b : Act => b.tmps.size = 93 /\ b.defers = [] /\ Act.get b 58 = dv /\ Act.get b 62 = .int .u8 (UInt8.ofNat (n % 128 + 128)).toNat /\ Act.get b 67 = .int .u8 (UInt8.ofNat (n / 128 % 128 + 128)).toNat /\ Act.get b 70 = .int .u8 (UInt8.ofNat (n / 128 / 128)).toNat) ⟨?_, ?_, ?_, ?_, ?_, ?_⟩ ?_
  ·simp only [Zs]; exact aN
  ·simp only [Zd]; exact ad
  ·simp (disch := first | omega | simp only [Zs]; omega) only [Zo, Ze, Zn, Zq, a0, a1]
  ·simp (disch := first | omega | simp only [Zs]; omega) only [Zo, Ze, Zn, Zq, a0, a1]
   have e : ((n : Int) / 2 ^ 0) = ((n : Nat) : Int) := by omega
   skip
   exact grp_hi (by omega)
  ·simp (disch := first | omega | simp only [Zs]; omega) only [Zo, Ze, Zn, Zq, a0, a1]
   have e : ((n : Int) / 2 ^ 7) = ((n / 128 : Nat) : Int) := by omega
   rw [e]
   exact grp_hi (by omega)
  ·simp (disch := first | omega | simp only [Zs]; omega) only [Zo, Ze, Zn, Zq, a0, a1]
   have e : ((n : Int) / 2 ^ 14) = ((n / 128 / 128 : Nat) : Int) := by omega
   rw [e]
   exact grp_lo (by omega)
  rintro b ⟨bN, bd, bD, q0, q1, q2⟩
  refine wpl_octN (base := base) (v := dv) (bs := out) (cs := [UInt8.ofNat (n % 128 + 128), UInt8.ofNat (n / 128 % 128 + 128), UInt8.ofNat (n / 128 / 128)]) octs_info rfl (by decide) ?_ (by omega) ?_ hown (by omega) hb ?_
  ·simp [Ze, octV, q0, q1, q2]
  ·simp (disch := first | omega | simp only [Zs]; omega) only [Zo, Ze, Zn, Zq, bD]
  intro v' w' h1 h2
  refine Zv rfl Zi (wpList_nil (wp_ret ?_))
  try simp only [Exit.then, Exit.inBlock]
  refine bodyPost_ret (results_tmp rfl _ _ _) ?_ ⟨_, rfl, ?_, ?_⟩
  ·simp only [Zd]; exact bd
  ·rw [show ∀ (a : Act), a.tmps.getD 4 undef = Act.get a 4 from fun _ => rfl]
   simp (disch := first | omega | simp only [Zs]; omega) only [Zo, Ze, Zn, Zq]
   exact h1
  ·rw [show ∀ (a : Act), a.tmps.getD 4 undef = Act.get a 4 from fun _ => rfl]
   simp (disch := first | omega | simp only [Zs]; omega) only [Zo, Ze, Zn, Zq]
   exact h2
 have hu : uvLen n ≠ 3 := by
  unfold uvLen
  split <;> (try split) <;> (try split) <;> (try split) <;> omega
 refine wp_cond_false ?_ ?_
 ·simp (disch := first | omega | simp only [Zs]; omega) only [Zo, Ze, Zn, Zq]
  simp; omega
 refine wp_act (fun b : Act => Act.get b 0 = dv /\ Act.get b 1 = .int .u32 n /\ Act.get b 6 = .int .i64 (uvLen n : Nat) /\ b.tmps.size = 93 /\ b.defers = []) ⟨?_, ?_, ?_, ?_, ?_⟩ ?_
 ·simp (disch := first | omega | simp only [Zs]; omega) only [Zo, Ze, Zn, Zq, a0]
 ·simp (disch := first | omega | simp only [Zs]; omega) only [Zo, Ze, Zn, Zq, a1]
 ·simp (disch := first | omega | simp only [Zs]; omega) only [Zo, Ze, Zn, Zq, a6]
 ·simp only [Zs]; exact aN
 ·simp only [Zd]; exact ad
 clear a0 a1 a6 aN ad a
 rintro a ⟨a0, a1, a6, aN, ad⟩
 -- 2 octets
 refine wp_seq (wp_region_lit (Zv rfl (x_eqlI (k := .i64) (m := (uvLen n : Nat)) (n := 2) ?_ rfl) (Zv rfl Zi (wpList_nil ?_))))
 ·simp (disch := first | omega | simp only [Zs]; omega) only [Zo, Ze, Zn, Zq, a6]
 by_cases h2 : 128 <= n
 ·have hu : uvLen n = 2 := by
   unfold uvLen
   rw [if_neg (by omega)]
   rw [if_pos (by omega)]
  have he : uvE n = [UInt8.ofNat (n % 128 + 128), UInt8.ofNat (n / 128)] := by
   rw [uvE_big (n := n) (by omega)]
   rw [uvE_small (n := n / 128) (by omega)]
  rw [he] at hl ⊢
  simp only [List.length_cons, List.length_nil] at hl
  refine wp_cond_true ?_ ?_
  ·simp (disch := first | omega | simp only [Zs]; omega) only [Zo, Ze, Zn, Zq]
   rw [hu]; rfl
  refine wp_seq (wp_region_lit (Zv rfl Zm (Zv rfl Zm (Zv rfl (x_bitAnd (k := .u32) (m := (n : Int)) (n := 127) ?_ rfl) (Zv rfl (x_bitOr (k := .u32) (m := (bits .and .u32 ((n : Int)) (127))) (n := 128) ?_ rfl) (Zv rfl (x_convInt (n := (bits .or .u32 ((bits .and .u32 ((n : Int)) (127))) (128))) (k := .u32) (k' := .u8) (by kernel_rfl) (by kernel_rfl) ?_) (Zv rfl Zm (Zv rfl (x_shrL (k := .u32) (k' := .u64) (m := (n : Int)) (s := 7) ?_ rfl (by decide)) (Zv rfl (x_convInt (n := ((n : Int)) / 2 ^ 7) (k := .u32) (k' := .u8) (by kernel_rfl) (by kernel_rfl) ?_) ?_)))))))))
  ·simp (disch := first | omega | simp only [Zs]; omega) only [Zo, Ze, Zn, Zq, a0, a1]
  ·simp (disch := first | omega | simp only [Zs]; omega) only [Zo, Ze, Zn, Zq, a0, a1]
  ·simp (disch := first | omega | simp only [Zs]; omega) only [Zo, Ze, Zn, Zq, a0, a1]
  ·simp (disch := first | omega | simp only [Zs]; omega) only [Zo, Ze, Zn, Zq, a0, a1]
  ·simp (disch := first | omega | simp only [Zs]; omega) only [Zo, Ze, Zn, Zq, a0, a1]
  refine wpl_abs (fun b : Act => b.tmps.size = 93 /\ b.defers = [] /\ Act.get b 75 = dv /\ Act.get b 79 = .int .u8 (UInt8.ofNat (n % 128 + 128)).toNat /\ Act.get b 82 = .int .u8 (UInt8.ofNat (n / 128)).toNat) ⟨?_, ?_, ?_, ?_, ?_⟩ ?_
  ·simp only [Zs]; exact aN
  ·simp only [Zd]; exact ad
  ·simp (disch := first | omega | simp only [Zs]; omega) only [Zo, Ze, Zn, Zq, a0, a1]
  ·simp (disch := first | omega | simp only [Zs]; omega) only [Zo, Ze, Zn, Zq, a0, a1]
   have e : ((n : Int) / 2 ^ 0) = ((n : Nat) : Int) := by omega
   skip
   exact grp_hi (by omega)
  ·simp (disch := first | omega | simp only [Zs]; omega) only [Zo, Ze, Zn, Zq, a0, a1]
   have e : ((n : Int) / 2 ^ 7) = ((n / 128 : Nat) : Int) := by omega
   rw [e]
   exact grp_lo (by omega)
  rintro b ⟨bN, bd, bD, q0, q1⟩
  refine wpl_octN (base := base) (v := dv) (bs := out) (cs := [UInt8.ofNat (n % 128 + 128), UInt8.ofNat (n / 128)]) octs_info rfl (by decide) ?_ (by omega) ?_ hown (by omega) hb ?_
  ·simp [Ze, octV, q0, q1]
  ·simp (disch := first | omega | simp only [Zs]; omega) only [Zo, Ze, Zn, Zq, bD]
  intro v' w' h1 h2
  refine Zv rfl Zi (wpList_nil (wp_ret ?_))
  try simp only [Exit.then, Exit.inBlock]
  refine bodyPost_ret (results_tmp rfl _ _ _) ?_ ⟨_, rfl, ?_, ?_⟩
  ·simp only [Zd]; exact bd
  ·rw [show ∀ (a : Act), a.tmps.getD 4 undef = Act.get a 4 from fun _ => rfl]
   simp (disch := first | omega | simp only [Zs]; omega) only [Zo, Ze, Zn, Zq]
   exact h1
  ·rw [show ∀ (a : Act), a.tmps.getD 4 undef = Act.get a 4 from fun _ => rfl]
   simp (disch := first | omega | simp only [Zs]; omega) only [Zo, Ze, Zn, Zq]
   exact h2
 have hu : uvLen n ≠ 2 := by
  unfold uvLen
  split <;> (try split) <;> (try split) <;> (try split) <;> omega
 refine wp_cond_false ?_ ?_
 ·simp (disch := first | omega | simp only [Zs]; omega) only [Zo, Ze, Zn, Zq]
  simp; omega
 refine wp_act (fun b : Act => Act.get b 0 = dv /\ Act.get b 1 = .int .u32 n /\ Act.get b 6 = .int .i64 (uvLen n : Nat) /\ b.tmps.size = 93 /\ b.defers = []) ⟨?_, ?_, ?_, ?_, ?_⟩ ?_
 ·simp (disch := first | omega | simp only [Zs]; omega) only [Zo, Ze, Zn, Zq, a0]
 ·simp (disch := first | omega | simp only [Zs]; omega) only [Zo, Ze, Zn, Zq, a1]
 ·simp (disch := first | omega | simp only [Zs]; omega) only [Zo, Ze, Zn, Zq, a6]
 ·simp only [Zs]; exact aN
 ·simp only [Zd]; exact ad
 clear a0 a1 a6 aN ad a
 rintro a ⟨a0, a1, a6, aN, ad⟩
 -- 1 octets
 refine wp_seq (wp_region_lit (Zv rfl (x_eqlI (k := .i64) (m := (uvLen n : Nat)) (n := 1) ?_ rfl) (Zv rfl Zi (wpList_nil ?_))))
 ·simp (disch := first | omega | simp only [Zs]; omega) only [Zo, Ze, Zn, Zq, a6]
 by_cases h1 : 0 <= n
 ·have hu : uvLen n = 1 := by
   unfold uvLen
   rw [if_pos (by omega)]
  have he : uvE n = [UInt8.ofNat (n)] := by
   rw [uvE_small (n := n) (by omega)]
  rw [he] at hl ⊢
  simp only [List.length_cons, List.length_nil] at hl
  refine wp_cond_true ?_ ?_
  ·simp (disch := first | omega | simp only [Zs]; omega) only [Zo, Ze, Zn, Zq]
   rw [hu]; rfl
  refine wp_seq (wp_region_lit (Zv rfl Zm (Zv rfl Zm (Zv rfl (x_convInt (n := (n : Int)) (k := .u32) (k' := .u8) (by kernel_rfl) (by kernel_rfl) ?_) ?_))))
  ·simp (disch := first | omega | simp only [Zs]; omega) only [Zo, Ze, Zn, Zq, a0, a1]
  refine wpl_abs (fun b : Act => b.tmps.size = 93 /\ b.defers = [] /\ Act.get b 87 = dv /\ Act.get b 89 = .int .u8 (UInt8.ofNat (n)).toNat) ⟨?_, ?_, ?_, ?_⟩ ?_
  ·simp only [Zs]; exact aN
  ·simp only [Zd]; exact ad
  ·simp (disch := first | omega | simp only [Zs]; omega) only [Zo, Ze, Zn, Zq, a0, a1]
  ·simp (disch := first | omega | simp only [Zs]; omega) only [Zo, Ze, Zn, Zq, a0, a1]
   have e : ((n : Int) / 2 ^ 0) = ((n : Nat) : Int) := by omega
   skip
   exact grp_lo (by omega)
  rintro b ⟨bN, bd, bD, q0⟩
  refine wpl_octN (base := base) (v := dv) (bs := out) (cs := [UInt8.ofNat (n)]) octs_info rfl (by decide) ?_ (by omega) ?_ hown (by omega) hb ?_
  ·simp [Ze, octV, q0]
  ·simp (disch := first | omega | simp only [Zs]; omega) only [Zo, Ze, Zn, Zq, bD]
  intro v' w' h1 h2
  refine Zv rfl Zi (wpList_nil (wp_ret ?_))
  try simp only [Exit.then, Exit.inBlock]
  refine bodyPost_ret (results_tmp rfl _ _ _) ?_ ⟨_, rfl, ?_, ?_⟩
  ·simp only [Zd]; exact bd
  ·rw [show ∀ (a : Act), a.tmps.getD 4 undef = Act.get a 4 from fun _ => rfl]
   simp (disch := first | omega | simp only [Zs]; omega) only [Zo, Ze, Zn, Zq]
   exact h1
  ·rw [show ∀ (a : Act), a.tmps.getD 4 undef = Act.get a 4 from fun _ => rfl]
   simp (disch := first | omega | simp only [Zs]; omega) only [Zo, Ze, Zn, Zq]
   exact h2
 omega
theorem app_alen {w : World} {base : Nat} {dv : Value} {out : List UInt8} {n : Nat} (hown : OwnB w base dv out) (hb : base <= w.heap.size) (hl : out.length + 4 <= 4294967296) : PutC Tryz.prog 43 #[dv, .int .i64 (n : Nat)] w base dv out (cntE false n 4) := by
 refine calls_of_wp Tryz.func43 rfl ?_
 rw [Tryz.ntmps43]
 refine wp_act (fun a : Act => Act.get a 0 = dv /\ Act.get a 1 = .int .i64 (n : Nat) /\ a.tmps.size = 9 /\ a.defers = []) ⟨by rw [Zj _ _ _ (by simp)]; rfl, by rw [Zj _ _ _ (by simp)]; rfl, by simp, rfl⟩ ?_
 rintro a ⟨a0, a1, aN, ad⟩
 refine wp_seq (wp_region_lit (Zv rfl Zi (wpList_nil ?_)))
 refine wp_seq (wp_region_lit (Zv rfl Zm (Zv rfl Zm (Zv rfl (x_convInt (n := (n : Nat)) (k := .i64) (k' := .i32) (by kernel_rfl) (by kernel_rfl) ?_) (wpl_call rfl (Zy (by kernel_rfl) rfl) (R := fun e w' => ∃ v, e = .returned v /\ OwnB w' base v (out ++ (cntE false n 4)) /\ Fine dv v w w') ?_ ?_)))))
 ·simp (disch := first | omega | simp only [Zs]; omega) only [Zo, Ze, Zn, Zq, a0, a1]
 ·rw [show ∀ a : Act, (#[Operand.tmp 5, .tmp 7] : Array Operand).map a.eval = #[Act.get a 5, Act.get a 7] from fun a => by simp [Ze]]
  simp (disch := first | omega | simp only [Zs]; omega) only [Zo, Ze, Zn, Zq, a0, a1]
  have h := app_i32 (n := IntKind.i32.wrap n) hown hb hl
  rw [fixedE_i32] at h
  exact h.out
 rintro e w' ⟨v', rfl, h1, h2⟩
 refine ⟨_, rfl, ?_⟩
 have bd := ad
 refine Zv rfl Zi (wpList_nil (wp_ret ?_))
 try simp only [Exit.then, Exit.inBlock]
 refine bodyPost_ret (results_tmp rfl _ _ _) ?_ ⟨_, rfl, ?_, ?_⟩
 ·simp only [Zd]; exact bd
 ·rw [show ∀ (a : Act), a.tmps.getD 4 undef = Act.get a 4 from fun _ => rfl]
  simp (disch := first | omega | simp only [Zs]; omega) only [Zo, Ze, Zn, Zq]
  exact h1
 ·rw [show ∀ (a : Act), a.tmps.getD 4 undef = Act.get a 4 from fun _ => rfl]
  simp (disch := first | omega | simp only [Zs]; omega) only [Zo, Ze, Zn, Zq]
  exact h2
theorem app_calen {w : World} {base : Nat} {dv : Value} {out : List UInt8} {n : Nat} (hown : OwnB w base dv out) (hb : base <= w.heap.size) (hl : out.length + (cntE true n 4).length <= 4294967296) : PutC Tryz.prog 42 #[dv, .int .i64 (n : Nat)] w base dv out (cntE true n 4) := by
 refine calls_of_wp Tryz.func42 rfl ?_
 rw [Tryz.ntmps42]
 refine wp_act (fun a : Act => Act.get a 0 = dv /\ Act.get a 1 = .int .i64 (n : Nat) /\ a.tmps.size = 10 /\ a.defers = []) ⟨by rw [Zj _ _ _ (by simp)]; rfl, by rw [Zj _ _ _ (by simp)]; rfl, by simp, rfl⟩ ?_
 rintro a ⟨a0, a1, aN, ad⟩
 refine wp_seq (wp_region_lit (Zv rfl Zi (wpList_nil ?_)))
 refine wp_seq (wp_region_lit (Zv rfl Zm (Zv rfl Zm (Zv rfl (x_convInt (n := (n : Nat)) (k := .i64) (k' := .u32) (by kernel_rfl) (by kernel_rfl) ?_) (Zv rfl (x_add (k := .u32) (m := 1) (n := (IntKind.u32.wrap ((n : Nat)))) rfl ?_) (wpl_call rfl (Zy (by kernel_rfl) rfl) (R := fun e w' => ∃ v, e = .returned v /\ OwnB w' base v (out ++ (cntE true n 4)) /\ Fine dv v w w') ?_ ?_))))))
 ·simp (disch := first | omega | simp only [Zs]; omega) only [Zo, Ze, Zn, Zq, a0, a1]
 ·simp (disch := first | omega | simp only [Zs]; omega) only [Zo, Ze, Zn, Zq, a0, a1]
 ·rw [show ∀ a : Act, (#[Operand.tmp 5, .tmp 8] : Array Operand).map a.eval = #[Act.get a 5, Act.get a 8] from fun a => by simp [Ze]]
  simp (disch := first | omega | simp only [Zs]; omega) only [Zo, Ze, Zn, Zq, a0, a1]
  have e : IntKind.u32.wrap (1 + IntKind.u32.wrap (n : Int)) = ((n + 1) % 4294967296 : Nat) := by simp only [IntKind.wrap, IntKind.bits, IntKind.signed]; simp; omega
  rw [e]
  exact (app_uv (n := (n + 1) % 4294967296) (by omega) hown hb hl).out
 rintro e w' ⟨v', rfl, h1, h2⟩
 refine ⟨_, rfl, ?_⟩
 have bd := ad
 refine Zv rfl Zi (wpList_nil (wp_ret ?_))
 try simp only [Exit.then, Exit.inBlock]
 refine bodyPost_ret (results_tmp rfl _ _ _) ?_ ⟨_, rfl, ?_, ?_⟩
 ·simp only [Zd]; exact bd
 ·rw [show ∀ (a : Act), a.tmps.getD 4 undef = Act.get a 4 from fun _ => rfl]
  simp (disch := first | omega | simp only [Zs]; omega) only [Zo, Ze, Zn, Zq]
  exact h1
 ·rw [show ∀ (a : Act), a.tmps.getD 4 undef = Act.get a 4 from fun _ => rfl]
  simp (disch := first | omega | simp only [Zs]; omega) only [Zo, Ze, Zn, Zq]
  exact h2
theorem app_str {w : World} {base : Nat} {dv : Value} {out : List UInt8} {cs : List UInt8} (hown : OwnB w base dv out) (hb : base <= w.heap.size) (hl : out.length + (cntE false cs.length 2 ++ cs).length <= 4294967296) : PutC Tryz.prog 66 #[dv, .string (str cs)] w base dv out (cntE false cs.length 2 ++ cs) := by
 rw [List.length_append] at hl
 refine calls_of_wp Tryz.func66 rfl ?_
 rw [Tryz.ntmps66]
 refine wp_act (fun a : Act => Act.get a 0 = dv /\ Act.get a 1 = .string (str cs) /\ a.tmps.size = 13 /\ a.defers = []) ⟨by rw [Zj _ _ _ (by simp)]; rfl, by rw [Zj _ _ _ (by simp)]; rfl, by simp, rfl⟩ ?_
 rintro a ⟨a0, a1, aN, ad⟩
 refine wp_seq (wp_region_lit (Zv rfl Zi (wpList_nil ?_)))
 refine wp_seq (wp_region_lit (Zv rfl Zm (Zv rfl Zm (Zv rfl (x_lenText (cs := cs) (by kernel_rfl) rfl ?_) (Zv rfl (x_convInt (n := (cs.length : Nat)) (k := .i64) (k' := .i16) (by kernel_rfl) (by kernel_rfl) ?_) (wpl_call rfl (Zy (by kernel_rfl) rfl) (R := fun e w' => ∃ v, e = .returned v /\ OwnB w' base v (out ++ cntE false cs.length 2) /\ Fine dv v w w') ?_ ?_))))))
 ·simp (disch := first | omega | simp only [Zs]; omega) only [Zo, Ze, Zn, Zq, a1]
 ·simp (disch := first | omega | simp only [Zs]; omega) only [Zo, Ze, Zn, Zq, a0, a1]
 ·rw [show ∀ a : Act, (#[Operand.tmp 5, .tmp 8] : Array Operand).map a.eval = #[Act.get a 5, Act.get a 8] from fun a => by simp [Ze]]
  simp (disch := first | omega | simp only [Zs]; omega) only [Zo, Ze, Zn, Zq, a0, a1]
  have h := app_i16 (n := IntKind.i16.wrap (cs.length : Nat)) hown hb (by have := fixedE_length cs.length 2; simp only [cntE] at hl; simp at hl; omega)
  rw [fixedE_i16] at h
  exact h.out
 rintro e w1 ⟨v1, rfl, k1, k2⟩
 refine ⟨_, rfl, Zv rfl Zi (wpList_nil ?_)⟩
 refine wp_seq (wp_region_lit (Zv rfl Zm (Zv rfl Zm (wpl_ostr (base := base) (v := v1) (cs := cs) octs_info (by kernel_rfl) u8_zero ?_ ?_ k1 ?_ ?_ ?_))))
 ·simp (disch := first | omega | simp only [Zs]; omega) only [Zo, Ze, Zn, Zq]
 ·simp (disch := first | omega | simp only [Zs]; omega) only [Zo, Ze, Zn, Zq, a1]
 ·simp only [List.length_append]; omega
 ·have := k2.size; omega
 intro v' w' h1 h2'
 have h2 := k2.trans h2'
 have bd := ad
 refine Zv rfl Zi (wpList_nil (wp_ret ?_))
 try simp only [Exit.then, Exit.inBlock]
 refine bodyPost_ret (results_tmp rfl _ _ _) ?_ ⟨_, rfl, ?_, ?_⟩
 ·simp only [Zd]; exact bd
 ·rw [show ∀ (a : Act), a.tmps.getD 4 undef = Act.get a 4 from fun _ => rfl]
  simp (disch := first | omega | simp only [Zs]; omega) only [Zo, Ze, Zn, Zq]
  rw [List.append_assoc] at h1
  exact h1
 ·rw [show ∀ (a : Act), a.tmps.getD 4 undef = Act.get a 4 from fun _ => rfl]
  simp (disch := first | omega | simp only [Zs]; omega) only [Zo, Ze, Zn, Zq]
  exact h2
theorem app_cstr {w : World} {base : Nat} {dv : Value} {out : List UInt8} {cs : List UInt8} (hown : OwnB w base dv out) (hb : base <= w.heap.size) (hl : out.length + (cntE true cs.length 2 ++ cs).length <= 4294967296) : PutC Tryz.prog 65 #[dv, .string (str cs)] w base dv out (cntE true cs.length 2 ++ cs) := by
 rw [List.length_append] at hl
 refine calls_of_wp Tryz.func65 rfl ?_
 rw [Tryz.ntmps65]
 refine wp_act (fun a : Act => Act.get a 0 = dv /\ Act.get a 1 = .string (str cs) /\ a.tmps.size = 14 /\ a.defers = []) ⟨by rw [Zj _ _ _ (by simp)]; rfl, by rw [Zj _ _ _ (by simp)]; rfl, by simp, rfl⟩ ?_
 rintro a ⟨a0, a1, aN, ad⟩
 refine wp_seq (wp_region_lit (Zv rfl Zi (wpList_nil ?_)))
 refine wp_seq (wp_region_lit (Zv rfl Zm (Zv rfl Zm (Zv rfl (x_lenText (cs := cs) (by kernel_rfl) rfl ?_) (Zv rfl (x_convInt (n := (cs.length : Nat)) (k := .i64) (k' := .u32) (by kernel_rfl) (by kernel_rfl) ?_) (Zv rfl (x_add (k := .u32) (m := 1) (n := (IntKind.u32.wrap ((cs.length : Nat)))) rfl ?_) (wpl_call rfl (Zy (by kernel_rfl) rfl) (R := fun e w' => ∃ v, e = .returned v /\ OwnB w' base v (out ++ cntE true cs.length 2) /\ Fine dv v w w') ?_ ?_)))))))
 ·simp (disch := first | omega | simp only [Zs]; omega) only [Zo, Ze, Zn, Zq, a1]
 ·simp (disch := first | omega | simp only [Zs]; omega) only [Zo, Ze, Zn, Zq, a0, a1]
 ·simp (disch := first | omega | simp only [Zs]; omega) only [Zo, Ze, Zn, Zq, a0, a1]
 ·rw [show ∀ a : Act, (#[Operand.tmp 5, .tmp 9] : Array Operand).map a.eval = #[Act.get a 5, Act.get a 9] from fun a => by simp [Ze]]
  simp (disch := first | omega | simp only [Zs]; omega) only [Zo, Ze, Zn, Zq, a0, a1]
  have e : IntKind.u32.wrap (1 + IntKind.u32.wrap (cs.length : Int)) = ((cs.length + 1) % 4294967296 : Nat) := by simp only [IntKind.wrap, IntKind.bits, IntKind.signed]; simp; omega
  rw [e]
  exact (app_uv (n := (cs.length + 1) % 4294967296) (by omega) hown hb (by simp only [cntE] at hl; simp at hl; omega)).out
 rintro e w1 ⟨v1, rfl, k1, k2⟩
 refine ⟨_, rfl, Zv rfl Zi (wpList_nil ?_)⟩
 refine wp_seq (wp_region_lit (Zv rfl Zm (Zv rfl Zm (wpl_ostr (base := base) (v := v1) (cs := cs) octs_info (by kernel_rfl) u8_zero ?_ ?_ k1 ?_ ?_ ?_))))
 ·simp (disch := first | omega | simp only [Zs]; omega) only [Zo, Ze, Zn, Zq]
 ·simp (disch := first | omega | simp only [Zs]; omega) only [Zo, Ze, Zn, Zq, a1]
 ·simp only [List.length_append]; omega
 ·have := k2.size; omega
 intro v' w' h1 h2'
 have h2 := k2.trans h2'
 have bd := ad
 refine Zv rfl Zi (wpList_nil (wp_ret ?_))
 try simp only [Exit.then, Exit.inBlock]
 refine bodyPost_ret (results_tmp rfl _ _ _) ?_ ⟨_, rfl, ?_, ?_⟩
 ·simp only [Zd]; exact bd
 ·rw [show ∀ (a : Act), a.tmps.getD 4 undef = Act.get a 4 from fun _ => rfl]
  simp (disch := first | omega | simp only [Zs]; omega) only [Zo, Ze, Zn, Zq]
  rw [List.append_assoc] at h1
  exact h1
 ·rw [show ∀ (a : Act), a.tmps.getD 4 undef = Act.get a 4 from fun _ => rfl]
  simp (disch := first | omega | simp only [Zs]; omega) only [Zo, Ze, Zn, Zq]
  exact h2
end Go.Proofs.YtmehfgiadapekaaGreat
