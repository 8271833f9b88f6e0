/-
  The writer of package spec: a value that is no part; a field.
-/
import Derived.Laws.IdiomCopy
import Derived.Test.YtcldbjehliladaaDoorPWt
set_option linter.unusedSimpArgs false
set_option linter.unusedVariables false
namespace Go.Proofs.YtcldbjehliladaaDoor
open Go Go.RowKit
theorem counted_small {flex nl : Bool} {n size m : Nat} (h : n <= 4294967295 /\ size <= 8 /\ m <= 65535) : (counted flex nl n size).length + m <= 4294967296 := by
 have := uvE_ten (n := n + 1) (by omega)
 unfold counted
 split
 ·split
  ·simp; omega
  ·omega
 ·split
  ·rw [fixedE_length]; omega
  ·rw [fixedE_length]; omega
theorem and1 {n : Int} : bits BinOp.and IntKind.i64 n 1 % 256 = ((oct8 (n % 2)).toNat : Int) := by
 rw [oct8_val]
 have h : bits BinOp.and IntKind.i64 n 1 = n % 2 := by
  have e1 : ((1 : Int) % 2 ^ 64).toNat = 1 := by decide
  show IntKind.i64.wrap (((n % 2 ^ 64).toNat &&& ((1 : Int) % 2 ^ 64).toNat : Nat) : Int) = n % 2
  rw [e1, Nat.and_one_is_mod, IntKind.wrap_i64]
  omega
 rw [h]
theorem make16 (w : World) : (Instr.makeSlice 22 (.int .i64 16) (.int .i64 16)).run Tryd.prog w = .ok (.slice (some ⟨w.heap.size, 0, none⟩) 16 16) (w.alloc (.cells (Array.replicate 16 (.int .u8 0)) 5)) := by
 obtain ⟨hu, i, z, hi, hz, h2, h3, h4, h5, h6⟩ := elemInfo_spec octs_info
 have hz' : zeroOf Tryd.prog 5 = some z := by simp [zeroOf, hi, hz]
 obtain rfl : z = .int .u8 0 := Option.some.inj (hz'.symm.trans (show zeroOf Tryd.prog 5 = some (.int .u8 0) by kernel_rfl))
 have hb : (i.bytes : Int) * (16 : Nat) <= 281474976710656 := by
  have : i.bytes * 16 <= 1024 * 16 := Nat.mul_le_mul_right 16 h4
  have h : ((i.bytes * 16 : Nat) : Int) <= 281474976710656 := by omega
  rwa [Int.natCast_mul] at h
 have hr := run_make (P := Tryd.prog) w 22 5 i (.int .u8 0) hu hi hz .i64 .i64 (16 : Nat) (16 : Nat) (by omega) (Int.le_refl _) hb (by omega)
 simp only [Int.toNat_natCast, h2] at hr
 refine Eq.trans hr ?_
 rw [show madeCells (Value.int IntKind.u8 0).cells (16 * 1) = Array.replicate 16 (Value.int .u8 0) by kernel_rfl]
/-- so many octets are copied over sixteen noughts -/
theorem copy16 {w : World} {k n cap T : Nat} {ao : Option Addr} {ty : TypeId} {s : List UInt8} (hk : w.heap[k]? = some (.cells (Array.replicate 16 (.int .u8 0)) T (0, 0))) (hs : OctI w (.slice ao n cap) s) :
  ∃ m w', (Builtin.copy_ #[22, 22] ty #[.slice (some ⟨k, 0, none⟩) 16 16, .slice ao n cap]).run Tryd.prog w = .ok m w' /\ Mod (only k) w w' /\ ∃ C, w'.heap[k]? = some (.cells C T (0, 0)) /\ C.toList = octV (uu s) := by
 obtain ⟨hu, i, z, hi, hz, h2, h3, h4, h5, h6⟩ := elemInfo_spec octs_info
 have hL : ∀ C : Array Value, C.size = 16 -> (∀ j (hj : j < s.length), j < 16 -> C[j]? = some (.int .u8 (s[j]).toNat)) -> (∀ j, s.length <= j -> j < 16 -> C[j]? = some (.int .u8 0)) -> C.toList = octV (uu s) := by
  intro C hC q1 q2
  apply List.ext_getElem?
  intro j
  by_cases hj : j < 16
  ·rw [Array.getElem?_toList]
   by_cases hjs : j < s.length
   ·rw [q1 j hjs hj]
    simp only [octV, uu, List.getElem?_map]
    rw [List.getElem?_append_left (by simp; omega)]
    simp [List.getElem?_take, hj, hjs]
   ·rw [q2 j (by omega) hj]
    simp only [octV, uu, List.getElem?_map]
    rw [List.getElem?_append_right (by simp; omega)]
    have h16 : (List.take 16 s).length = min 16 s.length := by simp
    have : j - (List.take 16 s).length < 16 - (List.take 16 s).length := by omega
    rw [List.getElem?_replicate, if_pos this]
    rfl
  ·rw [List.getElem?_eq_none (by simp; omega), List.getElem?_eq_none (by rw [octV_length, uu_length]; omega)]
 by_cases he : s = []
 ·subst he
  have hn : n = 0 := by
   rcases hs with ⟨_, _, _, h⟩ | ⟨sb, off, cap', c, t, fr, h1, _⟩
   ·simpa using congrArg (fun v => match v with | .slice _ n _ => n | _ => 0) h
   ·simpa using congrArg (fun v => match v with | .slice _ n _ => n | _ => 0) h1
  subst hn
  refine ⟨_, w, run_copy_none (P := Tryd.prog) w _ _ ty 5 (some ⟨k, 0, none⟩) ao 16 16 0 cap hu (by simp [hi, h2]) (by simp [Nat.min_def]), .refl w, _, hk, hL _ (by simp) (fun j hj => by simp at hj) (fun j _ hj => by simp [hj])⟩
 ·rcases hs with ⟨h, _⟩ | ⟨sb, off, cap', c, t, fr, h1, h2', h3', h4', h5'⟩
  ·exact (he h).elim
  obtain ⟨rfl, rfl, rfl⟩ : ao = some ⟨sb, off, none⟩ /\ n = s.length /\ cap = cap' := by simpa using h1
  have hl : (octV (s.take 16)).length = Nat.min s.length 16 := by
   show _ = min s.length 16
   rw [octV_length, List.length_take]; omega
  have hlen : (octV (s.take 16)).length <= 16 := by rw [hl]; exact Nat.min_le_right _ _
  have hr := run_copy_cells (P := Tryd.prog) w 22 22 ty 5 k 0 16 16 ⟨sb, off, none⟩ s.length cap (octV (s.take 16)) hu (by simp [hi, h2]) hl (fun j v hv => by
   rw [Addr.add_mid, Zc h4']
   simp only [octV, List.getElem?_map, Option.map_eq_some_iff] at hv
   obtain ⟨q, hq, rfl⟩ := hv
   rw [List.getElem?_take] at hq
   split at hq
   ·obtain ⟨hj, rfl⟩ := List.getElem?_eq_some_iff.1 hq
    exact h5' j hj
   ·cases hq) (fun j hj => by rw [Zc hk, Nat.zero_add, Array.getElem?_eq_getElem (by simp; omega)]; rfl) (fun j hj => Zz hk) (fun v hv => by obtain ⟨q, _, rfl⟩ := List.mem_map.1 hv; rfl)
  obtain ⟨C', z1, z2, z3, z4⟩ := heap_setCells (w := w) (octV (s.take 16)) 0 _ hk
  refine ⟨_, _, hr, mod_setCells k w 0 _, C', z1, hL C' (z2.trans (by simp)) (fun j hj hj16 => ?_) (fun j hj hj16 => ?_)⟩
  ·have := z3 j (by rw [octV_length, List.length_take]; omega) (by simp; omega)
   rw [Nat.zero_add] at this
   rw [this]
   simp [octV]
  ·rw [z4 j (.inr (by rw [octV_length, List.length_take]; omega))]
   simp [hj16]
theorem wpl_copy16 {Q : Exit -> Act -> World -> Prop} {ops : Array Oper} {rest : List Oper} {a : Act} {w : World} {d : Option Tmp} {ty : TypeId} {p : String} {af : Array Edge} {x y : Operand} {k n cap T : Nat} {ao : Option Addr} {s : List UInt8} (hx : a.eval x = .slice (some ⟨k, 0, none⟩) 16 16) (hy : a.eval y = .slice ao n cap)
  (hk : w.heap[k]? = some (.cells (Array.replicate 16 (.int .u8 0)) T (0, 0))) (hs : OctI w (.slice ao n cap) s)
  (hc : ∀ m w', Mod (only k) w w' -> (∃ C, w'.heap[k]? = some (.cells C T (0, 0)) /\ C.toList = octV (uu s)) -> wpList Tryd.prog ops Q rest (a.put d m) w') :
  wpList Tryd.prog ops Q (⟨d, .call ⟨.builtin .copy, #[x, y], #[22, 22]⟩, ty, p, af, none⟩ :: rest) a w := by
 obtain ⟨m, w', hr, hm, hC⟩ := copy16 (ty := ty) hk hs
 refine Zv rfl (v := m) (w' := w') ?_ (hc m w' hm hC)
 simp [execOp, resolve, invoke, builtin, hx, hy, hr]
/-- one octet in memory of its own -/
theorem own1 {w : World} {base : Nat} {c : UInt8} {m : Int} (hb : base <= w.heap.size) (hm : m = (c.toNat : Int)) : OwnB (w.alloc (.cells #[.int .u8 m] 5)) base (.slice (some ⟨w.heap.size, 0, none⟩) 1 1) [c] := by
 subst hm
 exact ⟨by simp [octV], .inr ⟨w.heap.size, 1, _, rfl, hb, Zh w _, by simp, by simp [maxLen], rfl, rfl⟩⟩
theorem width_le (k : Int) : width k <= 8 := by unfold width; split; omega; split; omega; split <;> omega
set_option maxRecDepth 100000 in
theorem value_num {w : World} {a : Act} {b id : Nat} {n kind : Int} {v1 v2 v3 v4 : Value} {T : TypeId} {y0 y1 y2 y3 y4 y5 : TypeId} {p0 p1 p2 p3 p4 p5 : String} {ts ts' : Array TypeId} (hN : a.tmps.size = 70) (g11 : Act.get a 11 = .pointer (some ⟨b, 0, none⟩)) (g0 : Act.get a 0 = .int .i64 kind) (hb : w.heap[b]? = some (.cells #[.int .i64 n, v1, v2, v3, v4] T (0, 0))) :
  (Code.region id #[⟨some 65, .fieldAddr 37 (.tmp 11) 0, y0, p0, #[], none⟩, ⟨some 66, .load 2 (.tmp 65), y1, p1, #[⟨0, .data⟩], none⟩, ⟨some 67, .move (.tmp 0), y2, p2, #[], none⟩,
   ⟨some 68, .call ⟨.value (.func 103), #[.tmp 67], ts⟩, y3, p3, #[⟨2, .data⟩], none⟩, ⟨some 69, .call ⟨.value (.func 22), #[.tmp 66, .tmp 68], ts'⟩, y4, p4, #[⟨1, .data⟩, ⟨3, .data⟩, ⟨3, .chain⟩], none⟩,
   ⟨some 12, .assign (.tmp 69), y5, p5, #[⟨4, .data⟩, ⟨4, .chain⟩, ⟨0, .phase⟩, ⟨1, .phase⟩, ⟨2, .phase⟩, ⟨3, .phase⟩, ⟨4, .phase⟩], none⟩] true).wp Tryd.prog
  (fun e a' w' => e = .normal /\ Mod none' w w' /\ a'.defers = a.defers /\ OwnB w' w.heap.size (Act.get a' 12) (fixedE n (width kind))) a w := by
 refine region_rlt (l := [_, _, _, _, _]) (tl := [_]) rfl (Mod none') (Mod.refl w).drew (fun _ _ _ h h' => h.trans h') [65, 66, 67, 68, 69]
  [fun v _ => v = .pointer (some ⟨b, 0 + 0, none⟩), fun v _ => v = .int .i64 n, fun v _ => v = .int .i64 kind, fun v _ => v = .int .i64 (width kind : Nat), fun v w' => OwnB w' w.heap.size v (fixedE n (width kind))]
  ?_ (by simp [regFormT]) (by decide) (fun d hd => by rw [hN]; simp at hd; omega) (by simp) (by kernel_rfl) ⟨?_, ?_, ?_, ?_, ?_, trivial⟩ ?_
 ·intro g hg u1 w1 w2 hv hr
  simp only [List.mem_cons, List.not_mem_nil, or_false] at hg
  rcases hg with rfl | rfl | rfl | rfl | rfl
  ·exact hv
  ·exact hv
  ·exact hv
  ·exact hv
  ·exact hv.mod hr (fun _ _ f => f)
 ·intro a1 w1 hr hs hd
  have t := (hs.get 11 (by decide)).trans g11
  exact Zw (Za (by kernel_rfl) t) ⟨_, rfl, .refl _, rfl⟩
 ·intro a1 w1 hr hs hd
  have t : Act.get a1 65 = .pointer (some ⟨b, 0 + 0, none⟩) := hd ⟨0, .data⟩ (by simp) rfl
  exact Zw (Zl (by kernel_rfl) t (by rw [Zc (hr.some hb (fun f => f))]; rfl)) ⟨_, rfl, .refl _, rfl⟩
 ·intro a1 w1 hr hs hd
  have t := (hs.get 0 (by decide)).trans g0
  exact Zw (x_moveV t) ⟨_, rfl, .refl _, rfl⟩
 ·intro a1 w1 hr hs hd
  have t : Act.get a1 67 = .int .i64 kind := hd ⟨2, .data⟩ (by simp) rfl
  have e1 : (#[Operand.tmp 67] : Array Operand).map a1.eval = #[.int .i64 kind] := by simp [Ze, t]
  refine owp_call (Zy (by kernel_rfl) rfl) (by rw [e1]; exact width_c) ?_
  rintro e w2 ⟨rfl, rfl⟩
  exact ⟨_, rfl, _, rfl, .refl _, rfl⟩
 ·intro a1 w1 hr hs hd
  have t : Act.get a1 66 = .int .i64 n := hd ⟨1, .data⟩ (by simp) rfl
  have t' : Act.get a1 68 = .int .i64 (width kind : Nat) := hd ⟨3, .data⟩ (by simp) rfl
  have e1 : (#[Operand.tmp 66, .tmp 68] : Array Operand).map a1.eval = #[.int .i64 n, .int .i64 (width kind : Nat)] := by simp [Ze, t, t']
  refine owp_call (Zy (by kernel_rfl) rfl) (by rw [e1]; exact fixed_c (width_le kind)) ?_
  rintro e w2 ⟨v, rfl, hm, ho⟩
  exact ⟨v, rfl, v, rfl, hm, ho.low hr.size⟩
 ·intro a1 w1 hr hs hh
  have t : OwnB w1 w.heap.size (Act.get a1 69) (fixedE n (width kind)) := hh 4 (by simp)
  refine Zv rfl Zi (wpList_nil ⟨rfl, hr, ?_, ?_⟩)
  ·rw [Zd]; exact hs.defers
  ·rw [Zq (by rw [hs.size, hN]; decide), Ze]; exact t
set_option maxHeartbeats 4000000 in
set_option maxRecDepth 100000 in
theorem value_c {w : World} {kind ver : Int} {subv : Value} {nl flex : Bool} {cs : Array Value} {t : Tr} (hcs : cs.size = 5) (ht : TreeI w (from' cs 0) t) (hk : leafK kind = true) :
  BytesC Tryd.prog 102 #[.int .i64 kind, subv, .bool nl, .int .i64 ver, .bool flex, .agg cs] w (leafW kind nl flex t) := by
 rw [arr5 hcs]
 generalize from' cs 0 = c at *
 clear hcs
 cases ht with
 | @mk _ n s z l u f g h0 hn h1 h2 h3 h3' h4 h4' =>
 rw [h0, h2]
 obtain ⟨a1, c1, e1, hc1⟩ := h1.slice
 simp only [leafK, Bool.or_eq_true, beq_iff_eq] at hk
 rcases hk with ((((((((rfl | rfl) | rfl) | rfl) | rfl) | rfl) | rfl) | rfl) | rfl) | rfl
 ·go_enter Tryd.func102, Tryd.ntmps102
  go_wp2
  go_ret
  refine ⟨_, rfl, ((Mod.refl w).alloc _).alloc _, ?_⟩
  have := own1 (w := w.alloc (Obj.cells #[Value.int IntKind.i64 n, Value.slice a1 s.length c1, Value.bool z, c 3, c 4] 37)) (base := w.heap.size) (c := oct8 (n % 2)) (by simp) and1
  simpa [leafW, Tr.N] using this
 ·go_enter Tryd.func102, Tryd.ntmps102
  go_wp2
  rename_i Q' K hK
  refine wp_mono (value_num (b := w.heap.size) (n := n) (kind := 1) rfl rfl rfl (Zh w _)) ?_
  rintro e a' w' ⟨rfl, hm, hd, ho⟩
  refine hK a' w' (wp_ret (bodyPost_ret (results_tmp rfl _ _ _) hd ⟨_, rfl, ((Mod.refl w).alloc _).trans hm, ?_⟩))
  have h5 := ho.low (base' := w.heap.size) (by simp)
  simp only [leafW, width, Tr.N] at h5 ⊢
  exact h5
 ·go_enter Tryd.func102, Tryd.ntmps102
  go_wp2
  rename_i Q' K hK
  refine wp_mono (value_num (b := w.heap.size) (n := n) (kind := 2) rfl rfl rfl (Zh w _)) ?_
  rintro e a' w' ⟨rfl, hm, hd, ho⟩
  refine hK a' w' (wp_ret (bodyPost_ret (results_tmp rfl _ _ _) hd ⟨_, rfl, ((Mod.refl w).alloc _).trans hm, ?_⟩))
  have h5 := ho.low (base' := w.heap.size) (by simp)
  simp only [leafW, width, Tr.N] at h5 ⊢
  exact h5
 ·go_enter Tryd.func102, Tryd.ntmps102
  go_wp2
  rename_i Q' K hK
  refine wp_mono (value_num (b := w.heap.size) (n := n) (kind := 3) rfl rfl rfl (Zh w _)) ?_
  rintro e a' w' ⟨rfl, hm, hd, ho⟩
  refine hK a' w' (wp_ret (bodyPost_ret (results_tmp rfl _ _ _) hd ⟨_, rfl, ((Mod.refl w).alloc _).trans hm, ?_⟩))
  have h5 := ho.low (base' := w.heap.size) (by simp)
  simp only [leafW, width, Tr.N] at h5 ⊢
  exact h5
 ·go_enter Tryd.func102, Tryd.ntmps102
  go_wp2
  rename_i Q' K hK
  refine wp_mono (value_num (b := w.heap.size) (n := n) (kind := 4) rfl rfl rfl (Zh w _)) ?_
  rintro e a' w' ⟨rfl, hm, hd, ho⟩
  refine hK a' w' (wp_ret (bodyPost_ret (results_tmp rfl _ _ _) hd ⟨_, rfl, ((Mod.refl w).alloc _).trans hm, ?_⟩))
  have h5 := ho.low (base' := w.heap.size) (by simp)
  simp only [leafW, width, Tr.N] at h5 ⊢
  exact h5
 ·have hb : ∀ v3 v4, Mod none' w (w.alloc (.cells #[.int .i64 n, .slice a1 s.length c1, .bool z, v3, v4] 37)) := fun v3 v4 => (Mod.refl w).alloc _
  have h1' : ∀ v3 v4, OctI ((w.alloc (.cells #[.int .i64 n, .slice a1 s.length c1, .bool z, v3, v4] 37)).alloc (.cells (Array.replicate 16 (.int .u8 0)) 5)) (.slice a1 s.length c1) s := fun v3 v4 => (e1 ▸ h1).mod ((hb v3 v4).alloc _)
  have hk16 : ∀ v3 v4, ((w.alloc (.cells #[.int .i64 n, .slice a1 s.length c1, .bool z, v3, v4] 37)).alloc (.cells (Array.replicate 16 (.int .u8 0)) 5)).heap[w.heap.size + 1]? = some (.cells (Array.replicate 16 (.int .u8 0)) 5 (0, 0)) := fun v3 v4 => by
   have := Zh (w.alloc (.cells #[.int .i64 n, .slice a1 s.length c1, .bool z, v3, v4] 37)) (.cells (Array.replicate 16 (.int .u8 0)) 5)
   simpa using this
  go_enter Tryd.func102, Tryd.ntmps102
  go_wp2_with (first | (rw [make16]) | (refine wpl_copy16 (k := w.heap.size + 1) (s := s) rfl rfl (hk16 _ _) (h1' _ _) ?_; rintro m5 w5 hm5 ⟨C5, hk5, hC5⟩))
  go_ret
  refine ⟨_, rfl, ((hb _ _).alloc _).trans' hm5 (fun _ _ f => f) (fun i hi e => by have e' : i = w.heap.size + 1 := e; omega), ?_⟩
  have hz16 : C5.size = 16 := by have := congrArg List.length hC5; rw [octV_length, uu_length] at this; simpa using this
  have h5 : OwnB w5 w.heap.size (.slice (some ⟨w.heap.size + 1, 0, none⟩) 16 16) (uu s) := by
   refine ⟨by rw [octV_length]; simp, .inr ⟨w.heap.size + 1, 16, C5, by rw [uu_length], by omega, hk5, by rw [uu_length]; omega, by simp [maxLen], by rw [hz16], ?_⟩⟩
   rw [uu_length, hC5]
   exact List.take_of_length_le (by rw [octV_length, uu_length]; omega)
  simpa [leafW, Tr.S] using h5
 ·have hb : ∀ v3 v4, Mod none' w (w.alloc (.cells #[.int .i64 n, .slice a1 s.length c1, .bool z, v3, v4] 37)) := fun v3 v4 => (Mod.refl w).alloc _
  have h1' : ∀ v3 v4, OctI (w.alloc (.cells #[.int .i64 n, .slice a1 s.length c1, .bool z, v3, v4] 37)) (.slice a1 s.length c1) s := fun v3 v4 => (e1 ▸ h1).mod (hb v3 v4)
  have hlw := whole_length s
  cases nl
  ·go_enter Tryd.func102, Tryd.ntmps102
   go_wp2_with (first | (go_at_call 68; refine (whole_c (h1' _ _)).mono ?_; rintro e w1 ⟨rfl, v', rfl, ho⟩; obtain ⟨a2, c2, rfl, hc2⟩ := OctI.slice ho) | (go_at_call 101; refine (counted_c (n := (whole s).length) (size := 2) (by omega) (by omega)).mono ?_; rintro e w2 ⟨v2, rfl, hm2, ho2⟩) | (refine wpl_octs (base := w.heap.size) (v := v2) (xv := .slice a2 (whole s).length c2) (bs := counted flex false (whole s).length 2) (cs := whole s) octs_info rfl rfl (ho2.low (by simp)) (ho.mod hm2) (counted_small (by omega)) (by have := hm2.size; simp at this; omega) ?_; intro v3 w3 ho3 hm3))
   go_ret
   refine ⟨v3, rfl, ((hb _ _).trans hm2).fresh hm3, ?_⟩
   simpa [leafW, Tr.S] using ho3
  ·go_enter Tryd.func102, Tryd.ntmps102
   go_wp2_with (first | (go_at_call 68; refine (whole_c (h1' _ _)).mono ?_; rintro e w1 ⟨rfl, v', rfl, ho⟩; obtain ⟨a2, c2, rfl, hc2⟩ := OctI.slice ho) | (go_at_call 101; refine (counted_c (n := 0) (size := 2) (by omega) (by omega)).mono ?_; rintro e w2 ⟨v2, rfl, hm2, ho2⟩) | (refine wpl_octs (base := w.heap.size) (v := v2) (xv := .slice none 0 0) (bs := counted flex true 0 2) (cs := []) octs_info rfl rfl (ho2.low (by simp)) (.inl ⟨rfl, _, _, rfl⟩) (counted_small (by simp)) (by have := hm2.size; simp at this; omega) ?_; intro v3 w3 ho3 hm3))
   go_ret
   refine ⟨v3, rfl, ((hb _ _).trans hm2).fresh hm3, ?_⟩
   simpa [leafW, Tr.S] using ho3
 ·have hb : ∀ v3 v4, Mod none' w (w.alloc (.cells #[.int .i64 n, .slice a1 s.length c1, .bool z, v3, v4] 37)) := fun v3 v4 => (Mod.refl w).alloc _
  have h1' : ∀ v3 v4, OctI (w.alloc (.cells #[.int .i64 n, .slice a1 s.length c1, .bool z, v3, v4] 37)) (.slice a1 s.length c1) s := fun v3 v4 => (e1 ▸ h1).mod (hb v3 v4)
  have hlw := whole_length s
  cases nl
  ·go_enter Tryd.func102, Tryd.ntmps102
   go_wp2_with (first | (go_at_call 68; refine (whole_c (h1' _ _)).mono ?_; rintro e w1 ⟨rfl, v', rfl, ho⟩; obtain ⟨a2, c2, rfl, hc2⟩ := OctI.slice ho) | (go_at_call 101; refine (counted_c (n := (whole s).length) (size := 4) (by omega) (by omega)).mono ?_; rintro e w2 ⟨v2, rfl, hm2, ho2⟩) | (refine wpl_octs (base := w.heap.size) (v := v2) (xv := .slice a2 (whole s).length c2) (bs := counted flex false (whole s).length 4) (cs := whole s) octs_info rfl rfl (ho2.low (by simp)) (ho.mod hm2) (counted_small (by omega)) (by have := hm2.size; simp at this; omega) ?_; intro v3 w3 ho3 hm3))
   go_ret
   refine ⟨v3, rfl, ((hb _ _).trans hm2).fresh hm3, ?_⟩
   simpa [leafW, Tr.S] using ho3
  ·go_enter Tryd.func102, Tryd.ntmps102
   go_wp2_with (first | (go_at_call 68; refine (whole_c (h1' _ _)).mono ?_; rintro e w1 ⟨rfl, v', rfl, ho⟩; obtain ⟨a2, c2, rfl, hc2⟩ := OctI.slice ho) | (go_at_call 101; refine (counted_c (n := 0) (size := 4) (by omega) (by omega)).mono ?_; rintro e w2 ⟨v2, rfl, hm2, ho2⟩) | (refine wpl_octs (base := w.heap.size) (v := v2) (xv := .slice none 0 0) (bs := counted flex true 0 4) (cs := []) octs_info rfl rfl (ho2.low (by simp)) (.inl ⟨rfl, _, _, rfl⟩) (counted_small (by simp)) (by have := hm2.size; simp at this; omega) ?_; intro v3 w3 ho3 hm3))
   go_ret
   refine ⟨v3, rfl, ((hb _ _).trans hm2).fresh hm3, ?_⟩
   simpa [leafW, Tr.S] using ho3
 ·go_enter Tryd.func102, Tryd.ntmps102
  go_wp2
  rename_i Q' K hK
  refine wp_mono (value_num (b := w.heap.size) (n := n) (kind := 5) rfl rfl rfl (Zh w _)) ?_
  rintro e a' w' ⟨rfl, hm, hd, ho⟩
  refine hK a' w' (wp_ret (bodyPost_ret (results_tmp rfl _ _ _) hd ⟨_, rfl, ((Mod.refl w).alloc _).trans hm, ?_⟩))
  have h5 := ho.low (base' := w.heap.size) (by simp)
  simp only [leafW, width, Tr.N] at h5 ⊢
  exact h5
 ·go_enter Tryd.func102, Tryd.ntmps102
  go_wp2
  rename_i Q' K hK
  refine wp_mono (value_num (b := w.heap.size) (n := n) (kind := 6) rfl rfl rfl (Zh w _)) ?_
  rintro e a' w' ⟨rfl, hm, hd, ho⟩
  refine hK a' w' (wp_ret (bodyPost_ret (results_tmp rfl _ _ _) hd ⟨_, rfl, ((Mod.refl w).alloc _).trans hm, ?_⟩))
  have h5 := ho.low (base' := w.heap.size) (by simp)
  simp only [leafW, width, Tr.N] at h5 ⊢
  exact h5
end Go.Proofs.YtcldbjehliladaaDoor
