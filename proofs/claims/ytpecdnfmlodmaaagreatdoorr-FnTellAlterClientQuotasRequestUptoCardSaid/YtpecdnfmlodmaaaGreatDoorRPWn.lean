/-
  What package spec tells of trees: a value that is no part is told as it was written, or as it is by default.
-/
import Derived.Test.YtpecdnfmlodmaaaGreatDoorRPWu
set_option linter.unusedSimpArgs false
set_option linter.unusedVariables false
namespace Go.Proofs.YtpecdnfmlodmaaaGreatDoorR
open Go Go.RowKit
theorem OctI.s {w : World} {v : Value} {s : List UInt8} (h : OctI w v s) : OctS w v s := by
 rcases h with ⟨rfl, ao, cap, h⟩ | ⟨sb, off, cap, c, t, fr, h1, h2, h3, h4, h5⟩
 ·exact ⟨ao, cap, h, by simp, fun h => by simp at h⟩
 ·exact ⟨_, cap, h1, by omega, fun _ => ⟨sb, off, c, t, fr, rfl, h4, h5⟩⟩
theorem TreeR.toI {w : World} {F : Nat -> Prop} {c : Nat -> Value} {t : Tr} (h : TreeR w F c t) : TreeI w c t := by
 have hE : ∀ {v : Value} {n sz : Nat} {f : Nat -> Nat -> Value}, Elems w F v n sz f -> ElemsI w v n sz f := fun h => by
  rcases h with ⟨h1, h2⟩ | ⟨k, off, cap, C, t, fr, h1, h2, h3, h4, h5, h6⟩
  ·exact .inl ⟨h1, _, _, by rw [h2]⟩
  ·exact .inr ⟨k, off, cap, C, t, fr, h2, h3, h4, h5, h6⟩
 induction h with
 | mk h0 hn h1 h2 hb h3 h3' h4 h4' ih => exact .mk h0 hn (OctI.of_oct h1) h2 (hE h3) ih (hE h4) (fun i hi => ⟨(h4' i hi).1, (h4' i hi).2.1, by obtain ⟨nl, ho⟩ := (h4' i hi).2.2; exact OctI.of_oct ho⟩)
theorem andI64 {n : Int} : bits BinOp.and IntKind.i64 n 1 = n % 2 := by
 have e1 : ((1 : Int) % 2 ^ 64).toNat = 1 := by decide
 show IntKind.i64.wrap (((n % 2 ^ 64).toNat &&& ((1 : Int) % 2 ^ 64).toNat : Nat) : Int) = n % 2
 rw [e1, Nat.and_one_is_mod, IntKind.wrap_i64]
 omega
theorem number_c {w : World} {k n : Int} (hn : fits .i64 n) (hk : k = 0 \/ k = 1 \/ k = 2 \/ k = 3 \/ k = 4 \/ k = 5 \/ k = 6) : Calls Tryz.prog 91 #[.int .i64 k, .int .i64 n] w fun e w' => e = .returned (.int .i64 (numberW k n)) /\ w = w' := by
 rcases hk with rfl | rfl | rfl | rfl | rfl | rfl | rfl
 ·go_enter Tryz.func91, Tryz.ntmps91
  go_wp2
  go_ret
  refine ⟨?_, rfl⟩
  first | (rw [andI64]; rfl) | (show Ending.returned (Value.int .i64 (bits BinOp.and IntKind.i64 n 1)) = _; rw [andI64]; rfl)
 ·go_enter Tryz.func91, Tryz.ntmps91
  go_wp2
  go_ret
  refine ⟨?_, rfl⟩
  simp only [numberW, IntKind.wrap, IntKind.bits, IntKind.signed, wrap32]; first | rfl | (congr 2; simp [wrap64]; omega) | (congr 2; simp [wrap64]; split <;> omega) | (simp [wrap64]; split <;> omega)
 ·go_enter Tryz.func91, Tryz.ntmps91
  go_wp2
  go_ret
  refine ⟨?_, rfl⟩
  simp only [numberW, IntKind.wrap, IntKind.bits, IntKind.signed, wrap32]; first | rfl | (congr 2; simp [wrap64]; omega) | (congr 2; simp [wrap64]; split <;> omega) | (simp [wrap64]; split <;> omega)
 ·go_enter Tryz.func91, Tryz.ntmps91
  go_wp2
  go_ret
  refine ⟨?_, rfl⟩
  simp only [numberW, IntKind.wrap, IntKind.bits, IntKind.signed, wrap32]; first | rfl | (congr 2; simp [wrap64]; omega) | (congr 2; simp [wrap64]; split <;> omega) | (simp [wrap64]; split <;> omega)
 ·go_enter Tryz.func91, Tryz.ntmps91
  go_wp2
  go_ret
  refine ⟨?_, rfl⟩
  simp [numberW]
 ·go_enter Tryz.func91, Tryz.ntmps91
  go_wp2
  go_ret
  refine ⟨?_, rfl⟩
  simp only [numberW, IntKind.wrap, IntKind.bits, IntKind.signed, wrap32]; first | rfl | (congr 2; simp [wrap64]; omega) | (congr 2; simp [wrap64]; split <;> omega) | (simp [wrap64]; split <;> omega)
 ·go_enter Tryz.func91, Tryz.ntmps91
  go_wp2
  go_ret
  refine ⟨?_, rfl⟩
  simp [numberW]
set_option maxRecDepth 100000 in
theorem told_num {w : World} {a : Act} {b5 b8 b9 id : Nat} {n kind xn : Int} {F X W : Array Value} {T5 T8 T9 : TypeId} {y0 y1 y2 y3 y4 y5 y6 y7 y8 ya yb : TypeId} {p0 p1 p2 p3 p4 p5 p6 p7 p8 : String} {ts : Array TypeId} (hN : a.tmps.size = 124) (hn : fits .i64 n) (hk : kind = 0 \/ kind = 1 \/ kind = 2 \/ kind = 3 \/ kind = 4 \/ kind = 5 \/ kind = 6)
  (g5 : Act.get a 5 = .pointer (some ⟨b5, 0, none⟩)) (g8 : Act.get a 8 = .pointer (some ⟨b8, 0, none⟩)) (g9 : Act.get a 9 = .pointer (some ⟨b9, 0, none⟩)) (h5 : w.heap[b5]? = some (.cells F T5 (0, 0))) (hF : F[0]? = some (.int .i64 kind)) (h8 : w.heap[b8]? = some (.cells W T8 (0, 0))) (hW : W[0]? = some (.int .i64 n)) (h9 : w.heap[b9]? = some (.cells X T9 (0, 0))) (hX : X[0]? = some (.int .i64 xn)) (hx : xn = numberW kind n) :
  (Code.region id #[⟨some 116, .fieldAddr 26 (.tmp 9) 0, y0, p0, #[], none⟩, ⟨some 117, .load 2 (.tmp 116), y1, p1, #[⟨0, .data⟩], none⟩, ⟨some 118, .fieldAddr 56 (.tmp 5) 0, y2, p2, #[], none⟩, ⟨some 119, .load 3 (.tmp 118), y3, p3, #[⟨2, .data⟩], none⟩,
   ⟨some 120, .fieldAddr 26 (.tmp 8) 0, y4, p4, #[], none⟩, ⟨some 121, .load 2 (.tmp 120), y5, p5, #[⟨4, .data⟩], none⟩, ⟨some 122, .call ⟨.value (.func 91), #[.tmp 119, .tmp 121], ts⟩, y6, p6, #[⟨3, .data⟩, ⟨5, .data⟩], none⟩,
   ⟨some 123, .binOp .eql ya (.tmp 117) (.tmp 122) yb, y7, p7, #[⟨1, .data⟩, ⟨6, .data⟩], none⟩, ⟨some 10, .assign (.tmp 123), y8, p8, #[⟨7, .data⟩, ⟨6, .chain⟩, ⟨0, .phase⟩, ⟨1, .phase⟩, ⟨2, .phase⟩, ⟨3, .phase⟩, ⟨4, .phase⟩, ⟨5, .phase⟩, ⟨6, .phase⟩, ⟨7, .phase⟩], none⟩] true).wp Tryz.prog
  (fun e a' w' => e = .normal /\ Mod none' w w' /\ a'.defers = a.defers /\ Act.get a' 10 = .bool true) a w := by
 subst hx
 refine region_vals2 (l := [_, _, _, _, _, _, _, _]) (tl := [_]) rfl [116, 117, 118, 119, 120, 121, 122, 123] [.pointer (some ⟨b9, 0 + 0, none⟩), .int .i64 (numberW kind n), .pointer (some ⟨b5, 0 + 0, none⟩), .int .i64 kind, .pointer (some ⟨b8, 0 + 0, none⟩), .int .i64 n, .int .i64 (numberW kind n), .bool true] rfl (by rfl) (by decide) (fun d hd => by rw [hN]; simp at hd; omega) (by simp) (by kernel_rfl) ⟨?_, ?_, ?_, ?_, ?_, ?_, ?_, ?_, trivial⟩ ?_
 ·intro a1 w1 hr hs hd
  have t := (hs.get 9 (by decide)).trans g9
  exact Zt rfl rfl (Za (by kernel_rfl) t)
 ·intro a1 w1 hr hs hd
  have t : Act.get a1 116 = .pointer (some ⟨b9, 0 + 0, none⟩) := hd ⟨0, .data⟩ (by simp) rfl
  exact Zt rfl rfl (Zl (by kernel_rfl) t (by rw [Zc (hr.some h9 (fun f => f))]; exact hX))
 ·intro a1 w1 hr hs hd
  have t := (hs.get 5 (by decide)).trans g5
  exact Zt rfl rfl (Za (by kernel_rfl) t)
 ·intro a1 w1 hr hs hd
  have t : Act.get a1 118 = .pointer (some ⟨b5, 0 + 0, none⟩) := hd ⟨2, .data⟩ (by simp) rfl
  exact Zt rfl rfl (Zl (by kernel_rfl) t (by rw [Zc (hr.some h5 (fun f => f))]; exact hF))
 ·intro a1 w1 hr hs hd
  have t := (hs.get 8 (by decide)).trans g8
  exact Zt rfl rfl (Za (by kernel_rfl) t)
 ·intro a1 w1 hr hs hd
  have t : Act.get a1 120 = .pointer (some ⟨b8, 0 + 0, none⟩) := hd ⟨4, .data⟩ (by simp) rfl
  exact Zt rfl rfl (Zl (by kernel_rfl) t (by rw [Zc (hr.some h8 (fun f => f))]; exact hW))
 ·intro a1 w1 hr hs hd
  have t : Act.get a1 119 = .int .i64 kind := hd ⟨3, .data⟩ (by simp) rfl
  have t' : Act.get a1 121 = .int .i64 n := hd ⟨5, .data⟩ (by simp) rfl
  have e1 : (#[Operand.tmp 119, .tmp 121] : Array Operand).map a1.eval = #[.int .i64 kind, .int .i64 n] := by simp [Ze, t, t']
  refine .inl ⟨rfl, owp_call (Zy (by kernel_rfl) rfl) (by rw [e1]; exact number_c hn hk) ?_⟩
  rintro e w2 ⟨rfl, rfl⟩
  exact ⟨_, rfl, rfl, .refl _⟩
 ·intro a1 w1 hr hs hd
  have t : Act.get a1 117 = .int .i64 (numberW kind n) := hd ⟨1, .data⟩ (by simp) rfl
  have t' : Act.get a1 122 = .int .i64 (numberW kind n) := hd ⟨6, .data⟩ (by simp) rfl
  exact Zt rfl rfl ((x_eqlI (k := .i64) (m := numberW kind n) (n := numberW kind n) t t').trans (by rw [beq_self_eq_true]; rfl))
 ·intro a1 w1 hr hs hh
  have t : Act.get a1 123 = .bool true := hh 7 (by simp)
  refine Zv rfl Zi (wpList_nil ⟨rfl, hr, ?_, ?_⟩)
  ·rw [Zd]; exact hs.defers
  ·rw [Zq (by rw [hs.size, hN]; decide), Ze]; exact t
set_option maxRecDepth 100000 in
theorem told_octs {w : World} {a : Act} {b8 b9 id : Nat} {X W : Array Value} {vx vw : Value} {s : List UInt8} {T8 T9 : TypeId} {y0 y1 y2 y3 y4 y5 y6 : TypeId} {p0 p1 p2 p3 p4 p5 p6 : String} {ts ts' : Array TypeId} (hN : a.tmps.size = 124)
  (g8 : Act.get a 8 = .pointer (some ⟨b8, 0, none⟩)) (g9 : Act.get a 9 = .pointer (some ⟨b9, 0, none⟩)) (h8 : w.heap[b8]? = some (.cells W T8 (0, 0))) (hW : W[1]? = some vw) (h9 : w.heap[b9]? = some (.cells X T9 (0, 0))) (hX : X[1]? = some vx) (hw : OctI w vw s) (hx : OctI w vx (whole s)) :
  (Code.region id #[⟨some 53, .fieldAddr 26 (.tmp 9) 1, y0, p0, #[], none⟩, ⟨some 54, .load 22 (.tmp 53), y1, p1, #[⟨0, .data⟩], none⟩, ⟨some 55, .fieldAddr 26 (.tmp 8) 1, y2, p2, #[], none⟩, ⟨some 56, .load 22 (.tmp 55), y3, p3, #[⟨2, .data⟩], none⟩,
   ⟨some 57, .call ⟨.value (.func 57), #[.tmp 56], ts⟩, y4, p4, #[⟨3, .data⟩], none⟩, ⟨some 58, .call ⟨.value (.func 42), #[.tmp 54, .tmp 57], ts'⟩, y5, p5, #[⟨1, .data⟩, ⟨4, .data⟩, ⟨4, .chain⟩], none⟩,
   ⟨some 10, .assign (.tmp 58), y6, p6, #[⟨5, .data⟩, ⟨5, .chain⟩, ⟨0, .phase⟩, ⟨1, .phase⟩, ⟨2, .phase⟩, ⟨3, .phase⟩, ⟨4, .phase⟩, ⟨5, .phase⟩], none⟩] true).wp Tryz.prog
  (fun e a' w' => e = .normal /\ Mod none' w w' /\ a'.defers = a.defers /\ Act.get a' 10 = .bool true) a w := by
 refine region_rlt (l := [_, _, _, _, _, _]) (tl := [_]) rfl (Mod none') (Mod.refl w).drew (fun _ _ _ h h' => h.trans h') [53, 54, 55, 56, 57, 58]
  [fun v _ => v = .pointer (some ⟨b9, 0 + 1, none⟩), fun v _ => v = vx, fun v _ => v = .pointer (some ⟨b8, 0 + 1, none⟩), fun v _ => v = vw, fun v w' => OctI w v (whole s), fun v _ => v = .bool true]
  ?_ (by simp [regFormT]) (by decide) (fun d hd => by rw [hN]; simp at hd; omega) (by simp) (by kernel_rfl) ⟨?_, ?_, ?_, ?_, ?_, ?_, trivial⟩ ?_
 ·intro g hg u1 w1 w2 hv hr
  simp only [List.mem_cons, List.not_mem_nil, or_false] at hg
  rcases hg with rfl | rfl | rfl | rfl | rfl | rfl <;> exact hv
 ·intro a1 w1 hr hs hd
  have t := (hs.get 9 (by decide)).trans g9
  exact Zw (Za (by kernel_rfl) t) ⟨_, rfl, .refl _, rfl⟩
 ·intro a1 w1 hr hs hd
  have t : Act.get a1 53 = .pointer (some ⟨b9, 0 + 1, none⟩) := hd ⟨0, .data⟩ (by simp) rfl
  exact Zw (Zl (by kernel_rfl) t (by rw [Zc (hr.some h9 (fun f => f))]; exact hX)) ⟨_, rfl, .refl _, rfl⟩
 ·intro a1 w1 hr hs hd
  have t := (hs.get 8 (by decide)).trans g8
  exact Zw (Za (by kernel_rfl) t) ⟨_, rfl, .refl _, rfl⟩
 ·intro a1 w1 hr hs hd
  have t : Act.get a1 55 = .pointer (some ⟨b8, 0 + 1, none⟩) := hd ⟨2, .data⟩ (by simp) rfl
  exact Zw (Zl (by kernel_rfl) t (by rw [Zc (hr.some h8 (fun f => f))]; exact hW)) ⟨_, rfl, .refl _, rfl⟩
 ·intro a1 w1 hr hs hd
  have t : Act.get a1 56 = vw := hd ⟨3, .data⟩ (by simp) rfl
  have e1 : (#[Operand.tmp 56] : Array Operand).map a1.eval = #[vw] := by simp [Ze, t]
  refine owp_call (Zy (by kernel_rfl) rfl) (by rw [e1]; exact whole_c' hw) ?_
  rintro e _ ⟨rfl, v', rfl, ho⟩
  exact ⟨_, rfl, _, rfl, .refl _, ho⟩
 ·intro a1 w1 hr hs hd
  have t : Act.get a1 54 = vx := hd ⟨1, .data⟩ (by simp) rfl
  have t' : OctI w (Act.get a1 57) (whole s) := hd ⟨4, .data⟩ (by simp) rfl
  have e1 : (#[Operand.tmp 54, .tmp 57] : Array Operand).map a1.eval = #[vx, Act.get a1 57] := by simp [Ze, t]
  refine owp_call (Zy (by kernel_rfl) rfl) (by rw [e1]; exact same_octs (hx.mod hr).s (t'.mod hr).s) ?_
  rintro e w2 ⟨rfl, hm⟩
  exact ⟨_, rfl, _, rfl, hm, rfl⟩
 ·intro a1 w1 hr hs hh
  have t : Act.get a1 58 = .bool true := hh 5 (by simp)
  refine Zv rfl Zi (wpList_nil ⟨rfl, hr, ?_, ?_⟩)
  ·rw [Zd]; exact hs.defers
  ·rw [Zq (by rw [hs.size, hN]; decide), Ze]; exact t
/-- sixteen octets that were made -/
theorem uu_made {w : World} {k T : Nat} {C : Array Value} {s : List UInt8} (hk : w.heap[k]? = some (.cells C T (0, 0))) (hC : C.toList = octV (uu s)) : OctS w (.slice (some ⟨k, 0, none⟩) 16 16) (uu s) := by
 refine ⟨some ⟨k, 0, none⟩, 16, by rw [uu_length], by rw [uu_length]; simp [maxLen], fun _ => ⟨k, 0, C, T, (0, 0), rfl, hk, fun i hi => ?_⟩⟩
 rw [Nat.zero_add, <- Array.getElem?_toList, hC]
 simp [octV, hi]
theorem leafTold_null {k nl ver : Int} {t x : Tr} (h : leafTold k nl ver t x = true) (hn : nullW nl ver t = true) : x.Z = true := by
 obtain ⟨_, h1, h2⟩ : t.Z = true /\ 0 <= nl /\ nl <= ver := by
  simp only [nullW, Bool.and_eq_true, decide_eq_true_eq] at hn
  exact ⟨hn.1.1, hn.1.2, hn.2⟩
 unfold leafTold at h
 rw [hn] at h
 cases hz : x.Z
 ·rw [hz, decide_eq_true h1, decide_eq_true h2] at h
  simp at h
 ·rfl
theorem leafTold_nn {k nl ver : Int} {t x : Tr} (h : leafTold k nl ver t x = true) (hn : nullW nl ver t = false) : ((k = 8 \/ k = 9) -> x.S = whole t.S) /\ (k = 7 -> x.S = uu t.S) /\ ((k = 8 \/ (0 <= nl /\ nl <= ver)) -> x.Z = false) := by
 unfold leafTold at h
 rw [hn] at h
 split at h
 ·cases h
 rename_i hh
 simp only [Bool.false_eq_true, if_false] at h
 refine ⟨fun hk => ?_, fun hk => ?_, fun hk => ?_⟩
 ·rw [if_pos hk] at h
  exact eq_of_beq h
 ·subst hk
  rw [if_neg (by decide), if_pos rfl] at h
  exact eq_of_beq h
 ·cases hz : x.Z
  ·rfl
  ·exfalso
   apply hh
   rw [hz]
   rcases hk with rfl | ⟨h1, h2⟩
   ·simp
   ·simp [h1, h2]
theorem nullW_true {nl ver : Int} {t : Tr} (h : nullW nl ver t = true) : t.Z = true /\ 0 <= nl /\ nl <= ver := by
 simp only [nullW, Bool.and_eq_true, decide_eq_true_eq] at h
 exact ⟨h.1.1, h.1.2, h.2⟩
theorem three_boxes {w w1 : World} {A B C : Array Value} {T1 T2 T3 : TypeId} (hm : Mod none' (((w.alloc (.cells A T1)).alloc (.cells B T2)).alloc (.cells C T3)) w1) : w1.heap[w.heap.size]? = some (.cells A T1 (0, 0)) /\ w1.heap[w.heap.size + 1]? = some (.cells B T2 (0, 0)) /\ w1.heap[w.heap.size + 2]? = some (.cells C T3 (0, 0)) := by
 obtain ⟨h1, h2⟩ := two_boxes (w := w) (A := A) (B := B) (T1 := T1) (T2 := T2) (((Mod.refl (S := none') _).alloc (.cells C T3)).trans hm)
 refine ⟨h1, h2, hm.some ?_ (fun f => f)⟩
 have := Zh ((w.alloc (.cells A T1)).alloc (.cells B T2)) (.cells C T3)
 simpa using this
set_option maxRecDepth 100000 in
set_option maxHeartbeats 4000000 in
theorem told_c {w : World} {k fr to nl g d o ver : Int} {sv : Value} {flex : Bool} {cw cx : Array Value} {t x : Tr} (hcw : cw.size = 5) (hcx : cx.size = 5) (ht : TreeI w (from' cw 0) t) (hx : TreeI w (from' cx 0) x) (hk : leafK k = true) (hn : k = 8 \/ k = 9 \/ nl = -1) (h : leafTold k nl ver t x = true) :
  Calls Tryz.prog 54 #[.agg #[.int .i64 k, .int .i64 fr, .int .i64 to, .int .i64 nl, .int .i64 g, .int .i64 d, .int .i64 o, sv], .int .i64 ver, .bool flex, .agg cw, .agg cx] w fun e w' => e = .returned (.bool true) /\ Mod none' w w' := by
 rw [arr5 hcw, arr5 hcx]
 generalize from' cw 0 = c at *
 generalize from' cx 0 = cx at *
 clear hcw hcx
 cases ht with
 | @mk _ n s z l u f' g' h0 hfit h1 h2 h3 h3' h4 h4' =>
 cases hx with
 | @mk _ xn xs xz xl xu f2 g2 hx0 hxfit hx1 hx2 hx3 hx3' hx4 hx4' =>
 obtain ⟨wa, wc, e1, _⟩ := h1.slice
 obtain ⟨xa, xc, e2, _⟩ := hx1.slice
 rw [h0, h2, e1, hx0, hx2, e2]
 simp only [leafK, Bool.or_eq_true, beq_iff_eq] at hk
 rcases hk with ((((((((rfl | rfl) | rfl) | rfl) | rfl) | rfl) | rfl) | rfl) | rfl) | rfl
 ·-- kind 0
  obtain rfl : nl = -1 := by rcases hn with h | h | h <;> first | exact h | (exact absurd h (by decide))
  have hb0 : nullW (-1) ver (.mk n s z l u) = false := by simp [nullW]
  go_enter Tryz.func54, Tryz.ntmps54
  go_wp2_with (first | (go_at_call 118; refine null_c.mono ?_; rintro e w1 ⟨b, rfl, hb, hm1⟩; obtain ⟨hA, hB, hC⟩ := three_boxes hm1; have hbb : b = false := (nullW_iff (t := .mk n s z l u) hb).trans hb0; subst hbb; clear hb; have qa0 : w1.cell? ⟨w.heap.size, 0, none⟩ = some (.int .i64 0) := (Zc hA).trans rfl; have qa3 : w1.cell? ⟨w.heap.size, 3, none⟩ = some (.int .i64 (-1)) := (Zc hA).trans rfl; have qb0 : w1.cell? ⟨w.heap.size + 1, 0, none⟩ = some (.int .i64 n) := (Zc hB).trans rfl; have qb1 : w1.cell? ⟨w.heap.size + 1, 1, none⟩ = some (.slice wa s.length wc) := (Zc hB).trans rfl; have qc0 : w1.cell? ⟨w.heap.size + 2, 0, none⟩ = some (.int .i64 xn) := (Zc hC).trans rfl; have qc1 : w1.cell? ⟨w.heap.size + 2, 1, none⟩ = some (.slice xa xs.length xc) := (Zc hC).trans rfl; have qc2 : w1.cell? ⟨w.heap.size + 2, 2, none⟩ = some (.bool xz) := (Zc hC).trans rfl))
  rename_i Q' K hK
  have hxn : xn = numberW 0 n := by simpa [leafTold, hb0, Tr.N] using h
  refine wp_mono (told_num (b5 := w.heap.size) (b8 := w.heap.size + 1) (b9 := w.heap.size + 2) (n := n) (kind := 0) (xn := xn) rfl hfit (by omega) rfl rfl rfl hA rfl hB rfl hC rfl hxn) ?_
  rintro e a' w' ⟨rfl, hm, hd, h10⟩
  exact hK a' w' (wp_ret (bodyPost_ret (results_tmp rfl _ _ _) hd ⟨congrArg Ending.returned h10, ((((Mod.refl w).alloc _).alloc _).alloc _).trans (hm1.trans hm)⟩))
 ·-- kind 1
  obtain rfl : nl = -1 := by rcases hn with h | h | h <;> first | exact h | (exact absurd h (by decide))
  have hb0 : nullW (-1) ver (.mk n s z l u) = false := by simp [nullW]
  go_enter Tryz.func54, Tryz.ntmps54
  go_wp2_with (first | (go_at_call 118; refine null_c.mono ?_; rintro e w1 ⟨b, rfl, hb, hm1⟩; obtain ⟨hA, hB, hC⟩ := three_boxes hm1; have hbb : b = false := (nullW_iff (t := .mk n s z l u) hb).trans hb0; subst hbb; clear hb; have qa0 : w1.cell? ⟨w.heap.size, 0, none⟩ = some (.int .i64 1) := (Zc hA).trans rfl; have qa3 : w1.cell? ⟨w.heap.size, 3, none⟩ = some (.int .i64 (-1)) := (Zc hA).trans rfl; have qb0 : w1.cell? ⟨w.heap.size + 1, 0, none⟩ = some (.int .i64 n) := (Zc hB).trans rfl; have qb1 : w1.cell? ⟨w.heap.size + 1, 1, none⟩ = some (.slice wa s.length wc) := (Zc hB).trans rfl; have qc0 : w1.cell? ⟨w.heap.size + 2, 0, none⟩ = some (.int .i64 xn) := (Zc hC).trans rfl; have qc1 : w1.cell? ⟨w.heap.size + 2, 1, none⟩ = some (.slice xa xs.length xc) := (Zc hC).trans rfl; have qc2 : w1.cell? ⟨w.heap.size + 2, 2, none⟩ = some (.bool xz) := (Zc hC).trans rfl))
  rename_i Q' K hK
  have hxn : xn = numberW 1 n := by simpa [leafTold, hb0, Tr.N] using h
  refine wp_mono (told_num (b5 := w.heap.size) (b8 := w.heap.size + 1) (b9 := w.heap.size + 2) (n := n) (kind := 1) (xn := xn) rfl hfit (by omega) rfl rfl rfl hA rfl hB rfl hC rfl hxn) ?_
  rintro e a' w' ⟨rfl, hm, hd, h10⟩
  exact hK a' w' (wp_ret (bodyPost_ret (results_tmp rfl _ _ _) hd ⟨congrArg Ending.returned h10, ((((Mod.refl w).alloc _).alloc _).alloc _).trans (hm1.trans hm)⟩))
 ·-- kind 2
  obtain rfl : nl = -1 := by rcases hn with h | h | h <;> first | exact h | (exact absurd h (by decide))
  have hb0 : nullW (-1) ver (.mk n s z l u) = false := by simp [nullW]
  go_enter Tryz.func54, Tryz.ntmps54
  go_wp2_with (first | (go_at_call 118; refine null_c.mono ?_; rintro e w1 ⟨b, rfl, hb, hm1⟩; obtain ⟨hA, hB, hC⟩ := three_boxes hm1; have hbb : b = false := (nullW_iff (t := .mk n s z l u) hb).trans hb0; subst hbb; clear hb; have qa0 : w1.cell? ⟨w.heap.size, 0, none⟩ = some (.int .i64 2) := (Zc hA).trans rfl; have qa3 : w1.cell? ⟨w.heap.size, 3, none⟩ = some (.int .i64 (-1)) := (Zc hA).trans rfl; have qb0 : w1.cell? ⟨w.heap.size + 1, 0, none⟩ = some (.int .i64 n) := (Zc hB).trans rfl; have qb1 : w1.cell? ⟨w.heap.size + 1, 1, none⟩ = some (.slice wa s.length wc) := (Zc hB).trans rfl; have qc0 : w1.cell? ⟨w.heap.size + 2, 0, none⟩ = some (.int .i64 xn) := (Zc hC).trans rfl; have qc1 : w1.cell? ⟨w.heap.size + 2, 1, none⟩ = some (.slice xa xs.length xc) := (Zc hC).trans rfl; have qc2 : w1.cell? ⟨w.heap.size + 2, 2, none⟩ = some (.bool xz) := (Zc hC).trans rfl))
  rename_i Q' K hK
  have hxn : xn = numberW 2 n := by simpa [leafTold, hb0, Tr.N] using h
  refine wp_mono (told_num (b5 := w.heap.size) (b8 := w.heap.size + 1) (b9 := w.heap.size + 2) (n := n) (kind := 2) (xn := xn) rfl hfit (by omega) rfl rfl rfl hA rfl hB rfl hC rfl hxn) ?_
  rintro e a' w' ⟨rfl, hm, hd, h10⟩
  exact hK a' w' (wp_ret (bodyPost_ret (results_tmp rfl _ _ _) hd ⟨congrArg Ending.returned h10, ((((Mod.refl w).alloc _).alloc _).alloc _).trans (hm1.trans hm)⟩))
 ·-- kind 3
  obtain rfl : nl = -1 := by rcases hn with h | h | h <;> first | exact h | (exact absurd h (by decide))
  have hb0 : nullW (-1) ver (.mk n s z l u) = false := by simp [nullW]
  go_enter Tryz.func54, Tryz.ntmps54
  go_wp2_with (first | (go_at_call 118; refine null_c.mono ?_; rintro e w1 ⟨b, rfl, hb, hm1⟩; obtain ⟨hA, hB, hC⟩ := three_boxes hm1; have hbb : b = false := (nullW_iff (t := .mk n s z l u) hb).trans hb0; subst hbb; clear hb; have qa0 : w1.cell? ⟨w.heap.size, 0, none⟩ = some (.int .i64 3) := (Zc hA).trans rfl; have qa3 : w1.cell? ⟨w.heap.size, 3, none⟩ = some (.int .i64 (-1)) := (Zc hA).trans rfl; have qb0 : w1.cell? ⟨w.heap.size + 1, 0, none⟩ = some (.int .i64 n) := (Zc hB).trans rfl; have qb1 : w1.cell? ⟨w.heap.size + 1, 1, none⟩ = some (.slice wa s.length wc) := (Zc hB).trans rfl; have qc0 : w1.cell? ⟨w.heap.size + 2, 0, none⟩ = some (.int .i64 xn) := (Zc hC).trans rfl; have qc1 : w1.cell? ⟨w.heap.size + 2, 1, none⟩ = some (.slice xa xs.length xc) := (Zc hC).trans rfl; have qc2 : w1.cell? ⟨w.heap.size + 2, 2, none⟩ = some (.bool xz) := (Zc hC).trans rfl))
  rename_i Q' K hK
  have hxn : xn = numberW 3 n := by simpa [leafTold, hb0, Tr.N] using h
  refine wp_mono (told_num (b5 := w.heap.size) (b8 := w.heap.size + 1) (b9 := w.heap.size + 2) (n := n) (kind := 3) (xn := xn) rfl hfit (by omega) rfl rfl rfl hA rfl hB rfl hC rfl hxn) ?_
  rintro e a' w' ⟨rfl, hm, hd, h10⟩
  exact hK a' w' (wp_ret (bodyPost_ret (results_tmp rfl _ _ _) hd ⟨congrArg Ending.returned h10, ((((Mod.refl w).alloc _).alloc _).alloc _).trans (hm1.trans hm)⟩))
 ·-- kind 4
  obtain rfl : nl = -1 := by rcases hn with h | h | h <;> first | exact h | (exact absurd h (by decide))
  have hb0 : nullW (-1) ver (.mk n s z l u) = false := by simp [nullW]
  go_enter Tryz.func54, Tryz.ntmps54
  go_wp2_with (first | (go_at_call 118; refine null_c.mono ?_; rintro e w1 ⟨b, rfl, hb, hm1⟩; obtain ⟨hA, hB, hC⟩ := three_boxes hm1; have hbb : b = false := (nullW_iff (t := .mk n s z l u) hb).trans hb0; subst hbb; clear hb; have qa0 : w1.cell? ⟨w.heap.size, 0, none⟩ = some (.int .i64 4) := (Zc hA).trans rfl; have qa3 : w1.cell? ⟨w.heap.size, 3, none⟩ = some (.int .i64 (-1)) := (Zc hA).trans rfl; have qb0 : w1.cell? ⟨w.heap.size + 1, 0, none⟩ = some (.int .i64 n) := (Zc hB).trans rfl; have qb1 : w1.cell? ⟨w.heap.size + 1, 1, none⟩ = some (.slice wa s.length wc) := (Zc hB).trans rfl; have qc0 : w1.cell? ⟨w.heap.size + 2, 0, none⟩ = some (.int .i64 xn) := (Zc hC).trans rfl; have qc1 : w1.cell? ⟨w.heap.size + 2, 1, none⟩ = some (.slice xa xs.length xc) := (Zc hC).trans rfl; have qc2 : w1.cell? ⟨w.heap.size + 2, 2, none⟩ = some (.bool xz) := (Zc hC).trans rfl))
  rename_i Q' K hK
  have hxn : xn = numberW 4 n := by simpa [leafTold, hb0, Tr.N] using h
  refine wp_mono (told_num (b5 := w.heap.size) (b8 := w.heap.size + 1) (b9 := w.heap.size + 2) (n := n) (kind := 4) (xn := xn) rfl hfit (by omega) rfl rfl rfl hA rfl hB rfl hC rfl hxn) ?_
  rintro e a' w' ⟨rfl, hm, hd, h10⟩
  exact hK a' w' (wp_ret (bodyPost_ret (results_tmp rfl _ _ _) hd ⟨congrArg Ending.returned h10, ((((Mod.refl w).alloc _).alloc _).alloc _).trans (hm1.trans hm)⟩))
 ·-- kind 7
  obtain rfl : nl = -1 := by rcases hn with h | h | h <;> first | exact h | (exact absurd h (by decide))
  have hb0 : nullW (-1) ver (.mk n s z l u) = false := by simp [nullW]
  obtain ⟨_, hnn, _⟩ := leafTold_nn h hb0
  obtain rfl : xs = uu s := hnn rfl
  clear h hnn hn
  go_enter Tryz.func54, Tryz.ntmps54
  go_wp2_with (first | (go_at_call 118; refine null_c.mono ?_; rintro e w1 ⟨b, rfl, hb, hm1⟩; obtain ⟨hA, hB, hC⟩ := three_boxes hm1; have hbb : b = false := (nullW_iff (t := .mk n s z l u) hb).trans hb0; subst hbb; clear hb; have qa0 : w1.cell? ⟨w.heap.size, 0, none⟩ = some (.int .i64 7) := (Zc hA).trans rfl; have qa3 : w1.cell? ⟨w.heap.size, 3, none⟩ = some (.int .i64 (-1)) := (Zc hA).trans rfl; have qb0 : w1.cell? ⟨w.heap.size + 1, 0, none⟩ = some (.int .i64 n) := (Zc hB).trans rfl; have qb1 : w1.cell? ⟨w.heap.size + 1, 1, none⟩ = some (.slice wa s.length wc) := (Zc hB).trans rfl; have qc0 : w1.cell? ⟨w.heap.size + 2, 0, none⟩ = some (.int .i64 xn) := (Zc hC).trans rfl; have qc1 : w1.cell? ⟨w.heap.size + 2, 1, none⟩ = some (.slice xa (uu s).length xc) := (Zc hC).trans rfl; have qc2 : w1.cell? ⟨w.heap.size + 2, 2, none⟩ = some (.bool xz) := (Zc hC).trans rfl; have qe1 : (w1.alloc (.cells (Array.replicate 16 (.int .u8 0)) 5)).cell? ⟨w.heap.size + 1, 1, none⟩ = some (.slice wa s.length wc) := (Zc (((Mod.refl (S := none') w1).alloc (.cells (Array.replicate 16 (.int .u8 0)) 5)).some hB (fun f => f))).trans rfl) | (rw [make16]) | (refine wpl_copy16 (k := w1.heap.size) (s := s) rfl rfl (Zh w1 _) (((e1 ▸ h1).mod (((((Mod.refl w).alloc _).alloc _).alloc _).trans hm1)).mod ((Mod.refl w1).alloc _)) ?_; rintro m5 w5 hm5 ⟨C5, hk5, hC5⟩; have hC' := hm5.some (((Mod.refl (S := none') w1).alloc (.cells (Array.replicate 16 (.int .u8 0)) 5)).some hC (fun f => f)) (fun e => by have e' : w.heap.size + 2 = w1.heap.size := e; have := hm1.size; simp at this; omega); have qd1 : w5.cell? ⟨w.heap.size + 2, 1, none⟩ = some (.slice xa (uu s).length xc) := (Zc hC').trans rfl) | (go_at_call 42; refine (same_octs (s := uu s) (OctI.s ((e2 ▸ hx1).mod ((((((Mod.refl w).alloc _).alloc _).alloc _).trans hm1).trans (((Mod.refl w1).alloc (.cells (Array.replicate 16 (.int .u8 0)) 5)).trans' hm5 (fun _ _ f => f) (fun i hi e => by have e' : i = w1.heap.size := e; omega))))) (uu_made hk5 hC5)).mono ?_; rintro e w6 ⟨rfl, hm6⟩))
  go_ret
  exact ⟨rfl, ((((((Mod.refl w).alloc _).alloc _).alloc _).trans hm1).trans (((Mod.refl w1).alloc (.cells (Array.replicate 16 (.int .u8 0)) 5)).trans' hm5 (fun _ _ f => f) (fun i hi e => by have e' : i = w1.heap.size := e; omega))).trans hm6⟩
 ·-- kind 8
  cases hb0 : nullW nl ver (.mk n s z l u) with
  | true =>
   obtain ⟨hz, h1, h2⟩ := nullW_true hb0
   replace hz : z = true := hz
   subst hz
   obtain rfl : xz = true := leafTold_null h hb0
   clear h hn
   go_enter Tryz.func54, Tryz.ntmps54
   go_wp2_with (first | (go_at_call 118; refine null_c.mono ?_; rintro e w1 ⟨b, rfl, hb, hm1⟩; obtain ⟨hA, hB, hC⟩ := three_boxes hm1; have hbb : b = true := (nullW_iff (t := .mk n s true l u) hb).trans hb0; subst hbb; clear hb; have qa0 : w1.cell? ⟨w.heap.size, 0, none⟩ = some (.int .i64 8) := (Zc hA).trans rfl; have qa3 : w1.cell? ⟨w.heap.size, 3, none⟩ = some (.int .i64 nl) := (Zc hA).trans rfl; have qb0 : w1.cell? ⟨w.heap.size + 1, 0, none⟩ = some (.int .i64 n) := (Zc hB).trans rfl; have qb1 : w1.cell? ⟨w.heap.size + 1, 1, none⟩ = some (.slice wa s.length wc) := (Zc hB).trans rfl; have qc0 : w1.cell? ⟨w.heap.size + 2, 0, none⟩ = some (.int .i64 xn) := (Zc hC).trans rfl; have qc1 : w1.cell? ⟨w.heap.size + 2, 1, none⟩ = some (.slice xa xs.length xc) := (Zc hC).trans rfl; have qc2 : w1.cell? ⟨w.heap.size + 2, 2, none⟩ = some (.bool true) := (Zc hC).trans rfl))
   go_ret
   exact ⟨rfl, ((((Mod.refl w).alloc _).alloc _).alloc _).trans hm1⟩
  | false =>
   obtain ⟨hnn, _, hzz⟩ := leafTold_nn h hb0
   obtain rfl : xs = whole s := hnn (by omega)
   obtain rfl : xz = false := hzz (.inl rfl)
   rcases Int.lt_or_le nl 0 with hq1 | hq1
   ·clear h hnn hzz hn
    go_enter Tryz.func54, Tryz.ntmps54
    go_wp2_with (first | (go_at_call 118; refine null_c.mono ?_; rintro e w1 ⟨b, rfl, hb, hm1⟩; obtain ⟨hA, hB, hC⟩ := three_boxes hm1; have hbb : b = false := (nullW_iff (t := .mk n s z l u) hb).trans hb0; subst hbb; clear hb; have qa0 : w1.cell? ⟨w.heap.size, 0, none⟩ = some (.int .i64 8) := (Zc hA).trans rfl; have qa3 : w1.cell? ⟨w.heap.size, 3, none⟩ = some (.int .i64 nl) := (Zc hA).trans rfl; have qb0 : w1.cell? ⟨w.heap.size + 1, 0, none⟩ = some (.int .i64 n) := (Zc hB).trans rfl; have qb1 : w1.cell? ⟨w.heap.size + 1, 1, none⟩ = some (.slice wa s.length wc) := (Zc hB).trans rfl; have qc0 : w1.cell? ⟨w.heap.size + 2, 0, none⟩ = some (.int .i64 xn) := (Zc hC).trans rfl; have qc1 : w1.cell? ⟨w.heap.size + 2, 1, none⟩ = some (.slice xa (whole s).length xc) := (Zc hC).trans rfl; have qc2 : w1.cell? ⟨w.heap.size + 2, 2, none⟩ = some (.bool false) := (Zc hC).trans rfl))
    first | (rename_i hK; refine wp_mono (told_octs (b8 := w.heap.size + 1) (b9 := w.heap.size + 2) (s := s) (w := w1) rfl rfl rfl hB rfl hC rfl ((e1 ▸ h1).mod (((((Mod.refl w).alloc _).alloc _).alloc _).trans hm1)) ((e2 ▸ hx1).mod (((((Mod.refl w).alloc _).alloc _).alloc _).trans hm1))) ?_; rintro e a' w' ⟨rfl, hm, hd, h10⟩; refine hK a' w' (wp_ret ?_); simp only [Exit.inBlock, Exit.then]; exact bodyPost_ret (results_tmp rfl _ _ _) hd ⟨congrArg Ending.returned h10, ((((Mod.refl w).alloc _).alloc _).alloc _).trans (hm1.trans hm)⟩) | (rename_i hK _h; refine wp_mono (told_octs (b8 := w.heap.size + 1) (b9 := w.heap.size + 2) (s := s) (w := w1) rfl rfl rfl hB rfl hC rfl ((e1 ▸ h1).mod (((((Mod.refl w).alloc _).alloc _).alloc _).trans hm1)) ((e2 ▸ hx1).mod (((((Mod.refl w).alloc _).alloc _).alloc _).trans hm1))) ?_; rintro e a' w' ⟨rfl, hm, hd, h10⟩; refine hK a' w' (wp_ret ?_); simp only [Exit.inBlock, Exit.then]; exact bodyPost_ret (results_tmp rfl _ _ _) hd ⟨congrArg Ending.returned h10, ((((Mod.refl w).alloc _).alloc _).alloc _).trans (hm1.trans hm)⟩)
   ·rcases Int.lt_or_le ver nl with hq2 | hq2
    ·clear h hnn hzz hn
     go_enter Tryz.func54, Tryz.ntmps54
     go_wp2_with (first | (go_at_call 118; refine null_c.mono ?_; rintro e w1 ⟨b, rfl, hb, hm1⟩; obtain ⟨hA, hB, hC⟩ := three_boxes hm1; have hbb : b = false := (nullW_iff (t := .mk n s z l u) hb).trans hb0; subst hbb; clear hb; have qa0 : w1.cell? ⟨w.heap.size, 0, none⟩ = some (.int .i64 8) := (Zc hA).trans rfl; have qa3 : w1.cell? ⟨w.heap.size, 3, none⟩ = some (.int .i64 nl) := (Zc hA).trans rfl; have qb0 : w1.cell? ⟨w.heap.size + 1, 0, none⟩ = some (.int .i64 n) := (Zc hB).trans rfl; have qb1 : w1.cell? ⟨w.heap.size + 1, 1, none⟩ = some (.slice wa s.length wc) := (Zc hB).trans rfl; have qc0 : w1.cell? ⟨w.heap.size + 2, 0, none⟩ = some (.int .i64 xn) := (Zc hC).trans rfl; have qc1 : w1.cell? ⟨w.heap.size + 2, 1, none⟩ = some (.slice xa (whole s).length xc) := (Zc hC).trans rfl; have qc2 : w1.cell? ⟨w.heap.size + 2, 2, none⟩ = some (.bool false) := (Zc hC).trans rfl))
     first | (rename_i hK; refine wp_mono (told_octs (b8 := w.heap.size + 1) (b9 := w.heap.size + 2) (s := s) (w := w1) rfl rfl rfl hB rfl hC rfl ((e1 ▸ h1).mod (((((Mod.refl w).alloc _).alloc _).alloc _).trans hm1)) ((e2 ▸ hx1).mod (((((Mod.refl w).alloc _).alloc _).alloc _).trans hm1))) ?_; rintro e a' w' ⟨rfl, hm, hd, h10⟩; refine hK a' w' (wp_ret ?_); simp only [Exit.inBlock, Exit.then]; exact bodyPost_ret (results_tmp rfl _ _ _) hd ⟨congrArg Ending.returned h10, ((((Mod.refl w).alloc _).alloc _).alloc _).trans (hm1.trans hm)⟩) | (rename_i hK _h; refine wp_mono (told_octs (b8 := w.heap.size + 1) (b9 := w.heap.size + 2) (s := s) (w := w1) rfl rfl rfl hB rfl hC rfl ((e1 ▸ h1).mod (((((Mod.refl w).alloc _).alloc _).alloc _).trans hm1)) ((e2 ▸ hx1).mod (((((Mod.refl w).alloc _).alloc _).alloc _).trans hm1))) ?_; rintro e a' w' ⟨rfl, hm, hd, h10⟩; refine hK a' w' (wp_ret ?_); simp only [Exit.inBlock, Exit.then]; exact bodyPost_ret (results_tmp rfl _ _ _) hd ⟨congrArg Ending.returned h10, ((((Mod.refl w).alloc _).alloc _).alloc _).trans (hm1.trans hm)⟩)
    ·clear h hnn hzz hn
     go_enter Tryz.func54, Tryz.ntmps54
     go_wp2_with (first | (go_at_call 118; refine null_c.mono ?_; rintro e w1 ⟨b, rfl, hb, hm1⟩; obtain ⟨hA, hB, hC⟩ := three_boxes hm1; have hbb : b = false := (nullW_iff (t := .mk n s z l u) hb).trans hb0; subst hbb; clear hb; have qa0 : w1.cell? ⟨w.heap.size, 0, none⟩ = some (.int .i64 8) := (Zc hA).trans rfl; have qa3 : w1.cell? ⟨w.heap.size, 3, none⟩ = some (.int .i64 nl) := (Zc hA).trans rfl; have qb0 : w1.cell? ⟨w.heap.size + 1, 0, none⟩ = some (.int .i64 n) := (Zc hB).trans rfl; have qb1 : w1.cell? ⟨w.heap.size + 1, 1, none⟩ = some (.slice wa s.length wc) := (Zc hB).trans rfl; have qc0 : w1.cell? ⟨w.heap.size + 2, 0, none⟩ = some (.int .i64 xn) := (Zc hC).trans rfl; have qc1 : w1.cell? ⟨w.heap.size + 2, 1, none⟩ = some (.slice xa (whole s).length xc) := (Zc hC).trans rfl; have qc2 : w1.cell? ⟨w.heap.size + 2, 2, none⟩ = some (.bool false) := (Zc hC).trans rfl))
     first | (rename_i hK; refine wp_mono (told_octs (b8 := w.heap.size + 1) (b9 := w.heap.size + 2) (s := s) (w := w1) rfl rfl rfl hB rfl hC rfl ((e1 ▸ h1).mod (((((Mod.refl w).alloc _).alloc _).alloc _).trans hm1)) ((e2 ▸ hx1).mod (((((Mod.refl w).alloc _).alloc _).alloc _).trans hm1))) ?_; rintro e a' w' ⟨rfl, hm, hd, h10⟩; refine hK a' w' (wp_ret ?_); simp only [Exit.inBlock, Exit.then]; exact bodyPost_ret (results_tmp rfl _ _ _) hd ⟨congrArg Ending.returned h10, ((((Mod.refl w).alloc _).alloc _).alloc _).trans (hm1.trans hm)⟩) | (rename_i hK _h; refine wp_mono (told_octs (b8 := w.heap.size + 1) (b9 := w.heap.size + 2) (s := s) (w := w1) rfl rfl rfl hB rfl hC rfl ((e1 ▸ h1).mod (((((Mod.refl w).alloc _).alloc _).alloc _).trans hm1)) ((e2 ▸ hx1).mod (((((Mod.refl w).alloc _).alloc _).alloc _).trans hm1))) ?_; rintro e a' w' ⟨rfl, hm, hd, h10⟩; refine hK a' w' (wp_ret ?_); simp only [Exit.inBlock, Exit.then]; exact bodyPost_ret (results_tmp rfl _ _ _) hd ⟨congrArg Ending.returned h10, ((((Mod.refl w).alloc _).alloc _).alloc _).trans (hm1.trans hm)⟩)
 ·-- kind 9
  cases hb0 : nullW nl ver (.mk n s z l u) with
  | true =>
   obtain ⟨hz, h1, h2⟩ := nullW_true hb0
   replace hz : z = true := hz
   subst hz
   obtain rfl : xz = true := leafTold_null h hb0
   clear h hn
   go_enter Tryz.func54, Tryz.ntmps54
   go_wp2_with (first | (go_at_call 118; refine null_c.mono ?_; rintro e w1 ⟨b, rfl, hb, hm1⟩; obtain ⟨hA, hB, hC⟩ := three_boxes hm1; have hbb : b = true := (nullW_iff (t := .mk n s true l u) hb).trans hb0; subst hbb; clear hb; have qa0 : w1.cell? ⟨w.heap.size, 0, none⟩ = some (.int .i64 9) := (Zc hA).trans rfl; have qa3 : w1.cell? ⟨w.heap.size, 3, none⟩ = some (.int .i64 nl) := (Zc hA).trans rfl; have qb0 : w1.cell? ⟨w.heap.size + 1, 0, none⟩ = some (.int .i64 n) := (Zc hB).trans rfl; have qb1 : w1.cell? ⟨w.heap.size + 1, 1, none⟩ = some (.slice wa s.length wc) := (Zc hB).trans rfl; have qc0 : w1.cell? ⟨w.heap.size + 2, 0, none⟩ = some (.int .i64 xn) := (Zc hC).trans rfl; have qc1 : w1.cell? ⟨w.heap.size + 2, 1, none⟩ = some (.slice xa xs.length xc) := (Zc hC).trans rfl; have qc2 : w1.cell? ⟨w.heap.size + 2, 2, none⟩ = some (.bool true) := (Zc hC).trans rfl))
   go_ret
   exact ⟨rfl, ((((Mod.refl w).alloc _).alloc _).alloc _).trans hm1⟩
  | false =>
   obtain ⟨hnn, _, hzz⟩ := leafTold_nn h hb0
   obtain rfl : xs = whole s := hnn (by omega)
   rcases Int.lt_or_le nl 0 with hq1 | hq1
   ·clear h hnn hzz hn
    go_enter Tryz.func54, Tryz.ntmps54
    go_wp2_with (first | (go_at_call 118; refine null_c.mono ?_; rintro e w1 ⟨b, rfl, hb, hm1⟩; obtain ⟨hA, hB, hC⟩ := three_boxes hm1; have hbb : b = false := (nullW_iff (t := .mk n s z l u) hb).trans hb0; subst hbb; clear hb; have qa0 : w1.cell? ⟨w.heap.size, 0, none⟩ = some (.int .i64 9) := (Zc hA).trans rfl; have qa3 : w1.cell? ⟨w.heap.size, 3, none⟩ = some (.int .i64 nl) := (Zc hA).trans rfl; have qb0 : w1.cell? ⟨w.heap.size + 1, 0, none⟩ = some (.int .i64 n) := (Zc hB).trans rfl; have qb1 : w1.cell? ⟨w.heap.size + 1, 1, none⟩ = some (.slice wa s.length wc) := (Zc hB).trans rfl; have qc0 : w1.cell? ⟨w.heap.size + 2, 0, none⟩ = some (.int .i64 xn) := (Zc hC).trans rfl; have qc1 : w1.cell? ⟨w.heap.size + 2, 1, none⟩ = some (.slice xa (whole s).length xc) := (Zc hC).trans rfl; have qc2 : w1.cell? ⟨w.heap.size + 2, 2, none⟩ = some (.bool xz) := (Zc hC).trans rfl))
    first | (rename_i hK; refine wp_mono (told_octs (b8 := w.heap.size + 1) (b9 := w.heap.size + 2) (s := s) (w := w1) rfl rfl rfl hB rfl hC rfl ((e1 ▸ h1).mod (((((Mod.refl w).alloc _).alloc _).alloc _).trans hm1)) ((e2 ▸ hx1).mod (((((Mod.refl w).alloc _).alloc _).alloc _).trans hm1))) ?_; rintro e a' w' ⟨rfl, hm, hd, h10⟩; refine hK a' w' (wp_ret ?_); simp only [Exit.inBlock, Exit.then]; exact bodyPost_ret (results_tmp rfl _ _ _) hd ⟨congrArg Ending.returned h10, ((((Mod.refl w).alloc _).alloc _).alloc _).trans (hm1.trans hm)⟩) | (rename_i hK _h; refine wp_mono (told_octs (b8 := w.heap.size + 1) (b9 := w.heap.size + 2) (s := s) (w := w1) rfl rfl rfl hB rfl hC rfl ((e1 ▸ h1).mod (((((Mod.refl w).alloc _).alloc _).alloc _).trans hm1)) ((e2 ▸ hx1).mod (((((Mod.refl w).alloc _).alloc _).alloc _).trans hm1))) ?_; rintro e a' w' ⟨rfl, hm, hd, h10⟩; refine hK a' w' (wp_ret ?_); simp only [Exit.inBlock, Exit.then]; exact bodyPost_ret (results_tmp rfl _ _ _) hd ⟨congrArg Ending.returned h10, ((((Mod.refl w).alloc _).alloc _).alloc _).trans (hm1.trans hm)⟩)
   ·rcases Int.lt_or_le ver nl with hq2 | hq2
    ·clear h hnn hzz hn
     go_enter Tryz.func54, Tryz.ntmps54
     go_wp2_with (first | (go_at_call 118; refine null_c.mono ?_; rintro e w1 ⟨b, rfl, hb, hm1⟩; obtain ⟨hA, hB, hC⟩ := three_boxes hm1; have hbb : b = false := (nullW_iff (t := .mk n s z l u) hb).trans hb0; subst hbb; clear hb; have qa0 : w1.cell? ⟨w.heap.size, 0, none⟩ = some (.int .i64 9) := (Zc hA).trans rfl; have qa3 : w1.cell? ⟨w.heap.size, 3, none⟩ = some (.int .i64 nl) := (Zc hA).trans rfl; have qb0 : w1.cell? ⟨w.heap.size + 1, 0, none⟩ = some (.int .i64 n) := (Zc hB).trans rfl; have qb1 : w1.cell? ⟨w.heap.size + 1, 1, none⟩ = some (.slice wa s.length wc) := (Zc hB).trans rfl; have qc0 : w1.cell? ⟨w.heap.size + 2, 0, none⟩ = some (.int .i64 xn) := (Zc hC).trans rfl; have qc1 : w1.cell? ⟨w.heap.size + 2, 1, none⟩ = some (.slice xa (whole s).length xc) := (Zc hC).trans rfl; have qc2 : w1.cell? ⟨w.heap.size + 2, 2, none⟩ = some (.bool xz) := (Zc hC).trans rfl))
     first | (rename_i hK; refine wp_mono (told_octs (b8 := w.heap.size + 1) (b9 := w.heap.size + 2) (s := s) (w := w1) rfl rfl rfl hB rfl hC rfl ((e1 ▸ h1).mod (((((Mod.refl w).alloc _).alloc _).alloc _).trans hm1)) ((e2 ▸ hx1).mod (((((Mod.refl w).alloc _).alloc _).alloc _).trans hm1))) ?_; rintro e a' w' ⟨rfl, hm, hd, h10⟩; refine hK a' w' (wp_ret ?_); simp only [Exit.inBlock, Exit.then]; exact bodyPost_ret (results_tmp rfl _ _ _) hd ⟨congrArg Ending.returned h10, ((((Mod.refl w).alloc _).alloc _).alloc _).trans (hm1.trans hm)⟩) | (rename_i hK _h; refine wp_mono (told_octs (b8 := w.heap.size + 1) (b9 := w.heap.size + 2) (s := s) (w := w1) rfl rfl rfl hB rfl hC rfl ((e1 ▸ h1).mod (((((Mod.refl w).alloc _).alloc _).alloc _).trans hm1)) ((e2 ▸ hx1).mod (((((Mod.refl w).alloc _).alloc _).alloc _).trans hm1))) ?_; rintro e a' w' ⟨rfl, hm, hd, h10⟩; refine hK a' w' (wp_ret ?_); simp only [Exit.inBlock, Exit.then]; exact bodyPost_ret (results_tmp rfl _ _ _) hd ⟨congrArg Ending.returned h10, ((((Mod.refl w).alloc _).alloc _).alloc _).trans (hm1.trans hm)⟩)
    ·obtain rfl : xz = false := hzz (.inr ⟨hq1, hq2⟩)
     clear h hnn hzz hn
     go_enter Tryz.func54, Tryz.ntmps54
     go_wp2_with (first | (go_at_call 118; refine null_c.mono ?_; rintro e w1 ⟨b, rfl, hb, hm1⟩; obtain ⟨hA, hB, hC⟩ := three_boxes hm1; have hbb : b = false := (nullW_iff (t := .mk n s z l u) hb).trans hb0; subst hbb; clear hb; have qa0 : w1.cell? ⟨w.heap.size, 0, none⟩ = some (.int .i64 9) := (Zc hA).trans rfl; have qa3 : w1.cell? ⟨w.heap.size, 3, none⟩ = some (.int .i64 nl) := (Zc hA).trans rfl; have qb0 : w1.cell? ⟨w.heap.size + 1, 0, none⟩ = some (.int .i64 n) := (Zc hB).trans rfl; have qb1 : w1.cell? ⟨w.heap.size + 1, 1, none⟩ = some (.slice wa s.length wc) := (Zc hB).trans rfl; have qc0 : w1.cell? ⟨w.heap.size + 2, 0, none⟩ = some (.int .i64 xn) := (Zc hC).trans rfl; have qc1 : w1.cell? ⟨w.heap.size + 2, 1, none⟩ = some (.slice xa (whole s).length xc) := (Zc hC).trans rfl; have qc2 : w1.cell? ⟨w.heap.size + 2, 2, none⟩ = some (.bool false) := (Zc hC).trans rfl))
     first | (rename_i hK; refine wp_mono (told_octs (b8 := w.heap.size + 1) (b9 := w.heap.size + 2) (s := s) (w := w1) rfl rfl rfl hB rfl hC rfl ((e1 ▸ h1).mod (((((Mod.refl w).alloc _).alloc _).alloc _).trans hm1)) ((e2 ▸ hx1).mod (((((Mod.refl w).alloc _).alloc _).alloc _).trans hm1))) ?_; rintro e a' w' ⟨rfl, hm, hd, h10⟩; refine hK a' w' (wp_ret ?_); simp only [Exit.inBlock, Exit.then]; exact bodyPost_ret (results_tmp rfl _ _ _) hd ⟨congrArg Ending.returned h10, ((((Mod.refl w).alloc _).alloc _).alloc _).trans (hm1.trans hm)⟩) | (rename_i hK _h; refine wp_mono (told_octs (b8 := w.heap.size + 1) (b9 := w.heap.size + 2) (s := s) (w := w1) rfl rfl rfl hB rfl hC rfl ((e1 ▸ h1).mod (((((Mod.refl w).alloc _).alloc _).alloc _).trans hm1)) ((e2 ▸ hx1).mod (((((Mod.refl w).alloc _).alloc _).alloc _).trans hm1))) ?_; rintro e a' w' ⟨rfl, hm, hd, h10⟩; refine hK a' w' (wp_ret ?_); simp only [Exit.inBlock, Exit.then]; exact bodyPost_ret (results_tmp rfl _ _ _) hd ⟨congrArg Ending.returned h10, ((((Mod.refl w).alloc _).alloc _).alloc _).trans (hm1.trans hm)⟩)
 ·-- kind 5
  obtain rfl : nl = -1 := by rcases hn with h | h | h <;> first | exact h | (exact absurd h (by decide))
  have hb0 : nullW (-1) ver (.mk n s z l u) = false := by simp [nullW]
  go_enter Tryz.func54, Tryz.ntmps54
  go_wp2_with (first | (go_at_call 118; refine null_c.mono ?_; rintro e w1 ⟨b, rfl, hb, hm1⟩; obtain ⟨hA, hB, hC⟩ := three_boxes hm1; have hbb : b = false := (nullW_iff (t := .mk n s z l u) hb).trans hb0; subst hbb; clear hb; have qa0 : w1.cell? ⟨w.heap.size, 0, none⟩ = some (.int .i64 5) := (Zc hA).trans rfl; have qa3 : w1.cell? ⟨w.heap.size, 3, none⟩ = some (.int .i64 (-1)) := (Zc hA).trans rfl; have qb0 : w1.cell? ⟨w.heap.size + 1, 0, none⟩ = some (.int .i64 n) := (Zc hB).trans rfl; have qb1 : w1.cell? ⟨w.heap.size + 1, 1, none⟩ = some (.slice wa s.length wc) := (Zc hB).trans rfl; have qc0 : w1.cell? ⟨w.heap.size + 2, 0, none⟩ = some (.int .i64 xn) := (Zc hC).trans rfl; have qc1 : w1.cell? ⟨w.heap.size + 2, 1, none⟩ = some (.slice xa xs.length xc) := (Zc hC).trans rfl; have qc2 : w1.cell? ⟨w.heap.size + 2, 2, none⟩ = some (.bool xz) := (Zc hC).trans rfl))
  rename_i Q' K hK
  have hxn : xn = numberW 5 n := by simpa [leafTold, hb0, Tr.N] using h
  refine wp_mono (told_num (b5 := w.heap.size) (b8 := w.heap.size + 1) (b9 := w.heap.size + 2) (n := n) (kind := 5) (xn := xn) rfl hfit (by omega) rfl rfl rfl hA rfl hB rfl hC rfl hxn) ?_
  rintro e a' w' ⟨rfl, hm, hd, h10⟩
  exact hK a' w' (wp_ret (bodyPost_ret (results_tmp rfl _ _ _) hd ⟨congrArg Ending.returned h10, ((((Mod.refl w).alloc _).alloc _).alloc _).trans (hm1.trans hm)⟩))
 ·-- kind 6
  obtain rfl : nl = -1 := by rcases hn with h | h | h <;> first | exact h | (exact absurd h (by decide))
  have hb0 : nullW (-1) ver (.mk n s z l u) = false := by simp [nullW]
  go_enter Tryz.func54, Tryz.ntmps54
  go_wp2_with (first | (go_at_call 118; refine null_c.mono ?_; rintro e w1 ⟨b, rfl, hb, hm1⟩; obtain ⟨hA, hB, hC⟩ := three_boxes hm1; have hbb : b = false := (nullW_iff (t := .mk n s z l u) hb).trans hb0; subst hbb; clear hb; have qa0 : w1.cell? ⟨w.heap.size, 0, none⟩ = some (.int .i64 6) := (Zc hA).trans rfl; have qa3 : w1.cell? ⟨w.heap.size, 3, none⟩ = some (.int .i64 (-1)) := (Zc hA).trans rfl; have qb0 : w1.cell? ⟨w.heap.size + 1, 0, none⟩ = some (.int .i64 n) := (Zc hB).trans rfl; have qb1 : w1.cell? ⟨w.heap.size + 1, 1, none⟩ = some (.slice wa s.length wc) := (Zc hB).trans rfl; have qc0 : w1.cell? ⟨w.heap.size + 2, 0, none⟩ = some (.int .i64 xn) := (Zc hC).trans rfl; have qc1 : w1.cell? ⟨w.heap.size + 2, 1, none⟩ = some (.slice xa xs.length xc) := (Zc hC).trans rfl; have qc2 : w1.cell? ⟨w.heap.size + 2, 2, none⟩ = some (.bool xz) := (Zc hC).trans rfl))
  rename_i Q' K hK
  have hxn : xn = numberW 6 n := by simpa [leafTold, hb0, Tr.N] using h
  refine wp_mono (told_num (b5 := w.heap.size) (b8 := w.heap.size + 1) (b9 := w.heap.size + 2) (n := n) (kind := 6) (xn := xn) rfl hfit (by omega) rfl rfl rfl hA rfl hB rfl hC rfl hxn) ?_
  rintro e a' w' ⟨rfl, hm, hd, h10⟩
  exact hK a' w' (wp_ret (bodyPost_ret (results_tmp rfl _ _ _) hd ⟨congrArg Ending.returned h10, ((((Mod.refl w).alloc _).alloc _).alloc _).trans (hm1.trans hm)⟩))
end Go.Proofs.YtpecdnfmlodmaaaGreatDoorR
