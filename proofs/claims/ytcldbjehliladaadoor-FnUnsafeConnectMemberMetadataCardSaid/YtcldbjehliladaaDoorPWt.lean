/-
  The writer of package spec: what a tree says; counts; texts as far as they may go.
-/
import Derived.WalkKit
import Derived.Test.YtcldbjehliladaaDoorPWs
set_option linter.unusedSimpArgs false
set_option linter.unusedVariables false
namespace Go.Proofs.YtcldbjehliladaaDoor
open Go Go.RowKit
section
variable {P : Program} {ρ : Operand -> Value} {w : World} {d : Option Tmp} {ty : TypeId} {p : String} {af : Array Edge} {g : Option (Nat × Bool)}
theorem x_min {x y : Operand} {ts : Array TypeId} {k k' : IntKind} {m n : Int} (hx : ρ x = .int k m) (hy : ρ y = .int k' n) : (execOp ρ ⟨d, .call ⟨.builtin .min, #[x, y], ts⟩, ty, p, af, g⟩).run P w = .ok (.value (.int k (if n < m then n else m))) w := by
 simp [execOp, resolve, invoke, builtin, hx, hy, run_min_int2]
theorem x_sliceH {x y : Operand} {t e sz n cap : Nat} {ao : Option Addr} {k : IntKind} {m : Nat} (hI : elemInfo P t e sz = true) (hx : ρ x = .slice ao n cap) (hy : ρ y = .int k (m : Nat)) (hm : m <= cap) :
  (execOp ρ ⟨d, .slice t x none (some y) none, ty, p, af, g⟩).run P w = .ok (.value (.slice ao m cap)) w := by
 obtain ⟨hu, i, z, hi, hz, h2, h3, h4, h5, h6⟩ := elemInfo_spec hI
 have he : P.elem t = e := by simp [Program.elem, hu]
 have hu' : P.underlying t = some (.slice (P.elem t)) := by rw [he]; exact hu
 have h := run_slice_h (P := P) (w := w) t ao n cap hu' k (m : Nat) (by omega) (by omega)
 have h0 : (Instr.sliceAt t (.slice ao n cap) none (some (.int k (m : Nat))) none).run P w = .ok (.slice ao m cap) w := by
  rw [run_sliceAt_slice _ t _ _ _ _ hu', h, he]
  cases ao <;> simp [sizeOf, typeInfo, hi, sliced, Addr.add]
 simp [execOp, hx, hy, h0]
end
/-- a slice of rows that came in -/
def ElemsI (w : World) (v : Value) (n sz : Nat) (f : Nat -> Nat -> Value) : Prop := (n = 0 /\ ∃ ao cap, v = .slice ao 0 cap) \/
 ∃ k off cap C t fr, v = .slice (some ⟨k, off, none⟩) n cap /\ n <= cap /\ cap <= maxLen /\ w.heap[k]? = some (.cells C t fr) /\ ∀ i, i < n -> ∀ j, j < sz -> C[off + i * sz + j]? = some (f i j)
theorem ElemsI.mod {w w' : World} {v : Value} {n sz : Nat} {f : Nat -> Nat -> Value} (h : ElemsI w v n sz f) (hm : Mod none' w w') : ElemsI w' v n sz f := by
 rcases h with h | ⟨k, off, cap, C, t, fr, h1, h2, h3, h4, h5⟩
 ·exact .inl h
 ·exact .inr ⟨k, off, cap, C, t, fr, h1, h2, h3, hm.some h4 (fun f => f), h5⟩
theorem ElemsI.slice {w : World} {v : Value} {n sz : Nat} {f : Nat -> Nat -> Value} (h : ElemsI w v n sz f) : ∃ ao cap, v = .slice ao n cap := by
 rcases h with ⟨rfl, ao, cap, h⟩ | ⟨k, off, cap, C, t, fr, h1, _⟩
 ·exact ⟨ao, cap, h⟩
 ·exact ⟨_, cap, h1⟩
/-- a tree that came in -/
inductive TreeI (w : World) : (Nat -> Value) -> Tr -> Prop where
 | mk {c : Nat -> Value} {n : Int} {s : List UInt8} {null : Bool} {l : List Tr} {u : Tags} {f g : Nat -> Nat -> Value} (h0 : c 0 = .int .i64 n) (hn : fits .i64 n) (h1 : OctI w (c 1) s) (h2 : c 2 = .bool null)
   (h3 : ElemsI w (c 3) l.length 5 f) (h3' : ∀ i (h : i < l.length), TreeI w (f i) l[i]) (h4 : ElemsI w (c 4) u.length 2 g)
   (h4' : ∀ i (h : i < u.length), g i 0 = .int .u32 (u[i]).1 /\ fits .u32 (u[i]).1 /\ OctI w (g i 1) (u[i]).2) : TreeI w c (.mk n s null l u)
theorem TreeI.mod {w w' : World} {c : Nat -> Value} {t : Tr} (h : TreeI w c t) (hm : Mod none' w w') : TreeI w' c t := by
 induction h with
 | mk h0 hn h1 h2 h3 h3' h4 h4' ih => exact .mk h0 hn (h1.mod hm) h2 (h3.mod hm) (fun i hi => ih i hi) (h4.mod hm) (fun i hi => ⟨(h4' i hi).1, (h4' i hi).2.1, (h4' i hi).2.2.mod hm⟩)
theorem TreeI.congr {w : World} {c c' : Nat -> Value} {t : Tr} (h : TreeI w c t) (hc : ∀ j, j < 5 -> c' j = c j) : TreeI w c' t := by
 cases h with
 | mk h0 hn h1 h2 h3 h3' h4 h4' => exact .mk ((hc 0 (by omega)).trans h0) hn (by rw [hc 1 (by omega)]; exact h1) ((hc 2 (by omega)).trans h2) (by rw [hc 3 (by omega)]; exact h3) h3' (by rw [hc 4 (by omega)]; exact h4) h4'
theorem TreeI.one {w : World} {c : Nat -> Value} {t : Tr} (h : TreeI w c t) : ∀ j, j < 5 -> (c j).oneCell' = true := by
 cases h with
 | mk h0 hn h1 h2 h3 h3' h4 h4' =>
  intro j hj
  obtain ⟨a1, c1, e1, _⟩ := h1.slice
  obtain ⟨a3, c3, e3⟩ := h3.slice
  obtain ⟨a4, c4, e4⟩ := h4.slice
  rcases (by omega : j = 0 \/ j = 1 \/ j = 2 \/ j = 3 \/ j = 4) with rfl | rfl | rfl | rfl | rfl
  ·rw [h0]; rfl
  ·rw [e1]; rfl
  ·rw [h2]; rfl
  ·rw [e3]; rfl
  ·rw [e4]; rfl
theorem TreeI.zero (w : World) : TreeI w (from' #[.int .i64 0, .slice none 0 0, .bool false, .slice none 0 0, .slice none 0 0] 0) .zero :=
 .mk (f := fun _ _ => undef) (g := fun _ _ => undef) rfl (fits_zero _) (.inl ⟨rfl, _, _, rfl⟩) rfl (.inl ⟨rfl, _, _, rfl⟩) (fun i h => by simp at h) (.inl ⟨rfl, _, _, rfl⟩) (fun i h => by simp at h)
set_option maxHeartbeats 1000000 in
theorem whole_c' {w0 w : World} {v : Value} {bs : List UInt8} (h : OctI w0 v bs) : Calls Tryd.prog 68 #[v] w fun e w' => w = w' /\ ∃ v', e = .returned v' /\ OctI w0 v' (whole bs) := by
 obtain ⟨ao, cap, hv, hcap⟩ := h.slice
 have hw : (whole bs).length = min bs.length 32767 := by simp [whole]; omega
 have hmin : (if (32767 : Int) < (bs.length : Int) then (32767 : Int) else (bs.length : Int)) = ((whole bs).length : Nat) := by rw [hw]; split <;> omega
 refine calls_of_wp Tryd.func68 rfl ?_
 rw [Tryd.ntmps68]
 refine wp_act (fun a : Act => Act.get a 0 = v /\ a.tmps.size = 8 /\ a.defers = []) ⟨by rw [Zj _ _ _ (by simp)]; rfl, by simp, rfl⟩ ?_
 rintro a ⟨a0, aN, ad⟩
 refine wp_seq (wp_region_lit (Zv rfl Zi (wpList_nil ?_)))
 refine wp_seq (wp_region_lit (Zv rfl Zm (Zv rfl Zm (Zv rfl (x_len (by kernel_rfl) rfl (ao := ao) (cap := cap) (n := bs.length) ?_) (Zv rfl (x_min (k := .i64) (k' := .i64) (m := (bs.length : Nat)) (n := 32767) ?_ rfl)
  (Zv rfl (x_sliceH (e := 5) (sz := 1) (ao := ao) (n := bs.length) (cap := cap) (k := .i64) (m := (whole bs).length) (by kernel_rfl) ?_ ?_ ?_) (Zv rfl Zi (wpList_nil ?_))))))))
 ·simp (disch := first | omega | simp only [Zs]; omega) only [Zo, Ze, Zn, Zq, a0, hv]
 ·simp (disch := first | omega | simp only [Zs]; omega) only [Zo, Ze, Zn, Zq]
 ·simp (disch := first | omega | simp only [Zs]; omega) only [Zo, Ze, Zn, Zq, a0, hv]
 ·simp (disch := first | omega | simp only [Zs]; omega) only [Zo, Ze, Zn, Zq]
  rw [hmin]
 ·by_cases hb : bs = []
  ·subst hb; simp [whole]
  ·have := (hcap hb).1; omega
 refine wp_act (c := .ret) (fun a : Act => Act.get a 2 = .slice ao (whole bs).length cap /\ a.defers = []) ⟨?_, ?_⟩ ?_
 ·simp (disch := first | omega | simp only [Zs]; omega) only [Zo, Ze, Zn, Zq]
 ·simp only [Zd]; exact ad
 rintro a9 ⟨z0, zd⟩
 refine wp_ret (bodyPost_ret (results_tmp rfl _ _ _) zd ⟨rfl, .slice ao (whole bs).length cap, congrArg Ending.returned z0, ?_⟩)
 ·rcases h with ⟨rfl, _, _, _⟩ | ⟨sb, off, cap', c, t, fr, h1, h2, h3, h4, h5⟩
  ·exact .inl ⟨rfl, ao, cap, by simp [whole]⟩
  ·rw [hv] at h1
   obtain ⟨rfl, rfl⟩ : ao = some ⟨sb, off, none⟩ /\ cap = cap' := by simpa using h1
   exact .inr ⟨sb, off, cap, c, t, fr, rfl, by omega, h3, h4, fun i hi => by
    have hi' : i < bs.length := by omega
    rw [h5 i hi']
    simp [whole]⟩
theorem whole_c {w : World} {v : Value} {bs : List UInt8} (h : OctI w v bs) : Calls Tryd.prog 68 #[v] w fun e w' => w = w' /\ ∃ v', e = .returned v' /\ OctI w v' (whole bs) := whole_c' h
theorem width_c {w : World} {k : Int} : Calls Tryd.prog 103 #[.int .i64 k] w fun e w' => e = .returned (.int .i64 (width k)) /\ w = w' := by
 by_cases h1 : k = 1
 ·subst h1
  go_enter Tryd.func103, Tryd.ntmps103
  go_wp2
  go_ret
  exact ⟨rfl, rfl⟩
 by_cases h2 : k = 2
 ·subst h2
  go_enter Tryd.func103, Tryd.ntmps103
  go_wp2
  go_ret
  exact ⟨rfl, rfl⟩
 by_cases h3 : k = 5
 ·subst h3
  go_enter Tryd.func103, Tryd.ntmps103
  go_wp2
  go_ret
  exact ⟨rfl, rfl⟩
 by_cases h4 : k = 3
 ·subst h4
  go_enter Tryd.func103, Tryd.ntmps103
  go_wp2
  go_ret
  exact ⟨rfl, rfl⟩
 have e : width k = 8 := by simp [width, h1, h2, h3, h4]
 rw [e]
 go_enter Tryd.func103, Tryd.ntmps103
 go_wp2
 go_ret
 exact ⟨rfl, rfl⟩
/-- yes or no -/
def BoolPost (w : World) (p : Prop) (e : Ending) (w' : World) : Prop := ∃ b : Bool, e = .returned (.bool b) /\ (b = true ↔ p) /\ Mod none' w w'
theorem BoolPost.t {w w' : World} {p : Prop} {e : Ending} (h : p) (hm : Mod none' w w') (he : e = .returned (.bool true)) : BoolPost w p e w' := ⟨true, he, iff_of_true rfl h, hm⟩
theorem BoolPost.f {w w' : World} {p : Prop} {e : Ending} (h : ¬ p) (hm : Mod none' w w') (he : e = .returned (.bool false)) : BoolPost w p e w' := ⟨false, he, iff_of_false (by decide) h, hm⟩
theorem has_c {w : World} {k fr to nl g d o ver : Int} {sv : Value} : Calls Tryd.prog 61 #[.agg #[.int .i64 k, .int .i64 fr, .int .i64 to, .int .i64 nl, .int .i64 g, .int .i64 d, .int .i64 o, sv], .int .i64 ver] w (BoolPost w (fr <= ver /\ (to < 0 \/ ver <= to))) := by
 by_cases h1 : fr <= ver
 ·by_cases h2 : to < 0
  ·go_enter Tryd.func61, Tryd.ntmps61
   go_wp2
   go_ret
   exact BoolPost.t (by first | exact ⟨h1, .inl h2⟩ | exact .inl h2 | trivial) ((Mod.refl w).alloc _) rfl
  ·by_cases h3 : ver <= to
   ·go_enter Tryd.func61, Tryd.ntmps61
    go_wp2
    go_ret
    exact BoolPost.t (by first | exact ⟨h1, .inr h3⟩ | exact .inr h3 | exact h3 | trivial) ((Mod.refl w).alloc _) rfl
   ·go_enter Tryd.func61, Tryd.ntmps61
    go_wp2
    go_ret
    exact BoolPost.f (by intro h; first | omega | (rcases h with h | h <;> omega) | (obtain ⟨h4, h5⟩ := h; rcases h5 with h5 | h5 <;> omega)) ((Mod.refl w).alloc _) rfl
 ·go_enter Tryd.func61, Tryd.ntmps61
  go_wp2
  go_ret
  exact BoolPost.f (by intro h; first | omega | (rcases h with h | h <;> omega) | (obtain ⟨h4, h5⟩ := h; rcases h5 with h5 | h5 <;> omega)) ((Mod.refl w).alloc _) rfl
theorem null_c {w : World} {k fr to nl g d o ver n : Int} {sv s1 s3 s4 : Value} {z : Bool} : Calls Tryd.prog 99 #[.agg #[.int .i64 k, .int .i64 fr, .int .i64 to, .int .i64 nl, .int .i64 g, .int .i64 d, .int .i64 o, sv], .int .i64 ver, .agg #[.int .i64 n, s1, .bool z, s3, s4]] w (BoolPost w (z = true /\ 0 <= nl /\ nl <= ver)) := by
 cases z
 ·go_enter Tryd.func99, Tryd.ntmps99
  go_wp2
  go_ret
  exact BoolPost.f (fun h => by cases h.1) (((Mod.refl w).alloc _).alloc _) rfl
 ·by_cases h1 : 0 <= nl
  ·by_cases h2 : nl <= ver
   ·go_enter Tryd.func99, Tryd.ntmps99
    go_wp2
    go_ret
    exact BoolPost.t ⟨by trivial, by omega, by omega⟩ (((Mod.refl w).alloc _).alloc _) rfl
   ·go_enter Tryd.func99, Tryd.ntmps99
    go_wp2
    go_ret
    exact BoolPost.f (fun h => by omega) (((Mod.refl w).alloc _).alloc _) rfl
  ·go_enter Tryd.func99, Tryd.ntmps99
   go_wp2
   go_ret
   exact BoolPost.f (fun h => by omega) (((Mod.refl w).alloc _).alloc _) rfl
set_option maxRecDepth 100000 in
theorem counted_c {w : World} {flex nl : Bool} {n size : Nat} (hn : n <= 4294967295) (hs : size <= 8) : BytesC Tryd.prog 101 #[.bool flex, .bool nl, .int .i64 n, .int .i64 size] w (counted flex nl n size) := by
 have hU : BytesC Tryd.prog 66 #[.int .u64 ((n : Int) + 1)] w (uvE (n + 1)) := by
  rw [show ((n : Int) + 1) = ((n + 1 : Nat) : Int) by omega]; exact uv_c (by omega)
 have hF : BytesC Tryd.prog 22 #[.int .i64 n, .int .i64 size] w (fixedE n size) := fixed_c hs
 have hM : BytesC Tryd.prog 22 #[.int .i64 (-1), .int .i64 size] w (fixedE (-1) size) := fixed_c hs
 cases flex
 ·cases nl
  ·go_enter Tryd.func101, Tryd.ntmps101
   go_wp2_with (go_at_call 22; refine hF.mono ?_; rintro e w1 ⟨v, rfl, h1, h2⟩)
   go_ret
   exact ⟨v, rfl, h1, h2⟩
  ·go_enter Tryd.func101, Tryd.ntmps101
   go_wp2_with (go_at_call 22; refine hM.mono ?_; rintro e w1 ⟨v, rfl, h1, h2⟩)
   go_ret
   exact ⟨v, rfl, h1, h2⟩
 ·cases nl
  ·go_enter Tryd.func101, Tryd.ntmps101
   go_wp2_with (go_at_call 66; refine hU.mono ?_; rintro e w1 ⟨v, rfl, h1, h2⟩)
   go_ret
   exact ⟨v, rfl, h1, h2⟩
  ·go_enter Tryd.func101, Tryd.ntmps101
   go_wp2
   go_ret
   exact ⟨_, rfl, (Mod.refl w).alloc _, by simp [octV, counted], .inr ⟨w.heap.size, 1, _, rfl, Nat.le_refl _, Zh w _, by simp [counted], by simp [maxLen], rfl, rfl⟩⟩
end Go.Proofs.YtcldbjehliladaaDoor
