/-
  The reader of package spec: whether fields are told as they are by default.
-/
import Derived.Lib.Hide
import Derived.Test.YtpecdnfmlodmaaaGreatDoorRPWp
import Derived.Test.YtpecdnfmlodmaaaGreatDoorRPWn
set_option linter.unusedSimpArgs false
set_option linter.unusedVariables false
namespace Go.Proofs.YtpecdnfmlodmaaaGreatDoorR
open Go Go.RowKit
/-- a tree's cells, written out -/
theorem TreeI.lit {w : World} {cs : Array Value} {t : Tr} (hcs : cs.size = 5) (h : TreeI w (from' cs 0) t) : ∃ a1 c1 a3 c3 a4 c4, cs = #[.int .i64 t.N, .slice a1 t.S.length c1, .bool t.Z, .slice a3 t.L.length c3, .slice a4 t.U.length c4] /\ fits .i64 t.N /\ OctI w (.slice a1 t.S.length c1) t.S /\
  TreeI w (from' #[.int .i64 t.N, .slice a1 t.S.length c1, .bool t.Z, .slice a3 t.L.length c3, .slice a4 t.U.length c4] 0) t := by
 have h' := h
 have e5 := arr5 hcs
 cases h with
 | @mk _ n s z l u f g h0 hn h1 h2 h3 h3' h4 h4' =>
 obtain ⟨a1, c1, e1, _⟩ := h1.slice
 obtain ⟨a3, c3, e3⟩ := h3.slice
 obtain ⟨a4, c4, e4⟩ := h4.slice
 rw [h0, h2, e1, e3, e4] at e5
 rw [e5] at h'
 exact ⟨a1, c1, a3, c3, a4, c4, e5, hn, e1 ▸ h1, h'⟩
set_option maxRecDepth 100000 in
/-- 'x.N != number(f.Kind, f.Def)' -/
theorem usual_num {w : World} {a : Act} {b6 b7 : Nat} {kind dflt xn : Int} {F X : Array Value} {T6 T7 : TypeId} {id : Nat} {y0 y1 y2 y3 y4 y5 y6 y7 ya7 yb7 : TypeId} {p0 p1 p2 p3 p4 p5 p6 p7 : String} {ts6 : Array TypeId} (hN : a.tmps.size = 89) (hn : fits .i64 dflt) (hk : kind = 0 \/ kind = 1 \/ kind = 2 \/ kind = 3 \/ kind = 4 \/ kind = 5 \/ kind = 6)
  (g6 : Act.get a 6 = .pointer (some ⟨b6, 0, none⟩)) (g7 : Act.get a 7 = .pointer (some ⟨b7, 0, none⟩)) (h6 : w.heap[b6]? = some (.cells F T6 (0, 0))) (hF0 : F[0 + 0]? = some (.int .i64 kind)) (hF5 : F[0 + 5]? = some (.int .i64 dflt))
  (h7 : w.heap[b7]? = some (.cells X T7 (0, 0))) (hX : X[0 + 0]? = some (.int .i64 xn)) (hx : xn = numberW kind dflt) :
  (Code.region id #[⟨some 24, .fieldAddr 26 (.tmp 7) 0, y0, p0, #[], none⟩,
   ⟨some 25, .load 2 (.tmp 24), y1, p1, #[⟨0, .data⟩], none⟩,
   ⟨some 26, .fieldAddr 56 (.tmp 6) 0, y2, p2, #[], none⟩,
   ⟨some 27, .load 3 (.tmp 26), y3, p3, #[⟨2, .data⟩], none⟩,
   ⟨some 28, .fieldAddr 56 (.tmp 6) 5, y4, p4, #[], none⟩,
   ⟨some 29, .load 2 (.tmp 28), y5, p5, #[⟨4, .data⟩], none⟩,
   ⟨some 30, .call ⟨.value (.func 91), #[.tmp 27, .tmp 29], ts6⟩, y6, p6, #[⟨3, .data⟩, ⟨5, .data⟩], none⟩,
   ⟨some 31, .binOp .neq ya7 (.tmp 25) (.tmp 30) yb7, y7, p7, #[⟨1, .data⟩, ⟨6, .data⟩], none⟩] true).wp Tryz.prog
  (fun e a' w' => e = .normal /\ SameBut (fun t => t ∈ [24, 25, 26, 27, 28, 29, 30, 31]) a a' /\ Mod none' w w' /\ Act.get a' 31 = .bool false) a w := by
 subst hx
 refine region_rlq (l := [_, _, _, _, _, _, _]) (tl := [_]) rfl (Mod none') (fun a b h => h) (fun _ _ _ h h' => h.trans h') [24, 25, 26, 27, 28, 29, 30]
  [fun v _ => v = .pointer (some ⟨b7, 0 + 0, none⟩), fun v _ => v = .int .i64 (numberW kind dflt), fun v _ => v = .pointer (some ⟨b6, 0 + 0, none⟩), fun v _ => v = .int .i64 kind, fun v _ => v = .pointer (some ⟨b6, 0 + 5, none⟩), fun v _ => v = .int .i64 dflt]
  (fun v _ => v = .int .i64 (numberW kind dflt))
  ?_ ?_ (by simp [regFormT]) (by decide) (fun d hd => by rw [hN]; simp at hd; omega) (by simp) (by kernel_rfl) ⟨?_, ?_, ?_, ?_, ?_, ?_, ?_, trivial⟩ ?_
 ·intro g hg u1 w1 w2 hv hr
  simp only [List.mem_cons, List.not_mem_nil, or_false] at hg
  rcases hg with rfl | rfl | rfl | rfl | rfl | rfl
  ·exact hv
  ·exact hv
  ·exact hv
  ·exact hv
  ·exact hv
  ·exact hv
 ·intro u1 w1 w2 hv hr
  exact hv
 ·intro a1 w1 hr hp hs hd
  have t1 := (hs.get 7 (by decide)).trans g7
  exact Zw (Za (o := 0) (by kernel_rfl) (b := b7) (o0 := 0) (by rw [Ze]; exact t1)) ⟨_, rfl, relp_ne (by rfl) (.refl _), rfl⟩
 ·intro a1 w1 hr hp hs hd
  have t1 : Act.get a1 24 = .pointer (some ⟨b7, 0 + 0, none⟩) := hd ⟨0, .data⟩ (by simp) rfl
  have k1 := hr.some h7 (fun f => f)
  exact Zw (Zl (by kernel_rfl) (b := b7) (o := 0 + 0) (v := .int .i64 (numberW kind dflt)) (by rw [Ze]; exact t1) (by rw [Zc k1]; exact hX)) ⟨_, rfl, relp_ne (by rfl) (.refl _), rfl⟩
 ·intro a1 w1 hr hp hs hd
  have t1 := (hs.get 6 (by decide)).trans g6
  exact Zw (Za (o := 0) (by kernel_rfl) (b := b6) (o0 := 0) (by rw [Ze]; exact t1)) ⟨_, rfl, relp_ne (by rfl) (.refl _), rfl⟩
 ·intro a1 w1 hr hp hs hd
  have t1 : Act.get a1 26 = .pointer (some ⟨b6, 0 + 0, none⟩) := hd ⟨2, .data⟩ (by simp) rfl
  have k1 := hr.some h6 (fun f => f)
  exact Zw (Zl (by kernel_rfl) (b := b6) (o := 0 + 0) (v := .int .i64 kind) (by rw [Ze]; exact t1) (by rw [Zc k1]; exact hF0)) ⟨_, rfl, relp_ne (by rfl) (.refl _), rfl⟩
 ·intro a1 w1 hr hp hs hd
  have t1 := (hs.get 6 (by decide)).trans g6
  exact Zw (Za (o := 5) (by kernel_rfl) (b := b6) (o0 := 0) (by rw [Ze]; exact t1)) ⟨_, rfl, relp_ne (by rfl) (.refl _), rfl⟩
 ·intro a1 w1 hr hp hs hd
  have t1 : Act.get a1 28 = .pointer (some ⟨b6, 0 + 5, none⟩) := hd ⟨4, .data⟩ (by simp) rfl
  have k1 := hr.some h6 (fun f => f)
  exact Zw (Zl (by kernel_rfl) (b := b6) (o := 0 + 5) (v := .int .i64 dflt) (by rw [Ze]; exact t1) (by rw [Zc k1]; exact hF5)) ⟨_, rfl, relp_ne (by rfl) (.refl _), rfl⟩
 ·intro a1 w1 hr hp hs hd
  have t3 : Act.get a1 27 = .int .i64 kind := hd ⟨3, .data⟩ (by simp) rfl
  have t5 : Act.get a1 29 = .int .i64 dflt := hd ⟨5, .data⟩ (by simp) rfl
  have e1 : (#[.tmp 27, .tmp 29] : Array Operand).map a1.eval = #[.int .i64 kind, .int .i64 dflt] := by simp [Ze, t3, t5]
  refine owp_call (Zy (by kernel_rfl) rfl) (by rw [e1]; exact number_c hn hk) ?_
  rintro e w2 ⟨rfl, rfl⟩
  exact ⟨_, rfl, _, rfl, relp_eq (.refl _), rfl⟩
 ·intro a1 w1 hr hs hh
  have q1 : Act.get a1 25 = .int .i64 (numberW kind dflt) := hh 1 (by simp)
  have q6 : Act.get a1 30 = .int .i64 (numberW kind dflt) := hh 6 (by simp)
  refine Zv rfl (x_neqIs (k := .i64) (m := numberW kind dflt) (by rw [Ze]; exact q1) (by rw [Ze]; exact q6)) (wpList_nil ⟨rfl, (hs.sub (by decide)).puts (by decide) _, hr, ?_⟩)
  rw [Zq (by rw [hs.size, hN]; decide)]
theorem OctS.mod {w w' : World} {v : Value} {s : List UInt8} (h : OctS w v s) (hm : Mod none' w w') : OctS w' v s := by
 obtain ⟨ao, cap, h1, h2, h3⟩ := h
 refine ⟨ao, cap, h1, h2, fun hp => ?_⟩
 obtain ⟨sb, off, c, t, fr, q1, q2, q3⟩ := h3 hp
 exact ⟨sb, off, c, t, fr, q1, hm.some q2 (fun f => f), q3⟩
set_option maxRecDepth 100000 in
/-- '!Same(x.S, make([]byte, 16))' -/
theorem usual_uuid {w : World} {a : Act} {b7 : Nat} {X : Array Value} {sv : Value} {T7 : TypeId} {id : Nat} {y0 y1 y2 y3 y4 ya4 : TypeId} {p0 p1 p2 p3 p4 : String} {ts3 : Array TypeId} (hN : a.tmps.size = 89)
  (g7 : Act.get a 7 = .pointer (some ⟨b7, 0, none⟩)) (h7 : w.heap[b7]? = some (.cells X T7 (0, 0))) (hX : X[0 + 1]? = some sv) (hS : OctI w sv (List.replicate 16 0)) :
  (Code.region id #[⟨some 48, .fieldAddr 26 (.tmp 7) 1, y0, p0, #[], none⟩,
   ⟨some 49, .load 22 (.tmp 48), y1, p1, #[⟨0, .data⟩], none⟩,
   ⟨some 50, .makeSlice 22 (.const (.int .i64 16)) (.const (.int .i64 16)), y2, p2, #[], none⟩,
   ⟨some 51, .call ⟨.value (.func 42), #[.tmp 49, .tmp 50], ts3⟩, y3, p3, #[⟨1, .data⟩, ⟨2, .data⟩], none⟩,
   ⟨some 52, .unOp .not ya4 (.tmp 51), y4, p4, #[⟨3, .data⟩], none⟩] true).wp Tryz.prog
  (fun e a' w' => e = .normal /\ SameBut (fun t => t ∈ [48, 49, 50, 51, 52]) a a' /\ Mod none' w w' /\ Act.get a' 52 = .bool false) a w := by
 refine region_rlq (l := [_, _, _, _]) (tl := [_]) rfl (Mod none') (fun a b h => h) (fun _ _ _ h h' => h.trans h') [48, 49, 50, 51]
  [fun v _ => v = .pointer (some ⟨b7, 0 + 1, none⟩), fun v _ => v = sv, fun v w' => OctS w' v (List.replicate 16 0)]
  (fun v _ => v = .bool true)
  ?_ ?_ (by simp [regFormT]) (by decide) (fun d hd => by rw [hN]; simp at hd; omega) (by simp) (by kernel_rfl) ⟨?_, ?_, ?_, ?_, trivial⟩ ?_
 ·intro g hg u1 w1 w2 hv hr
  simp only [List.mem_cons, List.not_mem_nil, or_false] at hg
  rcases hg with rfl | rfl | rfl
  ·exact hv
  ·exact hv
  ·exact hv.mod hr
 ·intro u1 w1 w2 hv hr
  exact hv
 ·intro a1 w1 hr hp hs hd
  have t1 := (hs.get 7 (by decide)).trans g7
  exact Zw (Za (o := 1) (by kernel_rfl) (b := b7) (o0 := 0) (by rw [Ze]; exact t1)) ⟨_, rfl, relp_ne (by rfl) (.refl _), rfl⟩
 ·intro a1 w1 hr hp hs hd
  have t1 : Act.get a1 48 = .pointer (some ⟨b7, 0 + 1, none⟩) := hd ⟨0, .data⟩ (by simp) rfl
  have k1 := hr.some h7 (fun f => f)
  exact Zw (Zl (by kernel_rfl) (b := b7) (o := 0 + 1) (v := sv) (by rw [Ze]; exact t1) (by rw [Zc k1]; exact hX)) ⟨_, rfl, relp_ne (by rfl) (.refl _), rfl⟩
 ·intro a1 w1 hr hp hs hd
  have h16 := make16 w1
  refine Zw (v := .slice (some ⟨w1.heap.size, 0, none⟩) 16 16) (w' := w1.alloc (.cells (Array.replicate 16 (.int .u8 0)) 5)) (by simp [execOp, h16, BigFrame.eval_const]) ⟨_, rfl, relp_ne (by rfl) ((Mod.refl _).alloc _), ?_⟩
  exact OctI.s (.inr ⟨w1.heap.size, 0, 16, _, _, (0, 0), rfl, by simp, by simp [maxLen], Zh w1 _, fun i hi => by rw [List.getElem_replicate]; simp at hi; simp [hi]⟩)
 ·intro a1 w1 hr hp hs hd
  have t1 : Act.get a1 49 = sv := hd ⟨1, .data⟩ (by simp) rfl
  have t2 : OctS w1 (Act.get a1 50) (List.replicate 16 0) := hd ⟨2, .data⟩ (by simp) rfl
  have e1 : (#[.tmp 49, .tmp 50] : Array Operand).map a1.eval = #[sv, Act.get a1 50] := by simp [Ze, t1]
  refine owp_call (Zy (by kernel_rfl) rfl) (by rw [e1]; exact same_octs ((hS.mod hr).s) t2) ?_
  rintro e w2 ⟨rfl, hm⟩
  exact ⟨_, rfl, _, rfl, relp_eq hm, rfl⟩
 ·intro a1 w1 hr hs hh
  have q3 : Act.get a1 51 = .bool true := hh 3 (by simp)
  refine Zv rfl (x_notV (b := true) (c := false) (by rw [Ze]; exact q3) rfl) (wpList_nil ⟨rfl, (hs.sub (by decide)).puts (by decide) _, hr, ?_⟩)
  rw [Zq (by rw [hs.size, hN]; decide)]
/-- the parts of a part are told as they are by default -/
theorem usualsW_at : ∀ {fs : List FD} {l : List Tr}, usualsW fs l = true -> l.length = fs.length /\ ∀ i (h : i < fs.length), usualW fs[i] (l.getD i .zero) = true
 | [], l, h => by
  have : l = [] := by simpa [usualsW] using h
  subst this
  exact ⟨rfl, fun i hi => by simp at hi⟩
 | f :: r, [], h => by simp [usualsW] at h
 | f :: r, x :: xs, h => by
  simp only [usualsW, Bool.and_eq_true] at h
  obtain ⟨h1, h2⟩ := usualsW_at h.2
  refine ⟨by simp [h1], fun i hi => ?_⟩
  cases i with
  | zero => exact h.1
  | succ i => simpa using h2 i (by simpa using hi)
mutual
/-- the defaults are numbers of the program -/
def FD.dok : FD -> Bool
 | .mk _ _ _ _ _ dflt _ sub => decide (-9223372036854775808 <= dflt) && decide (dflt <= 9223372036854775807) && dokL sub
def dokL : List FD -> Bool
 | [] => true
 | f :: r => f.dok && dokL r
end
def UsualC (v : Value) (cx : Array Value) (w : World) : Prop := Calls Tryz.prog 55 #[v, .agg cx] w fun e w' => e = .returned (.bool true) /\ Mod none' w w'
/-- of a field: it is told as it is by default -/
def UsualOk (f : FD) : Prop := f.kind = 10 -> ∀ w sv cx x, FdsI w sv f.sub -> cx.size = 5 -> TreeI w (from' cx 0) x -> x.U = [] -> usualsW f.sub x.L = true -> UsualC sv cx w
theorem mem_dok : ∀ {fs : List FD}, dokL fs = true -> ∀ f ∈ fs, f.dok = true
 | [], _, f, hf => by simp at hf
 | g :: r, h, f, hf => by
  simp only [dokL, Bool.and_eq_true] at h
  rcases List.mem_cons.1 hf with rfl | hf
  ·exact h.1
  ·exact mem_dok h.2 f hf
set_option maxRecDepth 100000 in
set_option maxHeartbeats 8000000 in
theorem usual_c {w : World} {v : Value} {cx : Array Value} {fs : List FD} {x : Tr} (hok : ∀ f ∈ fs, UsualOk f) (hpl : ∀ f ∈ fs, f.plain = true /\ f.dok = true) (hf : FdsI w v fs) (hcx : cx.size = 5) (hx : TreeI w (from' cx 0) x) (hU : x.U = []) (hu : usualsW fs x.L = true) : UsualC v cx w := by
 obtain ⟨a1, c1, a3, c3, a4, c4, rfl, hfit, ho, hx'⟩ := TreeI.lit hcx hx
 rw [hU] at hx' ⊢
 obtain ⟨hul, hua⟩ := usualsW_at hu
 obtain ⟨ao, cap, rfl⟩ := hf.slice
 have hfl := hf.len
 unfold UsualC
 have HUA := Lib.hid hua
 have HU := Lib.hid hU
 have HUL := Lib.hid hul
 clear hx hcx hU hu hua hul
 go_enter Tryz.func55, Tryz.ntmps55
 go_wp2
 go_loopw [14] (fun i wr => ∃ k : Nat, k <= fs.length /\ i = .int .i64 k /\ Mod none' (w.alloc (.cells #[.int .i64 x.N, .slice a1 x.S.length c1, .bool x.Z, .slice a3 x.L.length c3, .slice a4 0 c4] 26)) wr) (fun i _ => fs.length - (Go.RowKit.intOf i).toNat)
 case atStart => exact ⟨0, by omega, rfl, .refl _⟩
 case round =>
  obtain ⟨k, hk, rfl, hm0⟩ := hrel
  have hm : Mod none' w wr := ((Mod.refl w).alloc _).trans hm0
  by_cases hlt : k < fs.length
  ·have hB := hm0.some (Zh w _) (fun f => f)
   have b0 : wr.cell? ⟨w.heap.size, 0, none⟩ = some (.int .i64 x.N) := (Zc hB).trans rfl
   have b1 : wr.cell? ⟨w.heap.size, 1, none⟩ = some (.slice a1 x.S.length c1) := (Zc hB).trans rfl
   have b2 : wr.cell? ⟨w.heap.size, 2, none⟩ = some (.bool x.Z) := (Zc hB).trans rfl
   have b3 : wr.cell? ⟨w.heap.size, 3, none⟩ = some (.slice a3 x.L.length c3) := (Zc hB).trans rfl
   have b4 : wr.cell? ⟨w.heap.size, 4, none⟩ = some (.slice a4 0 c4) := (Zc hB).trans rfl
   have hui := HUA.out k hlt
   obtain ⟨hplain, hdok⟩ := hpl _ (List.getElem_mem hlt)
   have hoki := hok _ (List.getElem_mem hlt)
   obtain ⟨_, kb, off, sa, sn, sc, rfl, C, Tk, fr', hC, hcells, hsub⟩ := (hf.mod hm).at' hlt
   generalize fs[k] = fd at *
   obtain ⟨kd, fr, to, nl, g, d, o, sub⟩ := fd
   have f0 : wr.cell? ⟨kb, off + k * 8, none⟩ = some (.int .i64 kd) := by rw [Zc hC]; exact hcells 0 _ rfl
   have f1 : wr.cell? ⟨kb, off + k * 8 + 1, none⟩ = some (.int .i64 fr) := by rw [Zc hC]; exact hcells 1 _ rfl
   have f2 : wr.cell? ⟨kb, off + k * 8 + 2, none⟩ = some (.int .i64 to) := by rw [Zc hC]; exact hcells 2 _ rfl
   have f3 : wr.cell? ⟨kb, off + k * 8 + 3, none⟩ = some (.int .i64 nl) := by rw [Zc hC]; exact hcells 3 _ rfl
   have f4 : wr.cell? ⟨kb, off + k * 8 + 4, none⟩ = some (.int .i64 g) := by rw [Zc hC]; exact hcells 4 _ rfl
   have f5 : wr.cell? ⟨kb, off + k * 8 + 5, none⟩ = some (.int .i64 d) := by rw [Zc hC]; exact hcells 5 _ rfl
   have f6 : wr.cell? ⟨kb, off + k * 8 + 6, none⟩ = some (.int .i64 o) := by rw [Zc hC]; exact hcells 6 _ rfl
   have f7 : wr.cell? ⟨kb, off + k * 8 + 7, none⟩ = some (.slice sa sn sc) := by rw [Zc hC]; exact hcells 7 _ rfl
   have hws : w.heap.size < wr.heap.size := by have := hm0.size; simp at this; omega
   have HB := Lib.hid hB
   have HS := Lib.hid hui
   clear hC hcells hB hui
   simp only [FD.plain, Bool.and_eq_true, Bool.or_eq_true, decide_eq_true_eq] at hplain
   simp only [FD.dok, Bool.and_eq_true, decide_eq_true_eq] at hdok
   have hfd : fits .i64 d := by simp [fits, IntKind.min, IntKind.max, IntKind.signed, IntKind.bits]; omega
   obtain ⟨htag, hkd⟩ := hplain
   clear hdok hok hpl hf
   obtain ⟨xi, hxi⟩ : ∃ xi, x.L.getD k .zero = xi := ⟨_, rfl⟩
   have HXI := Lib.hid hxi
   have hs2 := HS.out
   rw [hxi] at hs2
   have HS2 := Lib.hid hs2
   clear HS hxi hs2
   rcases hkd with (hkd | ⟨rfl, hp⟩) | ⟨rfl, hoo⟩
   ·simp only [leafK, Bool.or_eq_true, beq_iff_eq] at hkd
    rcases hkd with ((((((((rfl | rfl) | rfl) | rfl) | rfl) | rfl) | rfl) | rfl) | rfl) | rfl
    ·have HN := Lib.hid (show xi.N = numberW 0 d by have := HS2.out; simpa [usualW, leafUsual] using this)
     go_wp2_with (first | (go_at_call 51; refine (at_c (hm.trans (((Mod.refl wr).alloc _))) rfl hx').mono ?_; rintro e w2 ⟨hm2, cs2, rfl, hcs2, ht2⟩; rw [HXI.out] at ht2; obtain ⟨a5, c5, a6, c6, a7, c7, rfl, hxn, hxo, ht3⟩ := TreeI.lit hcs2 ht2; clear hcs2 ht2; have hA : w2.heap[wr.heap.size]? = some (.cells #[.int .i64 0, .int .i64 fr, .int .i64 to, .int .i64 nl, .int .i64 g, .int .i64 d, .int .i64 o, .slice sa sn sc] 56 (0, 0)) := hm2.some (Zh wr _) (fun f => f); have p0 : w2.cell? ⟨wr.heap.size, 0, none⟩ = some (.int .i64 0) := (Zc hA).trans rfl; have p3 : w2.cell? ⟨wr.heap.size, 3, none⟩ = some (.int .i64 nl) := (Zc hA).trans rfl; have p7 : w2.cell? ⟨wr.heap.size, 7, none⟩ = some (.slice sa sn sc) := (Zc hA).trans rfl; have hws2 : wr.heap.size < w2.heap.size := (by have := hm2.size; simp at this; omega); have HA := Lib.hid hA; clear hA))
     rename_i K hK
     refine wp_mono (usual_num (b6 := wr.heap.size) (b7 := w2.heap.size) (kind := 0) (dflt := d) (xn := xi.N) rfl hfd (by omega) rfl rfl ((heap_alloc_old (by omega) _).trans HA.out) rfl rfl (Zh w2 _) rfl HN.out) ?_
     rintro e a' w4 ⟨rfl, hs4, hm4, h31⟩
     refine hK a' w4 ?_
     have e := hs4.eq
     simp only [List.foldl] at e
     rw [h31] at e
     rw [e]
     generalize Act.get a' 24 = v24, Act.get a' 25 = v25, Act.get a' 26 = v26, Act.get a' 27 = v27, Act.get a' 28 = v28, Act.get a' 29 = v29, Act.get a' 30 = v30
     clear e hs4 h31
     simp only [Act.put, List.setIfInBounds_toArray, List.set_cons_succ, List.set_cons_zero]
     have hm5 := (hm0.trans ((Mod.refl wr).alloc _)).trans (hm2.trans (((Mod.refl w2).alloc _).trans hm4))
     go_wp2
     go_roundw
     case rel => exact ⟨k + 1, by omega, by go_num, hm5⟩
     case measure => first | omega | (simp [Go.RowKit.intOf]; omega)
    ·have HN := Lib.hid (show xi.N = numberW 1 d by have := HS2.out; simpa [usualW, leafUsual] using this)
     go_wp2_with (first | (go_at_call 51; refine (at_c (hm.trans (((Mod.refl wr).alloc _))) rfl hx').mono ?_; rintro e w2 ⟨hm2, cs2, rfl, hcs2, ht2⟩; rw [HXI.out] at ht2; obtain ⟨a5, c5, a6, c6, a7, c7, rfl, hxn, hxo, ht3⟩ := TreeI.lit hcs2 ht2; clear hcs2 ht2; have hA : w2.heap[wr.heap.size]? = some (.cells #[.int .i64 1, .int .i64 fr, .int .i64 to, .int .i64 nl, .int .i64 g, .int .i64 d, .int .i64 o, .slice sa sn sc] 56 (0, 0)) := hm2.some (Zh wr _) (fun f => f); have p0 : w2.cell? ⟨wr.heap.size, 0, none⟩ = some (.int .i64 1) := (Zc hA).trans rfl; have p3 : w2.cell? ⟨wr.heap.size, 3, none⟩ = some (.int .i64 nl) := (Zc hA).trans rfl; have p7 : w2.cell? ⟨wr.heap.size, 7, none⟩ = some (.slice sa sn sc) := (Zc hA).trans rfl; have hws2 : wr.heap.size < w2.heap.size := (by have := hm2.size; simp at this; omega); have HA := Lib.hid hA; clear hA))
     rename_i K hK
     refine wp_mono (usual_num (b6 := wr.heap.size) (b7 := w2.heap.size) (kind := 1) (dflt := d) (xn := xi.N) rfl hfd (by omega) rfl rfl ((heap_alloc_old (by omega) _).trans HA.out) rfl rfl (Zh w2 _) rfl HN.out) ?_
     rintro e a' w4 ⟨rfl, hs4, hm4, h31⟩
     refine hK a' w4 ?_
     have e := hs4.eq
     simp only [List.foldl] at e
     rw [h31] at e
     rw [e]
     generalize Act.get a' 24 = v24, Act.get a' 25 = v25, Act.get a' 26 = v26, Act.get a' 27 = v27, Act.get a' 28 = v28, Act.get a' 29 = v29, Act.get a' 30 = v30
     clear e hs4 h31
     simp only [Act.put, List.setIfInBounds_toArray, List.set_cons_succ, List.set_cons_zero]
     have hm5 := (hm0.trans ((Mod.refl wr).alloc _)).trans (hm2.trans (((Mod.refl w2).alloc _).trans hm4))
     go_wp2
     go_roundw
     case rel => exact ⟨k + 1, by omega, by go_num, hm5⟩
     case measure => first | omega | (simp [Go.RowKit.intOf]; omega)
    ·have HN := Lib.hid (show xi.N = numberW 2 d by have := HS2.out; simpa [usualW, leafUsual] using this)
     go_wp2_with (first | (go_at_call 51; refine (at_c (hm.trans (((Mod.refl wr).alloc _))) rfl hx').mono ?_; rintro e w2 ⟨hm2, cs2, rfl, hcs2, ht2⟩; rw [HXI.out] at ht2; obtain ⟨a5, c5, a6, c6, a7, c7, rfl, hxn, hxo, ht3⟩ := TreeI.lit hcs2 ht2; clear hcs2 ht2; have hA : w2.heap[wr.heap.size]? = some (.cells #[.int .i64 2, .int .i64 fr, .int .i64 to, .int .i64 nl, .int .i64 g, .int .i64 d, .int .i64 o, .slice sa sn sc] 56 (0, 0)) := hm2.some (Zh wr _) (fun f => f); have p0 : w2.cell? ⟨wr.heap.size, 0, none⟩ = some (.int .i64 2) := (Zc hA).trans rfl; have p3 : w2.cell? ⟨wr.heap.size, 3, none⟩ = some (.int .i64 nl) := (Zc hA).trans rfl; have p7 : w2.cell? ⟨wr.heap.size, 7, none⟩ = some (.slice sa sn sc) := (Zc hA).trans rfl; have hws2 : wr.heap.size < w2.heap.size := (by have := hm2.size; simp at this; omega); have HA := Lib.hid hA; clear hA))
     rename_i K hK
     refine wp_mono (usual_num (b6 := wr.heap.size) (b7 := w2.heap.size) (kind := 2) (dflt := d) (xn := xi.N) rfl hfd (by omega) rfl rfl ((heap_alloc_old (by omega) _).trans HA.out) rfl rfl (Zh w2 _) rfl HN.out) ?_
     rintro e a' w4 ⟨rfl, hs4, hm4, h31⟩
     refine hK a' w4 ?_
     have e := hs4.eq
     simp only [List.foldl] at e
     rw [h31] at e
     rw [e]
     generalize Act.get a' 24 = v24, Act.get a' 25 = v25, Act.get a' 26 = v26, Act.get a' 27 = v27, Act.get a' 28 = v28, Act.get a' 29 = v29, Act.get a' 30 = v30
     clear e hs4 h31
     simp only [Act.put, List.setIfInBounds_toArray, List.set_cons_succ, List.set_cons_zero]
     have hm5 := (hm0.trans ((Mod.refl wr).alloc _)).trans (hm2.trans (((Mod.refl w2).alloc _).trans hm4))
     go_wp2
     go_roundw
     case rel => exact ⟨k + 1, by omega, by go_num, hm5⟩
     case measure => first | omega | (simp [Go.RowKit.intOf]; omega)
    ·have HN := Lib.hid (show xi.N = numberW 3 d by have := HS2.out; simpa [usualW, leafUsual] using this)
     go_wp2_with (first | (go_at_call 51; refine (at_c (hm.trans (((Mod.refl wr).alloc _))) rfl hx').mono ?_; rintro e w2 ⟨hm2, cs2, rfl, hcs2, ht2⟩; rw [HXI.out] at ht2; obtain ⟨a5, c5, a6, c6, a7, c7, rfl, hxn, hxo, ht3⟩ := TreeI.lit hcs2 ht2; clear hcs2 ht2; have hA : w2.heap[wr.heap.size]? = some (.cells #[.int .i64 3, .int .i64 fr, .int .i64 to, .int .i64 nl, .int .i64 g, .int .i64 d, .int .i64 o, .slice sa sn sc] 56 (0, 0)) := hm2.some (Zh wr _) (fun f => f); have p0 : w2.cell? ⟨wr.heap.size, 0, none⟩ = some (.int .i64 3) := (Zc hA).trans rfl; have p3 : w2.cell? ⟨wr.heap.size, 3, none⟩ = some (.int .i64 nl) := (Zc hA).trans rfl; have p7 : w2.cell? ⟨wr.heap.size, 7, none⟩ = some (.slice sa sn sc) := (Zc hA).trans rfl; have hws2 : wr.heap.size < w2.heap.size := (by have := hm2.size; simp at this; omega); have HA := Lib.hid hA; clear hA))
     rename_i K hK
     refine wp_mono (usual_num (b6 := wr.heap.size) (b7 := w2.heap.size) (kind := 3) (dflt := d) (xn := xi.N) rfl hfd (by omega) rfl rfl ((heap_alloc_old (by omega) _).trans HA.out) rfl rfl (Zh w2 _) rfl HN.out) ?_
     rintro e a' w4 ⟨rfl, hs4, hm4, h31⟩
     refine hK a' w4 ?_
     have e := hs4.eq
     simp only [List.foldl] at e
     rw [h31] at e
     rw [e]
     generalize Act.get a' 24 = v24, Act.get a' 25 = v25, Act.get a' 26 = v26, Act.get a' 27 = v27, Act.get a' 28 = v28, Act.get a' 29 = v29, Act.get a' 30 = v30
     clear e hs4 h31
     simp only [Act.put, List.setIfInBounds_toArray, List.set_cons_succ, List.set_cons_zero]
     have hm5 := (hm0.trans ((Mod.refl wr).alloc _)).trans (hm2.trans (((Mod.refl w2).alloc _).trans hm4))
     go_wp2
     go_roundw
     case rel => exact ⟨k + 1, by omega, by go_num, hm5⟩
     case measure => first | omega | (simp [Go.RowKit.intOf]; omega)
    ·have HN := Lib.hid (show xi.N = numberW 4 d by have := HS2.out; simpa [usualW, leafUsual] using this)
     go_wp2_with (first | (go_at_call 51; refine (at_c (hm.trans (((Mod.refl wr).alloc _))) rfl hx').mono ?_; rintro e w2 ⟨hm2, cs2, rfl, hcs2, ht2⟩; rw [HXI.out] at ht2; obtain ⟨a5, c5, a6, c6, a7, c7, rfl, hxn, hxo, ht3⟩ := TreeI.lit hcs2 ht2; clear hcs2 ht2; have hA : w2.heap[wr.heap.size]? = some (.cells #[.int .i64 4, .int .i64 fr, .int .i64 to, .int .i64 nl, .int .i64 g, .int .i64 d, .int .i64 o, .slice sa sn sc] 56 (0, 0)) := hm2.some (Zh wr _) (fun f => f); have p0 : w2.cell? ⟨wr.heap.size, 0, none⟩ = some (.int .i64 4) := (Zc hA).trans rfl; have p3 : w2.cell? ⟨wr.heap.size, 3, none⟩ = some (.int .i64 nl) := (Zc hA).trans rfl; have p7 : w2.cell? ⟨wr.heap.size, 7, none⟩ = some (.slice sa sn sc) := (Zc hA).trans rfl; have hws2 : wr.heap.size < w2.heap.size := (by have := hm2.size; simp at this; omega); have HA := Lib.hid hA; clear hA))
     rename_i K hK
     refine wp_mono (usual_num (b6 := wr.heap.size) (b7 := w2.heap.size) (kind := 4) (dflt := d) (xn := xi.N) rfl hfd (by omega) rfl rfl ((heap_alloc_old (by omega) _).trans HA.out) rfl rfl (Zh w2 _) rfl HN.out) ?_
     rintro e a' w4 ⟨rfl, hs4, hm4, h31⟩
     refine hK a' w4 ?_
     have e := hs4.eq
     simp only [List.foldl] at e
     rw [h31] at e
     rw [e]
     generalize Act.get a' 24 = v24, Act.get a' 25 = v25, Act.get a' 26 = v26, Act.get a' 27 = v27, Act.get a' 28 = v28, Act.get a' 29 = v29, Act.get a' 30 = v30
     clear e hs4 h31
     simp only [Act.put, List.setIfInBounds_toArray, List.set_cons_succ, List.set_cons_zero]
     have hm5 := (hm0.trans ((Mod.refl wr).alloc _)).trans (hm2.trans (((Mod.refl w2).alloc _).trans hm4))
     go_wp2
     go_roundw
     case rel => exact ⟨k + 1, by omega, by go_num, hm5⟩
     case measure => first | omega | (simp [Go.RowKit.intOf]; omega)
    ·have HN := Lib.hid (show xi.S = List.replicate 16 0 by have := HS2.out; simpa [usualW, leafUsual] using this)
     go_wp2_with (first | (go_at_call 51; refine (at_c (hm.trans (((Mod.refl wr).alloc _))) rfl hx').mono ?_; rintro e w2 ⟨hm2, cs2, rfl, hcs2, ht2⟩; rw [HXI.out] at ht2; obtain ⟨a5, c5, a6, c6, a7, c7, rfl, hxn, hxo, ht3⟩ := TreeI.lit hcs2 ht2; clear hcs2 ht2; have hA : w2.heap[wr.heap.size]? = some (.cells #[.int .i64 7, .int .i64 fr, .int .i64 to, .int .i64 nl, .int .i64 g, .int .i64 d, .int .i64 o, .slice sa sn sc] 56 (0, 0)) := hm2.some (Zh wr _) (fun f => f); have p0 : w2.cell? ⟨wr.heap.size, 0, none⟩ = some (.int .i64 7) := (Zc hA).trans rfl; have p3 : w2.cell? ⟨wr.heap.size, 3, none⟩ = some (.int .i64 nl) := (Zc hA).trans rfl; have p7 : w2.cell? ⟨wr.heap.size, 7, none⟩ = some (.slice sa sn sc) := (Zc hA).trans rfl; have hws2 : wr.heap.size < w2.heap.size := (by have := hm2.size; simp at this; omega); have HA := Lib.hid hA; clear hA))
     rename_i K hK
     refine wp_mono (usual_uuid (b7 := w2.heap.size) (sv := .slice a5 xi.S.length c5) rfl rfl (Zh w2 _) rfl ?_) ?_
     ·have h9 := hxo.mod ((((hm.trans ((Mod.refl wr).alloc _)).trans hm2).trans ((Mod.refl w2).alloc (.cells #[.int .i64 xi.N, .slice a5 xi.S.length c5, .bool xi.Z, .slice a6 xi.L.length c6, .slice a7 xi.U.length c7] 26))))
      rw [HN.out] at h9 ⊢
      exact h9
     rintro e a' w4 ⟨rfl, hs4, hm4, h52⟩
     refine hK a' w4 ?_
     have e := hs4.eq
     simp only [List.foldl] at e
     rw [h52] at e
     rw [e]
     generalize Act.get a' 48 = v48, Act.get a' 49 = v49, Act.get a' 50 = v50, Act.get a' 51 = v51
     clear e hs4 h52
     simp only [Act.put, List.setIfInBounds_toArray, List.set_cons_succ, List.set_cons_zero]
     have hm5 := (hm0.trans ((Mod.refl wr).alloc _)).trans (hm2.trans (((Mod.refl w2).alloc _).trans hm4))
     go_wp2
     go_roundw
     case rel => exact ⟨k + 1, by omega, by go_num, hm5⟩
     case measure => first | omega | (simp [Go.RowKit.intOf]; omega)
    ·have hs2 := HS2.out
     by_cases hnl : 0 <= nl
     ·have hZ : xi.Z = true /\ xi.S = [] := by simpa [usualW, leafUsual, hnl] using hs2
      obtain ⟨hZ, hS0⟩ := hZ
      have hSl : xi.S.length = 0 := by rw [hS0]; rfl
      clear hs2 hS0 HS2
      go_wp2_with (first | (go_at_call 51; refine (at_c (hm.trans (((Mod.refl wr).alloc _))) rfl hx').mono ?_; rintro e w2 ⟨hm2, cs2, rfl, hcs2, ht2⟩; rw [HXI.out] at ht2; obtain ⟨a5, c5, a6, c6, a7, c7, rfl, hxn, hxo, ht3⟩ := TreeI.lit hcs2 ht2; clear hcs2 ht2; have hA : w2.heap[wr.heap.size]? = some (.cells #[.int .i64 8, .int .i64 fr, .int .i64 to, .int .i64 nl, .int .i64 g, .int .i64 d, .int .i64 o, .slice sa sn sc] 56 (0, 0)) := hm2.some (Zh wr _) (fun f => f); have p0 : w2.cell? ⟨wr.heap.size, 0, none⟩ = some (.int .i64 8) := (Zc hA).trans rfl; have p3 : w2.cell? ⟨wr.heap.size, 3, none⟩ = some (.int .i64 nl) := (Zc hA).trans rfl; have p7 : w2.cell? ⟨wr.heap.size, 7, none⟩ = some (.slice sa sn sc) := (Zc hA).trans rfl; have hws2 : wr.heap.size < w2.heap.size := (by have := hm2.size; simp at this; omega); have HA := Lib.hid hA; clear hA))
      go_roundw
      case rel => exact ⟨k + 1, by omega, by go_num, (hm0.trans ((Mod.refl wr).alloc _)).trans (hm2.trans ((Mod.refl w2).alloc _))⟩
      case measure => first | omega | (simp [Go.RowKit.intOf]; omega)
     ·have hnl' : nl < 0 := by omega
      have hZ : xi.Z = false /\ xi.S = [] := by simpa [usualW, leafUsual, hnl] using hs2
      obtain ⟨hZ, hS0⟩ := hZ
      have hSl : xi.S.length = 0 := by rw [hS0]; rfl
      clear hs2 hS0 HS2 hnl
      go_wp2_with (first | (go_at_call 51; refine (at_c (hm.trans (((Mod.refl wr).alloc _))) rfl hx').mono ?_; rintro e w2 ⟨hm2, cs2, rfl, hcs2, ht2⟩; rw [HXI.out] at ht2; obtain ⟨a5, c5, a6, c6, a7, c7, rfl, hxn, hxo, ht3⟩ := TreeI.lit hcs2 ht2; clear hcs2 ht2; have hA : w2.heap[wr.heap.size]? = some (.cells #[.int .i64 8, .int .i64 fr, .int .i64 to, .int .i64 nl, .int .i64 g, .int .i64 d, .int .i64 o, .slice sa sn sc] 56 (0, 0)) := hm2.some (Zh wr _) (fun f => f); have p0 : w2.cell? ⟨wr.heap.size, 0, none⟩ = some (.int .i64 8) := (Zc hA).trans rfl; have p3 : w2.cell? ⟨wr.heap.size, 3, none⟩ = some (.int .i64 nl) := (Zc hA).trans rfl; have p7 : w2.cell? ⟨wr.heap.size, 7, none⟩ = some (.slice sa sn sc) := (Zc hA).trans rfl; have hws2 : wr.heap.size < w2.heap.size := (by have := hm2.size; simp at this; omega); have HA := Lib.hid hA; clear hA))
      go_roundw
      case rel => exact ⟨k + 1, by omega, by go_num, (hm0.trans ((Mod.refl wr).alloc _)).trans (hm2.trans ((Mod.refl w2).alloc _))⟩
      case measure => first | omega | (simp [Go.RowKit.intOf]; omega)
    ·have hs2 : xi.S = [] /\ xi.L = [] := by have := HS2.out; simpa [usualW, leafUsual] using this
     obtain ⟨hS0, hL0⟩ := hs2
     have hSl : xi.S.length = 0 := by rw [hS0]; rfl
     have hLl : xi.L.length = 0 := by rw [hL0]; rfl
     clear hS0 hL0 HS2
     go_wp2_with (first | (go_at_call 51; refine (at_c (hm.trans (((Mod.refl wr).alloc _))) rfl hx').mono ?_; rintro e w2 ⟨hm2, cs2, rfl, hcs2, ht2⟩; rw [HXI.out] at ht2; obtain ⟨a5, c5, a6, c6, a7, c7, rfl, hxn, hxo, ht3⟩ := TreeI.lit hcs2 ht2; clear hcs2 ht2; have hA : w2.heap[wr.heap.size]? = some (.cells #[.int .i64 9, .int .i64 fr, .int .i64 to, .int .i64 nl, .int .i64 g, .int .i64 d, .int .i64 o, .slice sa sn sc] 56 (0, 0)) := hm2.some (Zh wr _) (fun f => f); have p0 : w2.cell? ⟨wr.heap.size, 0, none⟩ = some (.int .i64 9) := (Zc hA).trans rfl; have p3 : w2.cell? ⟨wr.heap.size, 3, none⟩ = some (.int .i64 nl) := (Zc hA).trans rfl; have p7 : w2.cell? ⟨wr.heap.size, 7, none⟩ = some (.slice sa sn sc) := (Zc hA).trans rfl; have hws2 : wr.heap.size < w2.heap.size := (by have := hm2.size; simp at this; omega); have HA := Lib.hid hA; clear hA))
     go_roundw
     case rel => exact ⟨k + 1, by omega, by go_num, (hm0.trans ((Mod.refl wr).alloc _)).trans (hm2.trans ((Mod.refl w2).alloc _))⟩
     case measure => first | omega | (simp [Go.RowKit.intOf]; omega)
    ·have HN := Lib.hid (show xi.N = numberW 5 d by have := HS2.out; simpa [usualW, leafUsual] using this)
     go_wp2_with (first | (go_at_call 51; refine (at_c (hm.trans (((Mod.refl wr).alloc _))) rfl hx').mono ?_; rintro e w2 ⟨hm2, cs2, rfl, hcs2, ht2⟩; rw [HXI.out] at ht2; obtain ⟨a5, c5, a6, c6, a7, c7, rfl, hxn, hxo, ht3⟩ := TreeI.lit hcs2 ht2; clear hcs2 ht2; have hA : w2.heap[wr.heap.size]? = some (.cells #[.int .i64 5, .int .i64 fr, .int .i64 to, .int .i64 nl, .int .i64 g, .int .i64 d, .int .i64 o, .slice sa sn sc] 56 (0, 0)) := hm2.some (Zh wr _) (fun f => f); have p0 : w2.cell? ⟨wr.heap.size, 0, none⟩ = some (.int .i64 5) := (Zc hA).trans rfl; have p3 : w2.cell? ⟨wr.heap.size, 3, none⟩ = some (.int .i64 nl) := (Zc hA).trans rfl; have p7 : w2.cell? ⟨wr.heap.size, 7, none⟩ = some (.slice sa sn sc) := (Zc hA).trans rfl; have hws2 : wr.heap.size < w2.heap.size := (by have := hm2.size; simp at this; omega); have HA := Lib.hid hA; clear hA))
     rename_i K hK
     refine wp_mono (usual_num (b6 := wr.heap.size) (b7 := w2.heap.size) (kind := 5) (dflt := d) (xn := xi.N) rfl hfd (by omega) rfl rfl ((heap_alloc_old (by omega) _).trans HA.out) rfl rfl (Zh w2 _) rfl HN.out) ?_
     rintro e a' w4 ⟨rfl, hs4, hm4, h31⟩
     refine hK a' w4 ?_
     have e := hs4.eq
     simp only [List.foldl] at e
     rw [h31] at e
     rw [e]
     generalize Act.get a' 24 = v24, Act.get a' 25 = v25, Act.get a' 26 = v26, Act.get a' 27 = v27, Act.get a' 28 = v28, Act.get a' 29 = v29, Act.get a' 30 = v30
     clear e hs4 h31
     simp only [Act.put, List.setIfInBounds_toArray, List.set_cons_succ, List.set_cons_zero]
     have hm5 := (hm0.trans ((Mod.refl wr).alloc _)).trans (hm2.trans (((Mod.refl w2).alloc _).trans hm4))
     go_wp2
     go_roundw
     case rel => exact ⟨k + 1, by omega, by go_num, hm5⟩
     case measure => first | omega | (simp [Go.RowKit.intOf]; omega)
    ·have HN := Lib.hid (show xi.N = numberW 6 d by have := HS2.out; simpa [usualW, leafUsual] using this)
     go_wp2_with (first | (go_at_call 51; refine (at_c (hm.trans (((Mod.refl wr).alloc _))) rfl hx').mono ?_; rintro e w2 ⟨hm2, cs2, rfl, hcs2, ht2⟩; rw [HXI.out] at ht2; obtain ⟨a5, c5, a6, c6, a7, c7, rfl, hxn, hxo, ht3⟩ := TreeI.lit hcs2 ht2; clear hcs2 ht2; have hA : w2.heap[wr.heap.size]? = some (.cells #[.int .i64 6, .int .i64 fr, .int .i64 to, .int .i64 nl, .int .i64 g, .int .i64 d, .int .i64 o, .slice sa sn sc] 56 (0, 0)) := hm2.some (Zh wr _) (fun f => f); have p0 : w2.cell? ⟨wr.heap.size, 0, none⟩ = some (.int .i64 6) := (Zc hA).trans rfl; have p3 : w2.cell? ⟨wr.heap.size, 3, none⟩ = some (.int .i64 nl) := (Zc hA).trans rfl; have p7 : w2.cell? ⟨wr.heap.size, 7, none⟩ = some (.slice sa sn sc) := (Zc hA).trans rfl; have hws2 : wr.heap.size < w2.heap.size := (by have := hm2.size; simp at this; omega); have HA := Lib.hid hA; clear hA))
     rename_i K hK
     refine wp_mono (usual_num (b6 := wr.heap.size) (b7 := w2.heap.size) (kind := 6) (dflt := d) (xn := xi.N) rfl hfd (by omega) rfl rfl ((heap_alloc_old (by omega) _).trans HA.out) rfl rfl (Zh w2 _) rfl HN.out) ?_
     rintro e a' w4 ⟨rfl, hs4, hm4, h31⟩
     refine hK a' w4 ?_
     have e := hs4.eq
     simp only [List.foldl] at e
     rw [h31] at e
     rw [e]
     generalize Act.get a' 24 = v24, Act.get a' 25 = v25, Act.get a' 26 = v26, Act.get a' 27 = v27, Act.get a' 28 = v28, Act.get a' 29 = v29, Act.get a' 30 = v30
     clear e hs4 h31
     simp only [Act.put, List.setIfInBounds_toArray, List.set_cons_succ, List.set_cons_zero]
     have hm5 := (hm0.trans ((Mod.refl wr).alloc _)).trans (hm2.trans (((Mod.refl w2).alloc _).trans hm4))
     go_wp2
     go_roundw
     case rel => exact ⟨k + 1, by omega, by go_num, hm5⟩
     case measure => first | omega | (simp [Go.RowKit.intOf]; omega)
   ·have hs2 := HS2.out
    by_cases hnl : 0 <= nl
    ·have hZ : xi.Z = true := by simpa [usualW, hnl] using hs2
     clear hs2 HS2
     go_wp2_with (first | (go_at_call 51; refine (at_c (hm.trans (((Mod.refl wr).alloc _))) rfl hx').mono ?_; rintro e w2 ⟨hm2, cs2, rfl, hcs2, ht2⟩; rw [HXI.out] at ht2; obtain ⟨a5, c5, a6, c6, a7, c7, rfl, hxn, hxo, ht3⟩ := TreeI.lit hcs2 ht2; clear hcs2 ht2; have hA : w2.heap[wr.heap.size]? = some (.cells #[.int .i64 10, .int .i64 fr, .int .i64 to, .int .i64 nl, .int .i64 g, .int .i64 d, .int .i64 o, .slice sa sn sc] 56 (0, 0)) := hm2.some (Zh wr _) (fun f => f); have p0 : w2.cell? ⟨wr.heap.size, 0, none⟩ = some (.int .i64 10) := (Zc hA).trans rfl; have p3 : w2.cell? ⟨wr.heap.size, 3, none⟩ = some (.int .i64 nl) := (Zc hA).trans rfl; have p7 : w2.cell? ⟨wr.heap.size, 7, none⟩ = some (.slice sa sn sc) := (Zc hA).trans rfl; have hws2 : wr.heap.size < w2.heap.size := (by have := hm2.size; simp at this; omega); have HA := Lib.hid hA; clear hA))
     go_roundw
     case rel => exact ⟨k + 1, by omega, by go_num, (hm0.trans ((Mod.refl wr).alloc _)).trans (hm2.trans ((Mod.refl w2).alloc _))⟩
     case measure => first | omega | (simp [Go.RowKit.intOf]; omega)
    ·have hnl' : nl < 0 := by omega
     have hZ : xi.U = [] /\ usualsW sub xi.L = true := by simpa [usualW, hnl] using hs2
     have HC := Lib.hid (fun W ca hmW hca hta => hoki rfl W (.slice sa sn sc) ca xi (hsub.mod hmW) hca hta hZ.1 hZ.2)
     clear hs2 HS2 hnl hoki hZ
     go_wp2_with (first | (go_at_call 51; refine (at_c (hm.trans (((Mod.refl wr).alloc _))) rfl hx').mono ?_; rintro e w2 ⟨hm2, cs2, rfl, hcs2, ht2⟩; rw [HXI.out] at ht2; obtain ⟨a5, c5, a6, c6, a7, c7, rfl, hxn, hxo, ht3⟩ := TreeI.lit hcs2 ht2; clear hcs2 ht2; have hA : w2.heap[wr.heap.size]? = some (.cells #[.int .i64 10, .int .i64 fr, .int .i64 to, .int .i64 nl, .int .i64 g, .int .i64 d, .int .i64 o, .slice sa sn sc] 56 (0, 0)) := hm2.some (Zh wr _) (fun f => f); have p0 : w2.cell? ⟨wr.heap.size, 0, none⟩ = some (.int .i64 10) := (Zc hA).trans rfl; have p3 : w2.cell? ⟨wr.heap.size, 3, none⟩ = some (.int .i64 nl) := (Zc hA).trans rfl; have p7 : w2.cell? ⟨wr.heap.size, 7, none⟩ = some (.slice sa sn sc) := (Zc hA).trans rfl; have hws2 : wr.heap.size < w2.heap.size := (by have := hm2.size; simp at this; omega); have HA := Lib.hid hA; clear hA) | (go_at_call 55; refine (HC.out _ _ (((Mod.refl wr).alloc _).trans (hm2.trans ((Mod.refl w2).alloc _))) rfl (ht3.mod (((hm.trans ((Mod.refl wr).alloc _)).trans hm2).trans ((Mod.refl w2).alloc _)))).mono ?_; rintro e w5 ⟨rfl, hm5⟩))
     have hm6 := ((hm0.trans ((Mod.refl wr).alloc _)).trans (hm2.trans ((Mod.refl w2).alloc _))).trans hm5
     go_roundw
     case rel => exact ⟨k + 1, by omega, by go_num, hm6⟩
     case measure => first | omega | (simp [Go.RowKit.intOf]; omega)
   ·have hs2 : xi.S = [] /\ xi.L = [] := by have := HS2.out; simpa [usualW, leafUsual] using this
    obtain ⟨hS0, hL0⟩ := hs2
    have hSl : xi.S.length = 0 := by rw [hS0]; rfl
    have hLl : xi.L.length = 0 := by rw [hL0]; rfl
    clear hS0 hL0 HS2
    go_wp2_with (first | (go_at_call 51; refine (at_c (hm.trans (((Mod.refl wr).alloc _))) rfl hx').mono ?_; rintro e w2 ⟨hm2, cs2, rfl, hcs2, ht2⟩; rw [HXI.out] at ht2; obtain ⟨a5, c5, a6, c6, a7, c7, rfl, hxn, hxo, ht3⟩ := TreeI.lit hcs2 ht2; clear hcs2 ht2; have hA : w2.heap[wr.heap.size]? = some (.cells #[.int .i64 11, .int .i64 fr, .int .i64 to, .int .i64 nl, .int .i64 g, .int .i64 d, .int .i64 o, .slice sa sn sc] 56 (0, 0)) := hm2.some (Zh wr _) (fun f => f); have p0 : w2.cell? ⟨wr.heap.size, 0, none⟩ = some (.int .i64 11) := (Zc hA).trans rfl; have p3 : w2.cell? ⟨wr.heap.size, 3, none⟩ = some (.int .i64 nl) := (Zc hA).trans rfl; have p7 : w2.cell? ⟨wr.heap.size, 7, none⟩ = some (.slice sa sn sc) := (Zc hA).trans rfl; have hws2 : wr.heap.size < w2.heap.size := (by have := hm2.size; simp at this; omega); have HA := Lib.hid hA; clear hA))
    go_roundw
    case rel => exact ⟨k + 1, by omega, by go_num, (hm0.trans ((Mod.refl wr).alloc _)).trans (hm2.trans ((Mod.refl w2).alloc _))⟩
    case measure => first | omega | (simp [Go.RowKit.intOf]; omega)
  ·go_wp2
   go_ret
   exact ⟨rfl, hm⟩
end Go.Proofs.YtpecdnfmlodmaaaGreatDoorR
