/-
  Package spec: whether the fields that have a default other than nought have it; the last region of the law. Printed by gen_df.py.
-/
import Derived.ChangeKeysEq
import Derived.Test.YtpecdnfmlodmaaaGreatDoorRPWg
set_option linter.unusedSimpArgs false
set_option linter.unusedVariables false
namespace Go.Proofs.YtpecdnfmlodmaaaGreatDoorR
open Go Go.RowKit
def fieldTy (P : Program) (T k : Nat) : Option (TypeId × Nat) := match P.underlying T with
 | some (.struct fs) => match fs[k]? with
  | some f => some (f.type, f.offset)
  | none => none
 | _ => none
theorem x_fieldV {P : Program} {ρ : Operand -> Value} {w : World} {d : Option Tmp} {ty : TypeId} {p : String} {af : Array Edge} {g : Option (Nat × Bool)} {x : Operand} {T k o e : Nat} {cs : Array Value} {v : Value} (hf : fieldTy P T k = some (e, o)) (he : P.plainKey e = true) (hx : ρ x = .agg cs) (hc : cs[o]? = some v) :
  (execOp ρ ⟨d, .field T x k, ty, p, af, g⟩).run P w = .ok (.value v) w := by
 unfold fieldTy at hf
 cases hu : P.underlying T with
 | none => simp [hu] at hf
 | some ds =>
  cases ds with
  | struct fs =>
   cases hk : fs[k]? with
   | none => simp [hu, hk] at hf
   | some f =>
    simp only [hu, hk, Option.some.injEq, Prod.mk.injEq] at hf
    obtain ⟨rfl, rfl⟩ := hf
    have := run_part_plain (w := w) he hc
    simp [execOp, Instr.field, run_underlying hu, hk, hx, asAgg, this]
  | _ => simp [hu] at hf
set_option maxRecDepth 100000 in
/-- 'f.Def != 0 && ..': no default -/
theorem def_no {w : World} {a : Act} {b6 : Nat} {F : Array Value} {T6 : TypeId} {id : Nat} {y0 y1 y2 y3 y4 y5 y6 y7 y8 y9 y10 y11 y12 y13 y14 ya2 yb2 ya13 yb13 : TypeId} {p0 p1 p2 p3 p4 p5 p6 p7 p8 p9 p10 p11 p12 p13 p14 : String} {ts6 ts12 : Array TypeId} (hN : a.tmps.size = 30)
  (g6 : Act.get a 6 = .pointer (some ⟨b6, 0, none⟩)) (h6 : w.heap[b6]? = some (.cells F T6 (0, 0))) (hF5 : F[0 + 5]? = some (.int .i64 0)) :
  (Code.region id #[⟨some 14, .fieldAddr 56 (.tmp 6) 5, y0, p0, #[], none⟩,
   ⟨some 15, .load 2 (.tmp 14), y1, p1, #[⟨0, .data⟩], none⟩,
   ⟨some 16, .binOp .neq ya2 (.tmp 15) (.const (.int .i64 0)) yb2, y2, p2, #[⟨1, .data⟩], none⟩,
   ⟨some 17, .move (.tmp 16), y3, p3, #[⟨2, .data⟩], none⟩,
   ⟨some 18, .load 26 (.tmp 3), y4, p4, #[⟨3, .guard⟩], some (3, true)⟩,
   ⟨some 19, .move (.tmp 5), y5, p5, #[⟨3, .guard⟩], some (3, true)⟩,
   ⟨some 20, .call ⟨.value (.func 51), #[.tmp 18, .tmp 19], ts6⟩, y6, p6, #[⟨4, .data⟩, ⟨5, .data⟩, ⟨3, .chain⟩, ⟨3, .guard⟩], some (3, true)⟩,
   ⟨some 21, .field 26 (.tmp 20) 0, y7, p7, #[⟨6, .data⟩, ⟨3, .guard⟩], some (3, true)⟩,
   ⟨some 22, .fieldAddr 56 (.tmp 6) 0, y8, p8, #[⟨3, .guard⟩], some (3, true)⟩,
   ⟨some 23, .load 3 (.tmp 22), y9, p9, #[⟨8, .data⟩, ⟨3, .guard⟩], some (3, true)⟩,
   ⟨some 24, .fieldAddr 56 (.tmp 6) 5, y10, p10, #[⟨3, .guard⟩], some (3, true)⟩,
   ⟨some 25, .load 2 (.tmp 24), y11, p11, #[⟨10, .data⟩, ⟨3, .guard⟩], some (3, true)⟩,
   ⟨some 26, .call ⟨.value (.func 91), #[.tmp 23, .tmp 25], ts12⟩, y12, p12, #[⟨9, .data⟩, ⟨11, .data⟩, ⟨6, .chain⟩, ⟨3, .guard⟩], some (3, true)⟩,
   ⟨some 27, .binOp .neq ya13 (.tmp 21) (.tmp 26) yb13, y13, p13, #[⟨7, .data⟩, ⟨12, .data⟩, ⟨3, .guard⟩], some (3, true)⟩,
   ⟨some 28, .pick (.tmp 17) (.tmp 27) (.const (.bool false)), y14, p14, #[⟨3, .data⟩, ⟨13, .data⟩], none⟩] true).wp Tryz.prog
  (fun e a' w' => e = .normal /\ SameBut (fun t => t ∈ [14, 15, 16, 17, 18, 19, 20, 21, 22, 23, 24, 25, 26, 27, 28]) a a' /\ Mod none' w w' /\ Act.get a' 28 = .bool false) a w := by
 refine region_rlg (l := [_, _, _, _, _, _, _, _, _, _, _, _, _, _]) (tl := [_]) rfl (Mod none') (Mod.refl w).drew (fun a => .refl a) (fun _ _ _ h h' => h.trans h') [14, 15, 16, 17, 18, 19, 20, 21, 22, 23, 24, 25, 26, 27]
  [fun v _ => v = .pointer (some ⟨b6, 0 + 5, none⟩), fun v _ => v = .int .i64 0, fun v _ => v = .bool false, fun v _ => v = .bool false, fun _ _ => True, fun _ _ => True, fun _ _ => True, fun _ _ => True, fun _ _ => True, fun _ _ => True, fun _ _ => True, fun _ _ => True, fun _ _ => True, fun _ _ => True]
  ?_ (by rfl) (by decide) (fun d hd => by rw [hN]; simp at hd; omega) (by simp) (by kernel_rfl) ⟨?_, ?_, ?_, ?_, ?_, ?_, ?_, ?_, ?_, ?_, ?_, ?_, ?_, ?_, trivial⟩ ?_
 ·intro g hg u1 w1 w2 hv hr
  simp only [List.mem_cons, List.not_mem_nil, or_false] at hg
  rcases hg with rfl | rfl | rfl | rfl | rfl | rfl | rfl | rfl | rfl | rfl | rfl | rfl | rfl | rfl
  ·exact hv
  ·exact hv
  ·exact hv
  ·exact hv
  ·exact trivial
  ·exact trivial
  ·exact trivial
  ·exact trivial
  ·exact trivial
  ·exact trivial
  ·exact trivial
  ·exact trivial
  ·exact trivial
  ·exact trivial
 ·intro a1 w1 hr hs hd
  refine .inl ⟨rfl, ?_⟩
  have t1 := (hs.get 6 (by decide)).trans g6
  exact Zw (Za (o := 5) (by kernel_rfl) (b := b6) (o0 := 0) (by rw [Ze]; exact t1)) ⟨_, rfl, (.refl _), rfl⟩
 ·intro a1 w1 hr hs hd
  refine .inl ⟨rfl, ?_⟩
  have t1 : Act.get a1 14 = .pointer (some ⟨b6, 0 + 5, none⟩) := hd ⟨0, .data⟩ (by simp) rfl
  have k1 := hr.some h6 (fun f => f)
  exact Zw (Zl (by kernel_rfl) (b := b6) (o := 0 + 5) (v := .int .i64 0) (by rw [Ze]; exact t1) (by rw [Zc k1]; exact hF5)) ⟨_, rfl, (.refl _), rfl⟩
 ·intro a1 w1 hr hs hd
  refine .inl ⟨rfl, ?_⟩
  have t1 : Act.get a1 15 = .int .i64 0 := hd ⟨1, .data⟩ (by simp) rfl
  exact Zw (x_neqIs (k := .i64) (m := 0) (by rw [Ze]; exact t1) rfl) ⟨_, rfl, (.refl _), rfl⟩
 ·intro a1 w1 hr hs hd
  refine .inl ⟨rfl, ?_⟩
  have t1 : Act.get a1 16 = .bool false := hd ⟨2, .data⟩ (by simp) rfl
  exact Zw (x_moveV (by rw [Ze]; exact t1)) ⟨_, rfl, (.refl _), rfl⟩
 ·intro a1 w1 hr hs hd
  exact .inr ⟨⟨by decide, false, hd ⟨3, .guard⟩ (by simp) rfl, rfl⟩, trivial⟩
 ·intro a1 w1 hr hs hd
  exact .inr ⟨⟨by decide, false, hd ⟨3, .guard⟩ (by simp) rfl, rfl⟩, trivial⟩
 ·intro a1 w1 hr hs hd
  exact .inr ⟨⟨by decide, false, hd ⟨3, .guard⟩ (by simp) rfl, rfl⟩, trivial⟩
 ·intro a1 w1 hr hs hd
  exact .inr ⟨⟨by decide, false, hd ⟨3, .guard⟩ (by simp) rfl, rfl⟩, trivial⟩
 ·intro a1 w1 hr hs hd
  exact .inr ⟨⟨by decide, false, hd ⟨3, .guard⟩ (by simp) rfl, rfl⟩, trivial⟩
 ·intro a1 w1 hr hs hd
  exact .inr ⟨⟨by decide, false, hd ⟨3, .guard⟩ (by simp) rfl, rfl⟩, trivial⟩
 ·intro a1 w1 hr hs hd
  exact .inr ⟨⟨by decide, false, hd ⟨3, .guard⟩ (by simp) rfl, rfl⟩, trivial⟩
 ·intro a1 w1 hr hs hd
  exact .inr ⟨⟨by decide, false, hd ⟨3, .guard⟩ (by simp) rfl, rfl⟩, trivial⟩
 ·intro a1 w1 hr hs hd
  exact .inr ⟨⟨by decide, false, hd ⟨3, .guard⟩ (by simp) rfl, rfl⟩, trivial⟩
 ·intro a1 w1 hr hs hd
  exact .inr ⟨⟨by decide, false, hd ⟨3, .guard⟩ (by simp) rfl, rfl⟩, trivial⟩
 ·intro a1 w1 hr hs hh
  have q3 : Act.get a1 17 = .bool false := hh 3 (by simp)
  refine Zv rfl (x_pickF (v := .bool false) (by rw [Ze]; exact q3) rfl) (wpList_nil ⟨rfl, (hs.sub (by decide)).puts (by decide) _, hr, ?_⟩)
  rw [Zq (by rw [hs.size, hN]; decide)]
set_option maxRecDepth 100000 in
/-- 'f.Def != 0 && at(got, i).N != number(f.Kind, f.Def)': it has it -/
theorem def_is {w : World} {a : Act} {b3 b6 i : Nat} {kind dflt : Int} {F cx : Array Value} {x : Tr} {T3 T6 : TypeId} {id : Nat} {y0 y1 y2 y3 y4 y5 y6 y7 y8 y9 y10 y11 y12 y13 y14 ya2 yb2 ya13 yb13 : TypeId} {p0 p1 p2 p3 p4 p5 p6 p7 p8 p9 p10 p11 p12 p13 p14 : String} {ts6 ts12 : Array TypeId} (hN : a.tmps.size = 30) (hne : dflt ≠ 0) (hn : fits .i64 dflt) (hk : kind = 0 \/ kind = 1 \/ kind = 2 \/ kind = 3 \/ kind = 4 \/ kind = 5 \/ kind = 6)
  (g3 : Act.get a 3 = .pointer (some ⟨b3, 0, none⟩)) (g5 : Act.get a 5 = .int .i64 ((i : Nat) : Int)) (g6 : Act.get a 6 = .pointer (some ⟨b6, 0, none⟩)) (h3 : w.heap[b3]? = some (.cells cx T3 (0, 0))) (hcx : cx.size = 5) (hx : TreeI w (from' cx 0) x)
  (h6 : w.heap[b6]? = some (.cells F T6 (0, 0))) (hF0 : F[0 + 0]? = some (.int .i64 kind)) (hF5 : F[0 + 5]? = some (.int .i64 dflt)) (hxn : (x.L.getD i .zero).N = numberW kind dflt) :
  (Code.region id #[⟨some 14, .fieldAddr 56 (.tmp 6) 5, y0, p0, #[], none⟩,
   ⟨some 15, .load 2 (.tmp 14), y1, p1, #[⟨0, .data⟩], none⟩,
   ⟨some 16, .binOp .neq ya2 (.tmp 15) (.const (.int .i64 0)) yb2, y2, p2, #[⟨1, .data⟩], none⟩,
   ⟨some 17, .move (.tmp 16), y3, p3, #[⟨2, .data⟩], none⟩,
   ⟨some 18, .load 26 (.tmp 3), y4, p4, #[⟨3, .guard⟩], some (3, true)⟩,
   ⟨some 19, .move (.tmp 5), y5, p5, #[⟨3, .guard⟩], some (3, true)⟩,
   ⟨some 20, .call ⟨.value (.func 51), #[.tmp 18, .tmp 19], ts6⟩, y6, p6, #[⟨4, .data⟩, ⟨5, .data⟩, ⟨3, .chain⟩, ⟨3, .guard⟩], some (3, true)⟩,
   ⟨some 21, .field 26 (.tmp 20) 0, y7, p7, #[⟨6, .data⟩, ⟨3, .guard⟩], some (3, true)⟩,
   ⟨some 22, .fieldAddr 56 (.tmp 6) 0, y8, p8, #[⟨3, .guard⟩], some (3, true)⟩,
   ⟨some 23, .load 3 (.tmp 22), y9, p9, #[⟨8, .data⟩, ⟨3, .guard⟩], some (3, true)⟩,
   ⟨some 24, .fieldAddr 56 (.tmp 6) 5, y10, p10, #[⟨3, .guard⟩], some (3, true)⟩,
   ⟨some 25, .load 2 (.tmp 24), y11, p11, #[⟨10, .data⟩, ⟨3, .guard⟩], some (3, true)⟩,
   ⟨some 26, .call ⟨.value (.func 91), #[.tmp 23, .tmp 25], ts12⟩, y12, p12, #[⟨9, .data⟩, ⟨11, .data⟩, ⟨6, .chain⟩, ⟨3, .guard⟩], some (3, true)⟩,
   ⟨some 27, .binOp .neq ya13 (.tmp 21) (.tmp 26) yb13, y13, p13, #[⟨7, .data⟩, ⟨12, .data⟩, ⟨3, .guard⟩], some (3, true)⟩,
   ⟨some 28, .pick (.tmp 17) (.tmp 27) (.const (.bool false)), y14, p14, #[⟨3, .data⟩, ⟨13, .data⟩], none⟩] true).wp Tryz.prog
  (fun e a' w' => e = .normal /\ SameBut (fun t => t ∈ [14, 15, 16, 17, 18, 19, 20, 21, 22, 23, 24, 25, 26, 27, 28]) a a' /\ Mod none' w w' /\ Act.get a' 28 = .bool false) a w := by
 refine region_rlg (l := [_, _, _, _, _, _, _, _, _, _, _, _, _, _]) (tl := [_]) rfl (Mod none') (Mod.refl w).drew (fun a => .refl a) (fun _ _ _ h h' => h.trans h') [14, 15, 16, 17, 18, 19, 20, 21, 22, 23, 24, 25, 26, 27]
  [fun v _ => v = .pointer (some ⟨b6, 0 + 5, none⟩), fun v _ => v = .int .i64 dflt, fun v _ => v = .bool true, fun v _ => v = .bool true, fun v _ => v = .agg (cx), fun v _ => v = .int .i64 ((i : Nat) : Int), fun v _ => ∃ cs : Array Value, v = .agg cs /\ cs.size = 5 /\ TreeI w (from' cs 0) (x.L.getD i .zero), fun v _ => v = .int .i64 (x.L.getD i .zero).N, fun v _ => v = .pointer (some ⟨b6, 0 + 0, none⟩), fun v _ => v = .int .i64 kind, fun v _ => v = .pointer (some ⟨b6, 0 + 5, none⟩), fun v _ => v = .int .i64 dflt, fun v _ => v = .int .i64 (numberW kind dflt), fun v _ => v = .bool false]
  ?_ (by rfl) (by decide) (fun d hd => by rw [hN]; simp at hd; omega) (by simp) (by kernel_rfl) ⟨?_, ?_, ?_, ?_, ?_, ?_, ?_, ?_, ?_, ?_, ?_, ?_, ?_, ?_, trivial⟩ ?_
 ·intro g hg u1 w1 w2 hv hr
  simp only [List.mem_cons, List.not_mem_nil, or_false] at hg
  rcases hg with rfl | rfl | rfl | rfl | rfl | rfl | rfl | rfl | rfl | rfl | rfl | rfl | rfl | rfl
  ·exact hv
  ·exact hv
  ·exact hv
  ·exact hv
  ·exact hv
  ·exact hv
  ·exact hv
  ·exact hv
  ·exact hv
  ·exact hv
  ·exact hv
  ·exact hv
  ·exact hv
  ·exact hv
 ·intro a1 w1 hr hs hd
  refine .inl ⟨rfl, ?_⟩
  have t1 := (hs.get 6 (by decide)).trans g6
  exact Zw (Za (o := 5) (by kernel_rfl) (b := b6) (o0 := 0) (by rw [Ze]; exact t1)) ⟨_, rfl, (.refl _), rfl⟩
 ·intro a1 w1 hr hs hd
  refine .inl ⟨rfl, ?_⟩
  have t1 : Act.get a1 14 = .pointer (some ⟨b6, 0 + 5, none⟩) := hd ⟨0, .data⟩ (by simp) rfl
  have k1 := hr.some h6 (fun f => f)
  exact Zw (Zl (by kernel_rfl) (b := b6) (o := 0 + 5) (v := .int .i64 dflt) (by rw [Ze]; exact t1) (by rw [Zc k1]; exact hF5)) ⟨_, rfl, (.refl _), rfl⟩
 ·intro a1 w1 hr hs hd
  refine .inl ⟨rfl, ?_⟩
  have t1 : Act.get a1 15 = .int .i64 dflt := hd ⟨1, .data⟩ (by simp) rfl
  exact Zw ((x_neqI (k := .i64) (m := dflt) (n := 0) (by rw [Ze]; exact t1) rfl).trans (by rw [show (dflt != 0) = true from by simpa using hne])) ⟨_, rfl, (.refl _), rfl⟩
 ·intro a1 w1 hr hs hd
  refine .inl ⟨rfl, ?_⟩
  have t1 : Act.get a1 16 = .bool true := hd ⟨2, .data⟩ (by simp) rfl
  exact Zw (x_moveV (by rw [Ze]; exact t1)) ⟨_, rfl, (.refl _), rfl⟩
 ·intro a1 w1 hr hs hd
  refine .inl ⟨⟨by decide, true, hd ⟨3, .guard⟩ (by simp) rfl, by rfl⟩, ?_⟩
  have t1 := (hs.get 3 (by decide)).trans g3
  have k1 := hr.some h3 (fun f => f)
  refine Zw (x_loadN (cs := (cx).toList) (b := b3) (o := 0) (by rw [Array.length_toList, hcx]; kernel_rfl) (by rw [Ze]; exact t1) (fun j v hv => by rw [Zc k1, Nat.zero_add]; simpa using hv)) ⟨_, rfl, (.refl _), by simp⟩
 ·intro a1 w1 hr hs hd
  refine .inl ⟨⟨by decide, true, hd ⟨3, .guard⟩ (by simp) rfl, by rfl⟩, ?_⟩
  have t1 := (hs.get 5 (by decide)).trans g5
  exact Zw (x_moveV t1) ⟨_, rfl, (.refl _), rfl⟩
 ·intro a1 w1 hr hs hd
  refine .inl ⟨⟨by decide, true, hd ⟨3, .guard⟩ (by simp) rfl, by rfl⟩, ?_⟩
  have q1 : Act.get a1 18 = .agg cx := hd ⟨4, .data⟩ (by simp) rfl
  have q2 : Act.get a1 19 = .int .i64 ((i : Nat) : Int) := hd ⟨5, .data⟩ (by simp) rfl
  have e1 : (#[.tmp 18, .tmp 19] : Array Operand).map a1.eval = #[.agg cx, .int .i64 ((i : Nat) : Int)] := by simp [Ze, q1, q2]
  refine owp_call (Zy (by kernel_rfl) rfl) (by rw [e1]; exact at_c hr hcx hx) ?_
  rintro e w2 ⟨hm, cs', rfl, hcs', htr⟩
  exact ⟨_, rfl, _, rfl, hm, cs', rfl, hcs', htr⟩
 ·intro a1 w1 hr hs hd
  refine .inl ⟨⟨by decide, true, hd ⟨3, .guard⟩ (by simp) rfl, by rfl⟩, ?_⟩
  obtain ⟨cs, q6, hcs, htr⟩ : ∃ cs : Array Value, Act.get a1 20 = .agg cs /\ cs.size = 5 /\ TreeI w (from' cs 0) (x.L.getD i .zero) := hd ⟨6, .data⟩ (by simp) rfl
  obtain ⟨z1, c1, z3, c3, z4, c4, rfl, hxn, hxo, ht3⟩ := TreeI.lit hcs htr
  exact Zw (x_fieldV (e := 2) (o := 0) (by kernel_rfl) (by kernel_rfl) (by rw [Ze]; exact q6) rfl) ⟨_, rfl, (.refl _), rfl⟩
 ·intro a1 w1 hr hs hd
  refine .inl ⟨⟨by decide, true, hd ⟨3, .guard⟩ (by simp) rfl, by rfl⟩, ?_⟩
  have t1 := (hs.get 6 (by decide)).trans g6
  exact Zw (Za (o := 0) (by kernel_rfl) (b := b6) (o0 := 0) (by rw [Ze]; exact t1)) ⟨_, rfl, (.refl _), rfl⟩
 ·intro a1 w1 hr hs hd
  refine .inl ⟨⟨by decide, true, hd ⟨3, .guard⟩ (by simp) rfl, by rfl⟩, ?_⟩
  have t1 : Act.get a1 22 = .pointer (some ⟨b6, 0 + 0, none⟩) := hd ⟨8, .data⟩ (by simp) rfl
  have k1 := hr.some h6 (fun f => f)
  exact Zw (Zl (by kernel_rfl) (b := b6) (o := 0 + 0) (v := .int .i64 kind) (by rw [Ze]; exact t1) (by rw [Zc k1]; exact hF0)) ⟨_, rfl, (.refl _), rfl⟩
 ·intro a1 w1 hr hs hd
  refine .inl ⟨⟨by decide, true, hd ⟨3, .guard⟩ (by simp) rfl, by rfl⟩, ?_⟩
  have t1 := (hs.get 6 (by decide)).trans g6
  exact Zw (Za (o := 5) (by kernel_rfl) (b := b6) (o0 := 0) (by rw [Ze]; exact t1)) ⟨_, rfl, (.refl _), rfl⟩
 ·intro a1 w1 hr hs hd
  refine .inl ⟨⟨by decide, true, hd ⟨3, .guard⟩ (by simp) rfl, by rfl⟩, ?_⟩
  have t1 : Act.get a1 24 = .pointer (some ⟨b6, 0 + 5, none⟩) := hd ⟨10, .data⟩ (by simp) rfl
  have k1 := hr.some h6 (fun f => f)
  exact Zw (Zl (by kernel_rfl) (b := b6) (o := 0 + 5) (v := .int .i64 dflt) (by rw [Ze]; exact t1) (by rw [Zc k1]; exact hF5)) ⟨_, rfl, (.refl _), rfl⟩
 ·intro a1 w1 hr hs hd
  refine .inl ⟨⟨by decide, true, hd ⟨3, .guard⟩ (by simp) rfl, by rfl⟩, ?_⟩
  have t3 : Act.get a1 23 = .int .i64 kind := hd ⟨9, .data⟩ (by simp) rfl
  have t5 : Act.get a1 25 = .int .i64 dflt := hd ⟨11, .data⟩ (by simp) rfl
  have e1 : (#[.tmp 23, .tmp 25] : Array Operand).map a1.eval = #[.int .i64 kind, .int .i64 dflt] := by simp [Ze, t3, t5]
  refine owp_call (Zy (by kernel_rfl) rfl) (by rw [e1]; exact number_c hn hk) ?_
  rintro e w2 ⟨rfl, rfl⟩
  exact ⟨_, rfl, _, rfl, (.refl _), rfl⟩
 ·intro a1 w1 hr hs hd
  refine .inl ⟨⟨by decide, true, hd ⟨3, .guard⟩ (by simp) rfl, by rfl⟩, ?_⟩
  have t1 : Act.get a1 21 = .int .i64 (x.L.getD i .zero).N := hd ⟨7, .data⟩ (by simp) rfl
  have t2 : Act.get a1 26 = .int .i64 (numberW kind dflt) := hd ⟨12, .data⟩ (by simp) rfl
  rw [hxn] at t1
  exact Zw (x_neqIs (k := .i64) (m := numberW kind dflt) (by rw [Ze]; exact t1) (by rw [Ze]; exact t2)) ⟨_, rfl, (.refl _), rfl⟩
 ·intro a1 w1 hr hs hh
  have q3 : Act.get a1 17 = .bool true := hh 3 (by simp)
  have q13 : Act.get a1 27 = .bool false := hh 13 (by simp)
  refine Zv rfl (x_pickT (v := .bool false) q3 q13) (wpList_nil ⟨rfl, (hs.sub (by decide)).puts (by decide) _, hr, ?_⟩)
  rw [Zq (by rw [hs.size, hN]; decide)]
/-- the fields that have a default have it -/
def DefsW (fs : List FD) (l : List Tr) : Prop := ∀ i (h : i < fs.length), (fs[i]).dflt ≠ 0 -> ((fs[i]).kind = 0 \/ (fs[i]).kind = 1 \/ (fs[i]).kind = 2 \/ (fs[i]).kind = 3 \/ (fs[i]).kind = 4 \/ (fs[i]).kind = 5 \/ (fs[i]).kind = 6) /\ (l.getD i .zero).N = numberW (fs[i]).kind (fs[i]).dflt
set_option maxRecDepth 100000 in
set_option maxHeartbeats 4000000 in
theorem defaults_c {w : World} {v : Value} {cx : Array Value} {fs : List FD} {x : Tr} (hpl : ∀ f ∈ fs, f.dok = true) (hf : FdsI w v fs) (hcx : cx.size = 5) (hx : TreeI w (from' cx 0) x) (hd : DefsW fs x.L) :
  Calls Tryz.prog 35 #[v, .agg cx] w fun e w' => e = .returned (.bool true) /\ Mod none' w w' := by
 obtain ⟨a1, c1, a3, c3, a4, c4, rfl, hfit, ho, hx'⟩ := TreeI.lit hcx hx
 obtain ⟨ao, cap, rfl⟩ := hf.slice
 have hfl := hf.len
 have HD := Lib.hid hd
 have HX := Lib.hid hx'
 clear hx hcx hd hx'
 go_enter Tryz.func35, Tryz.ntmps35
 go_wp2
 go_loopw [9] (fun i wr => ∃ k : Nat, k <= fs.length /\ i = .int .i64 k /\ Mod none' (w.alloc (.cells #[.int .i64 x.N, .slice a1 x.S.length c1, .bool x.Z, .slice a3 x.L.length c3, .slice a4 x.U.length c4] 26)) wr) (fun i _ => fs.length - (Go.RowKit.intOf i).toNat)
 case atStart => exact ⟨0, by omega, rfl, .refl _⟩
 case round =>
  obtain ⟨k, hk, rfl, hm0⟩ := hrel
  have hm : Mod none' w wr := ((Mod.refl w).alloc _).trans hm0
  by_cases hlt : k < fs.length
  ·have hB := hm0.some (Zh w _) (fun f => f)
   have hui := HD.out k hlt
   have hdok := hpl _ (List.getElem_mem hlt)
   obtain ⟨_, kb, off, sa, sn, sc, rfl, C, Tk, fr', hC, hcells, hsub⟩ := (hf.mod hm).at' hlt
   generalize fs[k] = fd at *
   obtain ⟨kd, fr, to, nl, g, d, o, sub⟩ := fd
   have f0 : wr.cell? ⟨kb, off + k * 8, none⟩ = some (.int .i64 kd) := by rw [Zc hC]; exact hcells 0 _ rfl
   have f1 : wr.cell? ⟨kb, off + k * 8 + 1, none⟩ = some (.int .i64 fr) := by rw [Zc hC]; exact hcells 1 _ rfl
   have f2 : wr.cell? ⟨kb, off + k * 8 + 2, none⟩ = some (.int .i64 to) := by rw [Zc hC]; exact hcells 2 _ rfl
   have f3 : wr.cell? ⟨kb, off + k * 8 + 3, none⟩ = some (.int .i64 nl) := by rw [Zc hC]; exact hcells 3 _ rfl
   have f4 : wr.cell? ⟨kb, off + k * 8 + 4, none⟩ = some (.int .i64 g) := by rw [Zc hC]; exact hcells 4 _ rfl
   have f5 : wr.cell? ⟨kb, off + k * 8 + 5, none⟩ = some (.int .i64 d) := by rw [Zc hC]; exact hcells 5 _ rfl
   have f6 : wr.cell? ⟨kb, off + k * 8 + 6, none⟩ = some (.int .i64 o) := by rw [Zc hC]; exact hcells 6 _ rfl
   have f7 : wr.cell? ⟨kb, off + k * 8 + 7, none⟩ = some (.slice sa sn sc) := by rw [Zc hC]; exact hcells 7 _ rfl
   have hws : w.heap.size < wr.heap.size := by have := hm0.size; simp at this; omega
   have HB := Lib.hid hB
   have HS := Lib.hid hui
   clear hC hcells hB hui
   simp only [FD.dok, Bool.and_eq_true, decide_eq_true_eq] at hdok
   have hfd : fits .i64 d := by simp [fits, IntKind.min, IntKind.max, IntKind.signed, IntKind.bits]; omega
   clear hdok hpl hf
   by_cases hd0 : d = 0
   ·have HD0 := Lib.hid hd0
    clear hd0

    go_wp2
    rename_i K hK _
    refine wp_mono (def_no (b6 := wr.heap.size) rfl rfl (Zh wr _) (by rw [<- HD0.out]; rfl)) ?_
    rintro e a' w4 ⟨rfl, hs4, hm4, h31⟩
    refine hK a' w4 ?_
    have e := hs4.eq
    simp only [List.foldl] at e
    rw [h31] at e
    rw [e]
    generalize Act.get a' 14 = v14, Act.get a' 15 = v15, Act.get a' 16 = v16, Act.get a' 17 = v17, Act.get a' 18 = v18, Act.get a' 19 = v19, Act.get a' 20 = v20, Act.get a' 21 = v21, Act.get a' 22 = v22, Act.get a' 23 = v23, Act.get a' 24 = v24, Act.get a' 25 = v25, Act.get a' 26 = v26, Act.get a' 27 = v27
    clear e hs4 h31
    simp only [Act.put, List.setIfInBounds_toArray, List.set_cons_succ, List.set_cons_zero]
    have hm5 := (hm0.trans ((Mod.refl wr).alloc _)).trans hm4
    go_wp2
    go_roundw
    case rel => exact ⟨k + 1, by omega, by go_num, hm5⟩
    case measure => first | omega | (simp [Go.RowKit.intOf]; omega)

   ·have HD0 := Lib.hid hd0
    clear hd0
    go_wp2
    rename_i K hK _
    refine wp_mono (def_is (b3 := w.heap.size) (b6 := wr.heap.size) (i := k) (kind := kd) (dflt := d) rfl HD0.out hfd (HS.out HD0.out).1 rfl rfl rfl ((heap_alloc_old (by omega) _).trans HB.out) rfl (HX.out.mod (hm.trans ((Mod.refl wr).alloc _))) (Zh wr _) rfl rfl (HS.out HD0.out).2) ?_
    rintro e a' w4 ⟨rfl, hs4, hm4, h31⟩
    refine hK a' w4 ?_
    have e := hs4.eq
    simp only [List.foldl] at e
    rw [h31] at e
    rw [e]
    generalize Act.get a' 14 = v14, Act.get a' 15 = v15, Act.get a' 16 = v16, Act.get a' 17 = v17, Act.get a' 18 = v18, Act.get a' 19 = v19, Act.get a' 20 = v20, Act.get a' 21 = v21, Act.get a' 22 = v22, Act.get a' 23 = v23, Act.get a' 24 = v24, Act.get a' 25 = v25, Act.get a' 26 = v26, Act.get a' 27 = v27
    clear e hs4 h31
    simp only [Act.put, List.setIfInBounds_toArray, List.set_cons_succ, List.set_cons_zero]
    have hm5 := (hm0.trans ((Mod.refl wr).alloc _)).trans hm4
    go_wp2
    go_roundw
    case rel => exact ⟨k + 1, by omega, by go_num, hm5⟩
    case measure => first | omega | (simp [Go.RowKit.intOf]; omega)

  ·go_wp2
   go_ret
   exact ⟨rfl, hm⟩
/-- the leaf fields are told as they are -/
def LeafG (fs : List FD) (G : SV -> List Tr) (i : Nat) : Prop := ∀ v j (h : j < fs.length), leafK (fs[j]).kind = true -> (G v).getD j .zero = v.1.getD (i + j) Tr.nul
theorem leafG_nil {i : Nat} : LeafG [] (fun _ => []) i := fun v j h => by simp at h
theorem leafG_leaf {f : FD} {fs : List FD} {g' : SV -> List Tr} {i : Nat} (h2 : LeafG fs g' (i + 1)) : LeafG (f :: fs) (fun v => v.1.getD i Tr.nul :: g' v) i := by
 intro v j hj hk
 cases j with
 | zero => simp
 | succ j =>
  have := h2 v j (by simpa using hj) (by simpa using hk)
  rw [show i + (j + 1) = i + 1 + j by omega, <- this]
  simp
theorem leafG_cons {f : FD} {fs : List FD} {E : Tr -> Tr} {g' : SV -> List Tr} {i : Nat} (hf : leafK f.kind = false) (h2 : LeafG fs g' (i + 1)) : LeafG (f :: fs) (fun v => E (v.1.getD i Tr.nul) :: g' v) i := by
 intro v j hj hk
 cases j with
 | zero => exact absurd hk (by simp [hf])
 | succ j =>
  have := h2 v j (by simpa using hj) (by simpa using hk)
  rw [show i + (j + 1) = i + 1 + j by omega, <- this]
  simp
set_option maxRecDepth 100000 in
/-- 'ok && Defaults(m.Fields, got(x))' -/
theorem dflt_last {w : World} {a : Act} {b6 b8 nfs cap : Nat} {ao : Option Addr} {fx : Int} {cx : Array Value} {x : Tr} {T6 T8 : TypeId} {id : Nat} {y0 y1 y2 y3 y4 y5 y6 y7 y8 : TypeId} {p0 p1 p2 p3 p4 p5 p6 p7 p8 : String} {ts5 ts6 : Array TypeId} (hN : a.tmps.size = 37)
  (g6 : Act.get a 6 = .pointer (some ⟨b6, 0, none⟩)) (g8 : Act.get a 8 = .pointer (some ⟨b8, 0, none⟩)) (g9 : Act.get a 9 = .bool true)
  (h6 : w.heap[b6]? = some (.cells #[.slice ao nfs cap, .int .i64 fx] T6 (0, 0))) (h8 : w.heap[b8]? = some (.cells cx T8 (0, 0))) (hcx : cx.size = 5) (hx : TreeR w (fun _ => True) (from' cx 0) x)
  (hT : ∀ W cg, Mod none' w W -> cg.size = 5 -> TreeI W (from' cg 0) x -> Calls Tryz.prog 35 #[.slice ao nfs cap, .agg cg] W fun e w' => e = .returned (.bool true) /\ Mod none' W w') :
  (Code.region id #[⟨some 29, .move (.tmp 9), y0, p0, #[], none⟩,
   ⟨some 30, .move (.tmp 29), y1, p1, #[⟨0, .data⟩], none⟩,
   ⟨some 31, .fieldAddr 31 (.tmp 6) 0, y2, p2, #[⟨1, .guard⟩], some (1, true)⟩,
   ⟨some 32, .load 29 (.tmp 31), y3, p3, #[⟨2, .data⟩, ⟨1, .guard⟩], some (1, true)⟩,
   ⟨some 33, .load 37 (.tmp 8), y4, p4, #[⟨1, .guard⟩], some (1, true)⟩,
   ⟨some 34, .call ⟨.value (.func 19), #[.tmp 33], ts5⟩, y5, p5, #[⟨4, .data⟩, ⟨1, .chain⟩, ⟨1, .guard⟩], some (1, true)⟩,
   ⟨some 35, .call ⟨.value (.func 35), #[.tmp 32, .tmp 34], ts6⟩, y6, p6, #[⟨3, .data⟩, ⟨5, .data⟩, ⟨5, .chain⟩, ⟨1, .guard⟩], some (1, true)⟩,
   ⟨some 36, .pick (.tmp 30) (.tmp 35) (.const (.bool false)), y7, p7, #[⟨1, .data⟩, ⟨6, .data⟩], none⟩,
   ⟨some 4, .assign (.tmp 36), y8, p8, #[⟨7, .data⟩, ⟨6, .chain⟩, ⟨0, .phase⟩, ⟨1, .phase⟩, ⟨2, .phase⟩, ⟨3, .phase⟩, ⟨4, .phase⟩, ⟨5, .phase⟩, ⟨6, .phase⟩, ⟨7, .phase⟩], none⟩] true).wp Tryz.prog
  (fun e a' w' => e = .normal /\ Mod none' w w' /\ Act.get a' 4 = .bool true /\ a'.defers = a.defers) a w := by
 refine region_rlg (l := [_, _, _, _, _, _, _, _]) (tl := [_]) rfl (Mod none') (Mod.refl w).drew (fun a => .refl a) (fun _ _ _ h h' => h.trans h') [29, 30, 31, 32, 33, 34, 35, 36]
  [fun v _ => v = .bool true, fun v _ => v = .bool true, fun v _ => v = .pointer (some ⟨b6, 0 + 0, none⟩), fun v _ => v = .slice ao nfs cap, fun v _ => v = .agg (cx), fun v w' => ∃ cg : Array Value, v = .agg cg /\ cg.size = 5 /\ TreeI w' (from' cg 0) x, fun v _ => v = .bool true, fun v _ => v = .bool true]
  ?_ (by rfl) (by decide) (fun d hd => by rw [hN]; simp at hd; omega) (by simp) (by kernel_rfl) ⟨?_, ?_, ?_, ?_, ?_, ?_, ?_, ?_, trivial⟩ ?_
 ·intro g hg u1 w1 w2 hv hr
  simp only [List.mem_cons, List.not_mem_nil, or_false] at hg
  rcases hg with rfl | rfl | rfl | rfl | rfl | rfl | rfl | rfl
  ·exact hv
  ·exact hv
  ·exact hv
  ·exact hv
  ·exact hv
  ·exact (by obtain ⟨cg, h1, h2, h3⟩ := hv; exact ⟨cg, h1, h2, h3.mod hr⟩)
  ·exact hv
  ·exact hv
 ·intro a1 w1 hr hs hd
  refine .inl ⟨rfl, ?_⟩
  have t1 := (hs.get 9 (by decide)).trans g9
  exact Zw (x_moveV t1) ⟨_, rfl, (.refl _), rfl⟩
 ·intro a1 w1 hr hs hd
  refine .inl ⟨rfl, ?_⟩
  have t0 : Act.get a1 29 = .bool true := hd ⟨0, .data⟩ (by simp) rfl
  exact Zw (x_moveV t0) ⟨_, rfl, (.refl _), rfl⟩
 ·intro a1 w1 hr hs hd
  refine .inl ⟨⟨by decide, true, hd ⟨1, .guard⟩ (by simp) rfl, by rfl⟩, ?_⟩
  have t1 := (hs.get 6 (by decide)).trans g6
  exact Zw (Za (o := 0) (by kernel_rfl) (b := b6) (o0 := 0) (by rw [Ze]; exact t1)) ⟨_, rfl, (.refl _), rfl⟩
 ·intro a1 w1 hr hs hd
  refine .inl ⟨⟨by decide, true, hd ⟨1, .guard⟩ (by simp) rfl, by rfl⟩, ?_⟩
  have t1 : Act.get a1 31 = .pointer (some ⟨b6, 0 + 0, none⟩) := hd ⟨2, .data⟩ (by simp) rfl
  have k1 := hr.some h6 (fun f => f)
  exact Zw (Zl (by kernel_rfl) (b := b6) (o := 0 + 0) (v := .slice ao nfs cap) (by rw [Ze]; exact t1) (by rw [Zc k1]; exact rfl)) ⟨_, rfl, (.refl _), rfl⟩
 ·intro a1 w1 hr hs hd
  refine .inl ⟨⟨by decide, true, hd ⟨1, .guard⟩ (by simp) rfl, by rfl⟩, ?_⟩
  have t1 := (hs.get 8 (by decide)).trans g8
  have k1 := hr.some h8 (fun f => f)
  refine Zw (x_loadN (cs := (cx).toList) (b := b8) (o := 0) (by rw [Array.length_toList, hcx]; kernel_rfl) (by rw [Ze]; exact t1) (fun j v hv => by rw [Zc k1, Nat.zero_add]; simpa using hv)) ⟨_, rfl, (.refl _), by simp⟩
 ·intro a1 w1 hr hs hd
  refine .inl ⟨⟨by decide, true, hd ⟨1, .guard⟩ (by simp) rfl, by rfl⟩, ?_⟩
  have q9 : Act.get a1 33 = .agg cx := hd ⟨4, .data⟩ (by simp) rfl
  have e1 : (#[.tmp 33] : Array Operand).map a1.eval = #[.agg cx] := by simp [Ze, q9]
  refine owp_call (Zy (by kernel_rfl) rfl) (R := fun e w' => ∃ v, e = .returned v /\ Mod none' w1 w' /\ TreeV w' (fun _ => True) v x) ?_ ?_
  ·rw [e1]
   exact (got_spec _ x (Nat.lt_succ_self _) cx w1 (fun _ => True) hcx (hx.mod hr (fun _ _ f => f) (fun _ _ => trivial))).mono fun e w' ⟨v, h1, h2, h3⟩ => ⟨v, h1, h2, h3.mod (Mod.refl (S := none') w') (fun _ _ f => f) (fun _ _ => trivial)⟩
  ·rintro e w2 ⟨v, rfl, hm, cg, rfl, hc5, _, htr⟩
   exact ⟨_, rfl, _, rfl, hm, cg, rfl, hc5, htr.toI⟩
 ·intro a1 w1 hr hs hd
  refine .inl ⟨⟨by decide, true, hd ⟨1, .guard⟩ (by simp) rfl, by rfl⟩, ?_⟩
  have q3 : Act.get a1 32 = .slice ao nfs cap := hd ⟨3, .data⟩ (by simp) rfl
  obtain ⟨cg, q10, hc5, hxi⟩ : ∃ cg : Array Value, Act.get a1 34 = .agg cg /\ cg.size = 5 /\ TreeI w1 (from' cg 0) x := hd ⟨5, .data⟩ (by simp) rfl
  have e1 : (#[.tmp 32, .tmp 34] : Array Operand).map a1.eval = #[.slice ao nfs cap, .agg cg] := by simp [Ze, q3, q10]
  refine owp_call (Zy (by kernel_rfl) rfl) (by rw [e1]; exact hT w1 cg hr hc5 hxi) ?_
  rintro e w2 ⟨rfl, hm⟩
  exact ⟨_, rfl, _, rfl, hm, rfl⟩
 ·intro a1 w1 hr hs hd
  refine .inl ⟨rfl, ?_⟩
  have q1 : Act.get a1 30 = .bool true := hd ⟨1, .data⟩ (by simp) rfl
  have q2 : Act.get a1 35 = .bool true := hd ⟨6, .data⟩ (by simp) rfl
  exact Zw (x_pickT q1 q2) ⟨_, rfl, (.refl _), rfl⟩
 ·intro a1 w1 hr hs hh
  have q : Act.get a1 36 = .bool true := hh 7 (by simp)
  refine Zv rfl Zi (wpList_nil ⟨rfl, hr, ?_, (Zd _ _ _).trans hs.defers⟩)
  rw [Zq (by rw [hs.size, hN]; decide)]
  exact q
end Go.Proofs.YtpecdnfmlodmaaaGreatDoorR
