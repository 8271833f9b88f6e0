/-
  The reader's type.
  What the laws share: a remainder; which version is taken.
  What the laws of telling share.
-/
import Derived.Laws.IdiomCopy
import Derived.Test.YtpecdnfmlodmaaaGreatDoorRPWe
import Derived.Test.YtpecdnfmlodmaaaGreatDoorRPWk
import Derived.Test.YtpecdnfmlodmaaaGreatDoorRPWz
import Derived.Test.YtpecdnfmlodmaaaGreatDoorRPWl
set_option linter.unusedSimpArgs false
set_option linter.unusedVariables false
namespace Go.Proofs.YtpecdnfmlodmaaaGreatDoorR
open Go Go.RowKit
theorem rdT : RdT Tryz.prog 194 where
 built := by
  intro v hv
  rw [built_of (places := [(0, 1), (1, 1)]) (z := .agg #[.slice none 0 0, .bool false]) (by kernel_rfl)]
  show Instr.fill _ #[.slice none 0 0, .bool false] [(0, v)] = _
  simp [Instr.fill, hv]
 zero := ⟨.agg #[.slice none 0 0, .bool false], by kernel_rfl, rfl⟩
 size := by kernel_rfl
end Go.Proofs.YtpecdnfmlodmaaaGreatDoorR
set_option linter.unusedSimpArgs false
set_option linter.unusedVariables false
namespace Go.Proofs.YtpecdnfmlodmaaaGreatDoorR
open Go Go.RowKit
section
variable {P : Program} {ρ : Operand -> Value} {w : World} {d : Option Tmp} {ty : TypeId} {p : String} {af : Array Edge} {g : Option (Nat × Bool)}
theorem x_rem {x y : Operand} {t u : TypeId} {k : IntKind} {m n : Int} (hx : ρ x = .int k m) (hy : ρ y = .int k n) (h0 : n ≠ 0) : (execOp ρ ⟨d, .binOp .rem t x y u, ty, p, af, g⟩).run P w = .ok (.value (.int k (m.tmod n))) w := by
 simp [execOp, hx, hy, eqGuard, binOp, Op.intDiv, h0]
end
theorem version_spec {n m : Int} (hm : IntKind.i64.wrap (m + 1) ≠ 0) (w : World) : Calls Tryz.prog 14 #[.int .u8 n, .int .i64 m] w fun e w' => e = .returned (.int .i64 ((IntKind.i64.wrap n).tmod (IntKind.i64.wrap (m + 1)))) /\ w = w' := by
 refine calls_of_wp Tryz.func14 rfl ?_
 refine wp_act (fun a : Act => Act.get a 0 = .int .u8 n /\ Act.get a 1 = .int .i64 m /\ a.tmps.size = 10 /\ a.defers = []) ⟨rfl, rfl, rfl, rfl⟩ ?_
 rintro a ⟨a0, a1, aN, ad⟩
 refine wp_seq (wp_region_lit (Zv rfl Zi (wpList_nil ?_)))
 refine wp_seq (wp_region_lit (Zv rfl Zm (Zv rfl (x_convInt (n := n) (k := .u8) (k' := .i64) (by kernel_rfl) (by kernel_rfl) ?_) (Zv rfl Zm (Zv rfl (x_add (k := .i64) (m := m) (n := 1) ?_ rfl) (Zv rfl (x_rem (k := .i64) (m := IntKind.i64.wrap n) (n := IntKind.i64.wrap (m + 1)) ?_ ?_ hm) (Zv rfl Zi (wpList_nil ?_))))))))
 ·simp (disch := first | omega | simp only [Zs]; omega) only [Zo, Ze, Zn, Zq, a0]
 ·simp (disch := first | omega | simp only [Zs]; omega) only [Zo, Ze, Zn, Zq, a1]
 ·simp (disch := first | omega | simp only [Zs]; omega) only [Zo, Ze, Zn, Zq]
 ·simp (disch := first | omega | simp only [Zs]; omega) only [Zo, Ze, Zn, Zq]
 refine wp_act (c := .ret) (fun a : Act => Act.get a 4 = .int .i64 ((IntKind.i64.wrap n).tmod (IntKind.i64.wrap (m + 1))) /\ a.defers = []) ⟨?_, ?_⟩ ?_
 ·simp (disch := first | omega | simp only [Zs]; omega) only [Zo, Ze, Zn, Zq]
 ·simp only [Zd]; exact ad
 rintro a9 ⟨z0, zd⟩
 exact wp_ret (bodyPost_ret (results_tmp rfl _ _ _) zd ⟨congrArg Ending.returned z0, rfl⟩)
end Go.Proofs.YtpecdnfmlodmaaaGreatDoorR
set_option linter.unusedSimpArgs false
set_option linter.unusedVariables false
namespace Go.Proofs.YtpecdnfmlodmaaaGreatDoorR
open Go Go.RowKit
/-- whether a version is flexible -/
def flexW (fx ver : Int) : Bool := decide (0 <= fx) && decide (fx <= ver)
theorem flexible_c {w : World} {ao : Option Addr} {n cap : Nat} {fx ver : Int} : Calls Tryz.prog 18 #[.agg #[.slice ao n cap, .int .i64 fx], .int .i64 ver] w fun e w' => e = .returned (.bool (flexW fx ver)) /\ Mod none' w w' := by
 by_cases h1 : 0 <= fx
 ·by_cases h2 : fx <= ver
  ·go_enter Tryz.func18, Tryz.ntmps18
   go_wp2
   go_ret
   exact ⟨by simp [flexW, h1, h2], (Mod.refl w).alloc _⟩
  ·go_enter Tryz.func18, Tryz.ntmps18
   go_wp2
   go_ret
   exact ⟨by simp [flexW, h1, h2], (Mod.refl w).alloc _⟩
 ·go_enter Tryz.func18, Tryz.ntmps18
  go_wp2
  go_ret
  exact ⟨by congr 2; simp [flexW]; omega, (Mod.refl w).alloc _⟩
theorem OwnB.srcs {w : World} {base : Nat} {v : Value} {bs : List UInt8} (h : OwnB w base v bs) : Srcs w v bs := by
 obtain ⟨nl, _, ho⟩ := h.oct
 rcases OctI.of_oct ho with ⟨h1, ao, cap, h2⟩ | ⟨sb, off, cap, c, t, fr, h1, h2, h3, h4, h5⟩
 ·exact .inl ⟨h1, ao, cap, h2⟩
 ·exact .inr ⟨sb, off, cap, c, t, fr, h1, h4, h5⟩
theorem FdsI.none' (w : World) : FdsI w (.slice none 0 0) [] := .mk (fc := fun _ _ => undef) (sv := fun _ => undef) (.inl ⟨rfl, _, _, rfl⟩) (fun i h => by simp at h) (fun i h => by simp at h)
/-- the cells of fields, one after another -/
def fcells : List FD -> List Value -> List Value
 | f :: r, s :: ss => (f.cells s).toList ++ fcells r ss
 | _, _ => []
theorem cells8 (f : FD) (s : Value) : (f.cells s).toList.length = 8 := rfl
theorem fcells_at : ∀ (fs : List FD) (subs : List Value), subs.length = fs.length -> (fcells fs subs).length = fs.length * 8 /\ ∀ i (h : i < fs.length) j, j < 8 -> ((fs[i]).cells (subs.getD i undef))[j]? = (fcells fs subs)[i * 8 + j]?
 | [], subs, _ => ⟨by cases subs <;> rfl, fun i h => by simp at h⟩
 | f :: r, [], h => by simp at h
 | f :: r, s :: ss, h => by
  obtain ⟨h1, h2⟩ := fcells_at r ss (by simpa using h)
  refine ⟨by rw [fcells, List.length_append, h1, cells8]; simp; omega, fun i hi j hj => ?_⟩
  rw [fcells]
  cases i with
  | zero =>
   rw [List.getElem?_append_left (by rw [cells8]; omega), Nat.zero_mul, Nat.zero_add, Array.getElem?_toList]
   rfl
  | succ i =>
   rw [List.getElem?_append_right (by rw [cells8]; omega), cells8, show (i + 1) * 8 + j - 8 = i * 8 + j by omega, <- h2 i (by simpa using hi) j hj]
   rfl
def SubsI (w : World) : List FD -> List Value -> Prop
 | f :: r, s :: ss => FdsI w s f.sub /\ SubsI w r ss
 | _, _ => True
theorem SubsI.at {w : World} : ∀ {fs : List FD} {subs : List Value}, subs.length = fs.length -> SubsI w fs subs -> ∀ i (h : i < fs.length), FdsI w (subs.getD i undef) (fs[i]).sub
 | [], _, _, _, i, h => by simp at h
 | f :: r, [], h, _, _, _ => by simp at h
 | f :: r, s :: ss, h, hs, i, hi => by
  cases i with
  | zero => exact hs.1
  | succ i => exact SubsI.at (by simpa using h) hs.2 i (by simpa using hi)
theorem FdsI.of {w : World} {k : Nat} {C : Array Value} {T : TypeId} {fr : Nat × Nat} {fs : List FD} (subs : List Value) (hk : w.heap[k]? = some (.cells C T fr)) (hl : subs.length = fs.length) (hm : fs.length <= maxLen) (hC : C.toList = fcells fs subs) (hs : SubsI w fs subs) : FdsI w (.slice (some ⟨k, 0, none⟩) fs.length fs.length) fs := by
 obtain ⟨h1, h2⟩ := fcells_at fs subs hl
 refine .mk (fc := fun i j => (fcells fs subs).getD (i * 8 + j) undef) (sv := fun i => subs.getD i undef) (.inr ⟨k, 0, fs.length, C, T, fr, rfl, Nat.le_refl _, hm, hk, fun i hi j hj => ?_⟩) (fun i hi j hj => ?_) (fun i hi => SubsI.at hl hs i hi)
 ·rw [Nat.zero_add, <- Array.getElem?_toList, hC]
  show _ = some ((fcells fs subs).getD (i * 8 + j) undef)
  rw [List.getD_eq_getElem?_getD, List.getElem?_eq_getElem (by omega)]; rfl
 ·rw [h2 i hi j hj]
  show _ = some ((fcells fs subs).getD (i * 8 + j) undef)
  rw [List.getD_eq_getElem?_getD, List.getElem?_eq_getElem (by omega)]; rfl
theorem zeroMsg : zeroOf Tryz.prog 31 = some (.agg #[.slice none 0 0, .int .i64 0]) := by kernel_rfl
theorem zeroTr : zeroOf Tryz.prog 37 = some (.agg #[.int .i64 0, .slice none 0 0, .bool false, .slice none 0 0, .slice none 0 0]) := by kernel_rfl
/-- a new variable that is filled whole -/
theorem store_new (w : World) (T : TypeId) {zc cs : Array Value} (h : zc.size = cs.size) : ((w.alloc (.cells zc T)).setCells w.heap.size 0 cs.toList).heap[w.heap.size]? = some (.cells cs T (0, 0)) /\ Mod none' w ((w.alloc (.cells zc T)).setCells w.heap.size 0 cs.toList) := by
 have b1 := Zh w (.cells zc T)
 have o1 : Mod none' w (w.alloc (.cells zc T)) := (Mod.refl w).alloc _
 have l1 : (w.alloc (.cells zc T)).heap.size = w.heap.size + 1 := by simp
 obtain ⟨C1, k1, k2, k3, k4⟩ := heap_setCells (w := w.alloc (.cells zc T)) cs.toList 0 _ b1
 have hC1 : C1 = cs := by
  apply Array.ext
  ·omega
  ·intro i h1 h2
   have := k3 i (by simpa using h2) (by omega)
   rw [Nat.zero_add, Array.getElem?_eq_getElem h1] at this
   simpa [h2] using this
 subst hC1
 have p1 := mod_setCells w.heap.size (w.alloc (.cells zc T)) 0 C1.toList
 exact ⟨k1, o1.trans' p1 (fun _ _ f => f) (fun j hj e => by have : j = w.heap.size := e; omega)⟩
theorem there_new {w : World} {T : TypeId} {zc cs : Array Value} (h : zc.size = cs.size) : (w.alloc (.cells zc T)).there w.heap.size 0 cs.size := by
 have b1 := Zh w (.cells zc T)
 intro j hj
 rw [Zc b1, Zz b1, Array.getElem?_eq_getElem (by omega)]
 exact ⟨rfl, rfl⟩
theorem upto_len {fs : List FD} (hn : aL fs + zL fs + 10 <= 4095) {ver : Int} {fl : Bool} {t : Tr} (ht : TOk t) (hb : t.bulk <= 1048576) : (partW fs ver fl t).length <= 4294967295 := by
 have h1 := partW_bulk fs ver fl t ht
 have h2 := Nat.mul_le_mul hn hb
 omega
theorem spec_end {w1 : World} {b TM : Nat} {x0 x1 y0 y1 : Value} {cells : Array Value} {T : TypeId} (hb : w1.heap[b]? = some (.cells #[x0, x1] TM (0, 0))) :
  (((w1.setCell ⟨b, 0, none⟩ y0).setCell ⟨b, 1, none⟩ y1).alloc (.cells cells T)).heap[b]? = some (.cells #[y0, y1] TM (0, 0)) /\ (((w1.setCell ⟨b, 0, none⟩ y0).setCell ⟨b, 1, none⟩ y1).alloc (.cells cells T)).heap[w1.heap.size]? = some (.cells cells T (0, 0)) /\
  Mod (only b) w1 (((w1.setCell ⟨b, 0, none⟩ y0).setCell ⟨b, 1, none⟩ y1).alloc (.cells cells T)) := by
 have h1 : (w1.setCell ⟨b, 0, none⟩ y0).heap[b]? = some (.cells #[y0, x1] TM (0, 0)) := by
  have := heap_setCell_same (o := 0) hb y0
  simpa using this
 have h2 : ((w1.setCell ⟨b, 0, none⟩ y0).setCell ⟨b, 1, none⟩ y1).heap[b]? = some (.cells #[y0, y1] TM (0, 0)) := by
  have := heap_setCell_same (o := 1) h1 y1
  simpa using this
 have m1 : Mod (only b) w1 (w1.setCell ⟨b, 0, none⟩ y0) := (Mod.refl w1).put _ _
 have m2 : Mod (only b) w1 ((w1.setCell ⟨b, 0, none⟩ y0).setCell ⟨b, 1, none⟩ y1) := m1.trans' (((Mod.refl (w1.setCell ⟨b, 0, none⟩ y0)).put 1 y1 : Mod (only b) _ _)) (fun _ _ h => h) (fun _ _ h => h)
 have e : ((w1.setCell ⟨b, 0, none⟩ y0).setCell ⟨b, 1, none⟩ y1).heap.size = w1.heap.size := by simp
 refine ⟨((Mod.refl (S := none') _).alloc _).some h2 (fun f => f), ?_, m2.alloc _⟩
 have := Zh ((w1.setCell ⟨b, 0, none⟩ y0).setCell ⟨b, 1, none⟩ y1) (.cells cells T)
 rwa [e] at this
theorem write_c {w : World} {v : Value} {fs : List FD} {fx ver : Int} {ct : Array Value} {t : Tr} (hg : goodL fs = true) (hf : FdsI w v fs) (hct : ct.size = 5) (ht : TreeI w (from' ct 0) t) (hlen : (partW fs ver (flexW fx ver) t).length <= 4294967295) :
  BytesC Tryz.prog 16 #[.agg #[v, .int .i64 fx], .int .i64 ver, .agg ct] w (partW fs ver (flexW fx ver) t) := by
 have hp : ∀ W, Mod none' w W -> BytesC Tryz.prog 50 #[v, .int .i64 ver, .bool (flexW fx ver), .agg ct] W (partW fs ver (flexW fx ver) t) := fun W hm => part_all hg (hf.mod hm) hct (ht.mod hm) hlen
 obtain ⟨a1, c1, a3, c3, a4, c4, rfl, _⟩ := ht.lit hct
 obtain ⟨ao, cap, rfl⟩ := hf.slice
 generalize fs.length = nfs at *
 generalize hout : partW fs ver (flexW fx ver) t = out at *
 generalize t.S.length = n1, t.L.length = n3, t.U.length = n4, t.N = nn, t.Z = zz at *
 clear hlen ht hf hg hct hout
 have fin : ∀ (w2 : World) (b : Value), Mod none' w ((w.alloc (.cells #[.slice ao nfs cap, .int .i64 fx] 31)).alloc (.cells #[.int .i64 nn, .slice a1 n1 c1, .bool zz, .slice a3 n3 c3, .slice a4 n4 c4] 26)) := fun _ _ => ((Mod.refl w).alloc _).alloc _
 have fin := fin w undef
 by_cases h1 : 0 <= fx
 ·by_cases h2 : fx <= ver
  ·have e : flexW fx ver = true := by simp [flexW, h1, h2]
   rw [e] at hp
   go_enter Tryz.func16, Tryz.ntmps16
   go_wp2_with (go_at_call 50; refine (hp _ fin).mono ?_; rintro e w2 ⟨b, rfl, hm2, ho⟩)
   go_ret
   exact ⟨_, rfl, fin.trans hm2, ho.low (by simp <;> omega)⟩
  ·have e : flexW fx ver = false := by simp [flexW, h1, h2]
   rw [e] at hp
   go_enter Tryz.func16, Tryz.ntmps16
   go_wp2_with (go_at_call 50; refine (hp _ fin).mono ?_; rintro e w2 ⟨b, rfl, hm2, ho⟩)
   go_ret
   exact ⟨_, rfl, fin.trans hm2, ho.low (by simp <;> omega)⟩
 ·have e : flexW fx ver = false := by simp [flexW, h1]
  rw [e] at hp
  go_enter Tryz.func16, Tryz.ntmps16
  go_wp2_with (go_at_call 50; refine (hp _ fin).mono ?_; rintro e w2 ⟨b, rfl, hm2, ho⟩)
  go_ret
  exact ⟨_, rfl, fin.trans hm2, ho.low (by simp <;> omega)⟩
set_option maxRecDepth 100000 in
/-- 'ok && Told(m.Fields, version, m.Flexible(version), t, got(x))' -/
theorem tell_last {w : World} {a : Act} {b3 b6 b8 nfs cap : Nat} {ao : Option Addr} {fx ver : Int} {ct cx : Array Value} {x : Tr} {T3 T6 T8 : TypeId} {id : Nat} {y0 y1 y2 y3 y4 y5 y6 y7 y8 y9 y10 y11 y12 y13 : TypeId} {p0 p1 p2 p3 p4 p5 p6 p7 p8 p9 p10 p11 p12 p13 : String} {ts7 ts10 ts11 : Array TypeId} (hN : a.tmps.size = 42)
  (g3 : Act.get a 3 = .pointer (some ⟨b3, 0, none⟩)) (g6 : Act.get a 6 = .pointer (some ⟨b6, 0, none⟩)) (g7 : Act.get a 7 = .int .i64 ver) (g8 : Act.get a 8 = .pointer (some ⟨b8, 0, none⟩)) (g9 : Act.get a 9 = .bool true)
  (h3 : w.heap[b3]? = some (.cells ct T3 (0, 0))) (hct : ct.size = 5) (h6 : w.heap[b6]? = some (.cells #[.slice ao nfs cap, .int .i64 fx] T6 (0, 0))) (h8 : w.heap[b8]? = some (.cells cx T8 (0, 0))) (hcx : cx.size = 5) (hx : TreeR w (fun _ => True) (from' cx 0) x)
  (hT : ∀ W cg, Mod none' w W -> cg.size = 5 -> TreeI W (from' cg 0) x -> ToldsC (.slice ao nfs cap) ct cg ver (flexW fx ver) W) :
  (Code.region id #[⟨some 29, .move (.tmp 9), y0, p0, #[], none⟩,
   ⟨some 30, .move (.tmp 29), y1, p1, #[⟨0, .data⟩], none⟩,
   ⟨some 31, .fieldAddr 31 (.tmp 6) 0, y2, p2, #[⟨1, .guard⟩], some (1, true)⟩,
   ⟨some 32, .load 29 (.tmp 31), y3, p3, #[⟨2, .data⟩, ⟨1, .guard⟩], some (1, true)⟩,
   ⟨some 33, .move (.tmp 7), y4, p4, #[⟨1, .guard⟩], some (1, true)⟩,
   ⟨some 34, .load 31 (.tmp 6), y5, p5, #[⟨1, .guard⟩], some (1, true)⟩,
   ⟨some 35, .move (.tmp 7), y6, p6, #[⟨1, .guard⟩], some (1, true)⟩,
   ⟨some 36, .call ⟨.value (.func 18), #[.tmp 34, .tmp 35], ts7⟩, y7, p7, #[⟨5, .data⟩, ⟨6, .data⟩, ⟨1, .chain⟩, ⟨1, .guard⟩], some (1, true)⟩,
   ⟨some 37, .load 26 (.tmp 3), y8, p8, #[⟨1, .guard⟩], some (1, true)⟩,
   ⟨some 38, .load 37 (.tmp 8), y9, p9, #[⟨1, .guard⟩], some (1, true)⟩,
   ⟨some 39, .call ⟨.value (.func 19), #[.tmp 38], ts10⟩, y10, p10, #[⟨9, .data⟩, ⟨7, .chain⟩, ⟨1, .guard⟩], some (1, true)⟩,
   ⟨some 40, .call ⟨.value (.func 17), #[.tmp 32, .tmp 33, .tmp 36, .tmp 37, .tmp 39], ts11⟩, y11, p11, #[⟨3, .data⟩, ⟨4, .data⟩, ⟨7, .data⟩, ⟨8, .data⟩, ⟨10, .data⟩, ⟨10, .chain⟩, ⟨1, .guard⟩], some (1, true)⟩,
   ⟨some 41, .pick (.tmp 30) (.tmp 40) (.const (.bool false)), y12, p12, #[⟨1, .data⟩, ⟨11, .data⟩], none⟩,
   ⟨some 4, .assign (.tmp 41), y13, p13, #[⟨12, .data⟩, ⟨11, .chain⟩, ⟨0, .phase⟩, ⟨1, .phase⟩, ⟨2, .phase⟩, ⟨3, .phase⟩, ⟨4, .phase⟩, ⟨5, .phase⟩, ⟨6, .phase⟩, ⟨7, .phase⟩, ⟨8, .phase⟩, ⟨9, .phase⟩, ⟨10, .phase⟩, ⟨11, .phase⟩, ⟨12, .phase⟩], none⟩] true).wp Tryz.prog
  (fun e a' w' => e = .normal /\ Mod none' w w' /\ Act.get a' 4 = .bool true /\ a'.defers = a.defers) a w := by
 refine region_rlg (l := [_, _, _, _, _, _, _, _, _, _, _, _, _]) (tl := [_]) rfl (Mod none') (Mod.refl w).drew (fun a => .refl a) (fun _ _ _ h h' => h.trans h') [29, 30, 31, 32, 33, 34, 35, 36, 37, 38, 39, 40, 41]
  [fun v _ => v = .bool true, fun v _ => v = .bool true, fun v _ => v = .pointer (some ⟨b6, 0 + 0, none⟩), fun v _ => v = .slice ao nfs cap, fun v _ => v = .int .i64 ver, fun v _ => v = .agg (#[.slice ao nfs cap, .int .i64 fx]), fun v _ => v = .int .i64 ver, fun v _ => v = .bool (flexW fx ver), fun v _ => v = .agg (ct), fun v _ => v = .agg (cx), fun v w' => ∃ cg : Array Value, v = .agg cg /\ cg.size = 5 /\ TreeI w' (from' cg 0) x, fun v _ => v = .bool true, fun v _ => v = .bool true]
  ?_ (by rfl) (by decide) (fun d hd => by rw [hN]; simp at hd; omega) (by simp) (by kernel_rfl) ⟨?_, ?_, ?_, ?_, ?_, ?_, ?_, ?_, ?_, ?_, ?_, ?_, ?_, trivial⟩ ?_
 ·intro g hg u1 w1 w2 hv hr
  simp only [List.mem_cons, List.not_mem_nil, or_false] at hg
  rcases hg with rfl | rfl | rfl | rfl | rfl | rfl | rfl | rfl | rfl | rfl | rfl | rfl | rfl
  ·exact hv
  ·exact hv
  ·exact hv
  ·exact hv
  ·exact hv
  ·exact hv
  ·exact hv
  ·exact hv
  ·exact hv
  ·exact hv
  ·exact (by obtain ⟨cg, h1, h2, h3⟩ := hv; exact ⟨cg, h1, h2, h3.mod hr⟩)
  ·exact hv
  ·exact hv
 ·intro a1 w1 hr hs hd
  refine .inl ⟨rfl, ?_⟩
  have t1 := (hs.get 9 (by decide)).trans g9
  exact Zw (x_moveV t1) ⟨_, rfl, (.refl _), rfl⟩
 ·intro a1 w1 hr hs hd
  refine .inl ⟨rfl, ?_⟩
  have t0 : Act.get a1 29 = .bool true := hd ⟨0, .data⟩ (by simp) rfl
  exact Zw (x_moveV t0) ⟨_, rfl, (.refl _), rfl⟩
 ·intro a1 w1 hr hs hd
  refine .inl ⟨⟨by decide, true, hd ⟨1, .guard⟩ (by simp) rfl, by rfl⟩, ?_⟩
  have t1 := (hs.get 6 (by decide)).trans g6
  exact Zw (Za (o := 0) (by kernel_rfl) (b := b6) (o0 := 0) (by rw [Ze]; exact t1)) ⟨_, rfl, (.refl _), rfl⟩
 ·intro a1 w1 hr hs hd
  refine .inl ⟨⟨by decide, true, hd ⟨1, .guard⟩ (by simp) rfl, by rfl⟩, ?_⟩
  have t1 : Act.get a1 31 = .pointer (some ⟨b6, 0 + 0, none⟩) := hd ⟨2, .data⟩ (by simp) rfl
  have k1 := hr.some h6 (fun f => f)
  exact Zw (Zl (by kernel_rfl) (b := b6) (o := 0 + 0) (v := .slice ao nfs cap) (by rw [Ze]; exact t1) (by rw [Zc k1]; exact rfl)) ⟨_, rfl, (.refl _), rfl⟩
 ·intro a1 w1 hr hs hd
  refine .inl ⟨⟨by decide, true, hd ⟨1, .guard⟩ (by simp) rfl, by rfl⟩, ?_⟩
  have t1 := (hs.get 7 (by decide)).trans g7
  exact Zw (x_moveV t1) ⟨_, rfl, (.refl _), rfl⟩
 ·intro a1 w1 hr hs hd
  refine .inl ⟨⟨by decide, true, hd ⟨1, .guard⟩ (by simp) rfl, by rfl⟩, ?_⟩
  have t1 := (hs.get 6 (by decide)).trans g6
  have k1 := hr.some h6 (fun f => f)
  refine Zw (x_loadN (cs := (#[.slice ao nfs cap, .int .i64 fx]).toList) (b := b6) (o := 0) (by kernel_rfl) (by rw [Ze]; exact t1) (fun j v hv => by rw [Zc k1, Nat.zero_add]; simpa using hv)) ⟨_, rfl, (.refl _), by simp⟩
 ·intro a1 w1 hr hs hd
  refine .inl ⟨⟨by decide, true, hd ⟨1, .guard⟩ (by simp) rfl, by rfl⟩, ?_⟩
  have t1 := (hs.get 7 (by decide)).trans g7
  exact Zw (x_moveV t1) ⟨_, rfl, (.refl _), rfl⟩
 ·intro a1 w1 hr hs hd
  refine .inl ⟨⟨by decide, true, hd ⟨1, .guard⟩ (by simp) rfl, by rfl⟩, ?_⟩
  have q5 : Act.get a1 34 = .agg #[.slice ao nfs cap, .int .i64 fx] := hd ⟨5, .data⟩ (by simp) rfl
  have q6 : Act.get a1 35 = .int .i64 ver := hd ⟨6, .data⟩ (by simp) rfl
  have e1 : (#[.tmp 34, .tmp 35] : Array Operand).map a1.eval = #[.agg #[.slice ao nfs cap, .int .i64 fx], .int .i64 ver] := by simp [Ze, q5, q6]
  refine owp_call (Zy (by kernel_rfl) rfl) (by rw [e1]; exact flexible_c) ?_
  rintro e w2 ⟨rfl, hm⟩
  exact ⟨_, rfl, _, rfl, hm, rfl⟩
 ·intro a1 w1 hr hs hd
  refine .inl ⟨⟨by decide, true, hd ⟨1, .guard⟩ (by simp) rfl, by rfl⟩, ?_⟩
  have t1 := (hs.get 3 (by decide)).trans g3
  have k1 := hr.some h3 (fun f => f)
  refine Zw (x_loadN (cs := (ct).toList) (b := b3) (o := 0) (by rw [Array.length_toList, hct]; kernel_rfl) (by rw [Ze]; exact t1) (fun j v hv => by rw [Zc k1, Nat.zero_add]; simpa using hv)) ⟨_, rfl, (.refl _), by simp⟩
 ·intro a1 w1 hr hs hd
  refine .inl ⟨⟨by decide, true, hd ⟨1, .guard⟩ (by simp) rfl, by rfl⟩, ?_⟩
  have t1 := (hs.get 8 (by decide)).trans g8
  have k1 := hr.some h8 (fun f => f)
  refine Zw (x_loadN (cs := (cx).toList) (b := b8) (o := 0) (by rw [Array.length_toList, hcx]; kernel_rfl) (by rw [Ze]; exact t1) (fun j v hv => by rw [Zc k1, Nat.zero_add]; simpa using hv)) ⟨_, rfl, (.refl _), by simp⟩
 ·intro a1 w1 hr hs hd
  refine .inl ⟨⟨by decide, true, hd ⟨1, .guard⟩ (by simp) rfl, by rfl⟩, ?_⟩
  have q9 : Act.get a1 38 = .agg cx := hd ⟨9, .data⟩ (by simp) rfl
  have e1 : (#[.tmp 38] : Array Operand).map a1.eval = #[.agg cx] := by simp [Ze, q9]
  refine owp_call (Zy (by kernel_rfl) rfl) (R := fun e w' => ∃ v, e = .returned v /\ Mod none' w1 w' /\ TreeV w' (fun _ => True) v x) ?_ ?_
  ·rw [e1]
   exact (got_spec _ x (Nat.lt_succ_self _) cx w1 (fun _ => True) hcx (hx.mod hr (fun _ _ f => f) (fun _ _ => trivial))).mono fun e w' ⟨v, h1, h2, h3⟩ => ⟨v, h1, h2, h3.mod (Mod.refl (S := none') w') (fun _ _ f => f) (fun _ _ => trivial)⟩
  ·rintro e w2 ⟨v, rfl, hm, cg, rfl, hc5, _, htr⟩
   exact ⟨_, rfl, _, rfl, hm, cg, rfl, hc5, htr.toI⟩
 ·intro a1 w1 hr hs hd
  refine .inl ⟨⟨by decide, true, hd ⟨1, .guard⟩ (by simp) rfl, by rfl⟩, ?_⟩
  have q3 : Act.get a1 32 = .slice ao nfs cap := hd ⟨3, .data⟩ (by simp) rfl
  have q4 : Act.get a1 33 = .int .i64 ver := hd ⟨4, .data⟩ (by simp) rfl
  have q7 : Act.get a1 36 = .bool (flexW fx ver) := hd ⟨7, .data⟩ (by simp) rfl
  have q8 : Act.get a1 37 = .agg ct := hd ⟨8, .data⟩ (by simp) rfl
  obtain ⟨cg, q10, hc5, hxi⟩ : ∃ cg : Array Value, Act.get a1 39 = .agg cg /\ cg.size = 5 /\ TreeI w1 (from' cg 0) x := hd ⟨10, .data⟩ (by simp) rfl
  have e1 : (#[.tmp 32, .tmp 33, .tmp 36, .tmp 37, .tmp 39] : Array Operand).map a1.eval = #[.slice ao nfs cap, .int .i64 ver, .bool (flexW fx ver), .agg ct, .agg cg] := by simp [Ze, q3, q4, q7, q8, q10]
  refine owp_call (Zy (by kernel_rfl) rfl) (by rw [e1]; exact hT w1 cg hr hc5 hxi) ?_
  rintro e w2 ⟨rfl, hm⟩
  exact ⟨_, rfl, _, rfl, hm, rfl⟩
 ·intro a1 w1 hr hs hd
  refine .inl ⟨rfl, ?_⟩
  have q1 : Act.get a1 30 = .bool true := hd ⟨1, .data⟩ (by simp) rfl
  have q2 : Act.get a1 40 = .bool true := hd ⟨11, .data⟩ (by simp) rfl
  exact Zw (x_pickT q1 q2) ⟨_, rfl, (.refl _), rfl⟩
 ·intro a1 w1 hr hs hh
  have q : Act.get a1 41 = .bool true := hh 12 (by simp)
  refine Zv rfl Zi (wpList_nil ⟨rfl, hr, ?_, (Zd _ _ _).trans hs.defers⟩)
  rw [Zq (by rw [hs.size, hN]; decide)]
  exact q
end Go.Proofs.YtpecdnfmlodmaaaGreatDoorR
