/-
  What package spec tells of trees: a value that is no part is told as it was written, or as it is by default.
  The reader of package spec: whether fields are told as they are by default.
  The reader of package spec: whether a part is told as it was written.
  The bounds on the sizes of what came in: they answer, and leave all as it was.
  A field that a function of its own tells; a part that may be none; a part within. No program in it.
  What the laws share: a remainder; which version is taken.
  What the laws of telling share.
  The doors that read a message and write it behind octets.
-/
import Derived.Lib.Hide
import Derived.Test.YtmehfgiadapekaaGreatPWp
import Derived.Test.YtmehfgiadapekaaGreatPWl
import Derived.Test.YtmehfgiadapekaaGreatPYv
set_option linter.unusedSimpArgs false
set_option linter.unusedVariables false
namespace Go.Proofs.YtmehfgiadapekaaGreat
open Go Go.RowKit
theorem OctI.s {w : World} {v : Value} {s : List UInt8} (h : OctI w v s) : OctS w v s := by
 rcases h with ⟨rfl, ao, cap, h⟩ | ⟨sb, off, cap, c, t, fr, h1, h2, h3, h4, h5⟩
 ·exact ⟨ao, cap, h, by simp, fun h => by simp at h⟩
 ·exact ⟨_, cap, h1, by omega, fun _ => ⟨sb, off, c, t, fr, rfl, h4, h5⟩⟩
theorem TreeR.toI {w : World} {F : Nat -> Prop} {c : Nat -> Value} {t : Tr} (h : TreeR w F c t) : TreeI w c t := by
 have hE : ∀ {v : Value} {n sz : Nat} {f : Nat -> Nat -> Value}, Elems w F v n sz f -> ElemsI w v n sz f := fun h => by
  rcases h with ⟨h1, h2⟩ | ⟨k, off, cap, C, t, fr, h1, h2, h3, h4, h5, h6⟩
  ·exact .inl ⟨h1, _, _, by rw [h2]⟩
  ·exact .inr ⟨k, off, cap, C, t, fr, h2, h3, h4, h5, h6⟩
 induction h with
 | mk h0 hn h1 h2 hb h3 h3' h4 h4' ih => exact .mk h0 hn (OctI.of_oct h1) h2 (hE h3) ih (hE h4) (fun i hi => ⟨(h4' i hi).1, (h4' i hi).2.1, by obtain ⟨nl, ho⟩ := (h4' i hi).2.2; exact OctI.of_oct ho⟩)
end Go.Proofs.YtmehfgiadapekaaGreat
set_option linter.unusedSimpArgs false
set_option linter.unusedVariables false
namespace Go.Proofs.YtmehfgiadapekaaGreat
open Go Go.RowKit
/-- a tree's cells, written out -/
theorem TreeI.lit {w : World} {cs : Array Value} {t : Tr} (hcs : cs.size = 5) (h : TreeI w (from' cs 0) t) : ∃ a1 c1 a3 c3 a4 c4, cs = #[.int .i64 t.N, .slice a1 t.S.length c1, .bool t.Z, .slice a3 t.L.length c3, .slice a4 t.U.length c4] /\ fits .i64 t.N /\ OctI w (.slice a1 t.S.length c1) t.S /\
  TreeI w (from' #[.int .i64 t.N, .slice a1 t.S.length c1, .bool t.Z, .slice a3 t.L.length c3, .slice a4 t.U.length c4] 0) t := by
 have h' := h
 have e5 := arr5 hcs
 cases h with
 | @mk _ n s z l u f g h0 hn h1 h2 h3 h3' h4 h4' =>
 obtain ⟨a1, c1, e1, _⟩ := h1.slice
 obtain ⟨a3, c3, e3⟩ := h3.slice
 obtain ⟨a4, c4, e4⟩ := h4.slice
 rw [h0, h2, e1, e3, e4] at e5
 rw [e5] at h'
 exact ⟨a1, c1, a3, c3, a4, c4, e5, hn, e1 ▸ h1, h'⟩
theorem OctS.mod {w w' : World} {v : Value} {s : List UInt8} (h : OctS w v s) (hm : Mod none' w w') : OctS w' v s := by
 obtain ⟨ao, cap, h1, h2, h3⟩ := h
 refine ⟨ao, cap, h1, h2, fun hp => ?_⟩
 obtain ⟨sb, off, c, t, fr, q1, q2, q3⟩ := h3 hp
 exact ⟨sb, off, c, t, fr, q1, hm.some q2 (fun f => f), q3⟩
mutual
/-- the defaults are numbers of the program -/
def FD.dok : FD -> Bool
 | .mk _ _ _ _ _ dflt _ sub => decide (-9223372036854775808 <= dflt) && decide (dflt <= 9223372036854775807) && dokL sub
def dokL : List FD -> Bool
 | [] => true
 | f :: r => f.dok && dokL r
end
end Go.Proofs.YtmehfgiadapekaaGreat
set_option linter.unusedSimpArgs false
set_option linter.unusedVariables false
namespace Go.Proofs.YtmehfgiadapekaaGreat
open Go Go.RowKit
mutual
/-- only texts, octets, parts and lists may be null -/
def FD.nok : FD -> Bool
 | .mk kind _ _ null _ _ _ sub => (decide (kind = 8) || decide (kind = 9) || decide (kind = 10) || decide (kind = 11) || decide (null = -1)) && nokL sub
def nokL : List FD -> Bool
 | [] => true
 | f :: r => f.nok && nokL r
end
/-- fields that are written and told as they should -/
def goodL (fs : List FD) : Bool := plainL fs && dokL fs && nokL fs
theorem part_all {fs : List FD} (hg : goodL fs = true) {w : World} {v : Value} {ct : Array Value} {ver : Int} {flex : Bool} {t : Tr} (hf : FdsI w v fs) (hct : ct.size = 5) (ht : TreeI w (from' ct 0) t) (hlen : (partW fs ver flex t).length <= 4294967295) :
  BytesC Tryz.prog 28 #[v, .int .i64 ver, .bool flex, .agg ct] w (partW fs ver flex t) := by
 simp only [goodL, Bool.and_eq_true] at hg
 exact part_ok (fields_ok fs hg.1.1) hf hct ht hlen
end Go.Proofs.YtmehfgiadapekaaGreat
set_option linter.unusedSimpArgs false
set_option linter.unusedVariables false
namespace Go.Proofs.YtmehfgiadapekaaGreat
open Go Go.RowKit
def SomeBool (w : World) (e : Ending) (w' : World) : Prop := ∃ b : Bool, e = .returned (.bool b) /\ Mod none' w w'
theorem zz3_c {w : World} {k : Int} {v : Value} {bs : List UInt8} (h : OctI w v bs) : Calls Tryz.prog 36 #[.agg #[.int .u32 k, v]] w (SomeBool w) := by
 obtain ⟨ao, cap, rfl, _⟩ := h.slice
 clear h
 go_enter Tryz.func36, Tryz.ntmps36
 go_wp2
 all_goals
  go_ret
  exact ⟨_, rfl, (Mod.refl w).alloc _⟩
set_option maxHeartbeats 1000000 in
theorem zz2_c {w : World} {v : Value} {u : Tags} {g : Nat -> Nat -> Value} (hE : ElemsI w v u.length 2 g) (hg : ∀ i (h : i < u.length), g i 0 = .int .u32 (u[i]).1 /\ fits .u32 (u[i]).1 /\ OctI w (g i 1) (u[i]).2) :
  Calls Tryz.prog 17 #[v] w (SomeBool w) := by
 obtain ⟨ao, cap, rfl⟩ := hE.slice
 go_enter Tryz.func17, Tryz.ntmps17
 go_wp2
 ·go_ret
  exact ⟨_, rfl, .refl w⟩
 ·go_loopw [10] (fun i wr => ∃ k : Nat, k <= u.length /\ i = .int .i64 k /\ Mod none' w wr) (fun i _ => u.length - (Go.RowKit.intOf i).toNat)
  case atStart => exact ⟨0, by omega, rfl, .refl w⟩
  case round =>
   obtain ⟨k, hk, rfl, hm⟩ := hrel
   by_cases hlt : k < u.length
   ·have hE' := hE.mod hm
    obtain ⟨kb, off, rfl, C, Tk, fr', hC1, hC2⟩ : ∃ kb off, ao = some ⟨kb, off, none⟩ /\ ∃ C T fr, wr.heap[kb]? = some (.cells C T fr) /\ ∀ i, i < u.length -> ∀ j, j < 2 -> C[off + i * 2 + j]? = some (g i j) := by
     rcases hE' with ⟨h0', _⟩ | ⟨kb, off, cap', C, T, fr', r1, r2, r3, r4, r5⟩
     ·omega
     ·obtain ⟨rfl, rfl⟩ : ao = some ⟨kb, off, none⟩ /\ cap = cap' := by simpa using r1
      exact ⟨kb, off, rfl, C, T, fr', r4, r5⟩
    obtain ⟨q1, q2, q3⟩ := hg k hlt
    have c0 : wr.cell? ⟨kb, off + k * 2, none⟩ = some (.int .u32 (u[k]).1) := by rw [Zc hC1, <- q1]; exact hC2 k hlt 0 (by omega)
    have c1 : wr.cell? ⟨kb, off + k * 2 + 1, none⟩ = some (g k 1) := by rw [Zc hC1]; exact hC2 k hlt 1 (by omega)
    have q4 := q3.mod hm
    generalize g k 1 = gv at *
    generalize u[k] = up at *
    clear hC1 hC2 hE hE' hg q1 q2 q3
    obtain ⟨ga, gc, rfl, _⟩ := q4.slice
    go_wp2_with (go_at_call 36; refine (zz3_c (q4.mod ((Mod.refl wr).alloc _))).mono ?_; rintro e w2 ⟨b, rfl, hm2⟩; have hm3 := hm.trans (((Mod.refl wr).alloc _).trans hm2); cases b)
    ·go_ret
     exact ⟨_, rfl, hm3⟩
    ·go_roundw
     case rel => exact ⟨k + 1, by omega, by go_num, hm3⟩
     case measure => first | omega | (simp [Go.RowKit.intOf]; omega)
   ·go_wp2
    go_ret
    exact ⟨_, rfl, hm⟩
theorem zz1_c {w : World} {cs : Array Value} {t : Tr} (hcs : cs.size = 5) (ht : TreeI w (from' cs 0) t) : Calls Tryz.prog 5 #[.agg cs] w (SomeBool w) := by
 have e5 := arr5 hcs
 rw [e5]
 generalize from' cs 0 = c at *
 clear e5 hcs
 cases ht with
 | @mk _ n s z l u f g h0 hn h1 h2 h3 h3' h4 h4' =>
 rw [h0, h2]
 obtain ⟨a1, c1, e1, _⟩ := h1.slice
 obtain ⟨a3, c3, e3⟩ := h3.slice
 obtain ⟨a4, c4, e4⟩ := h4.slice
 rw [e1, e3, e4]
 have hz := fun W (hm : Mod none' w W) => zz2_c ((e4 ▸ h4).mod hm) (fun i h => ⟨(h4' i h).1, (h4' i h).2.1, (h4' i h).2.2.mod hm⟩)
 clear h0 h1 h2 h3 h3' h4 h4' e1 e3 e4
 go_enter Tryz.func5, Tryz.ntmps5
 go_wp2_with (go_at_call 17; refine (hz _ ((Mod.refl w).alloc _)).mono ?_; rintro e w2 ⟨b, rfl, hm2⟩; have hm3 := ((Mod.refl w).alloc _).trans hm2; cases b)
 all_goals
  go_ret
  first | exact ⟨_, rfl, hm3⟩ | exact ⟨_, rfl, (Mod.refl w).alloc _⟩
end Go.Proofs.YtmehfgiadapekaaGreat
set_option linter.unusedSimpArgs false
set_option linter.unusedVariables false
namespace Go.Proofs.YtmehfgiadapekaaGreat
open Go Go.RowKit
def Ty.leafE : Ty -> Bool
 | .pstruct _ _ _ => true
 | t => t.leaf
end Go.Proofs.YtmehfgiadapekaaGreat
set_option linter.unusedSimpArgs false
set_option linter.unusedVariables false
namespace Go.Proofs.YtmehfgiadapekaaGreat
open Go Go.RowKit
section
variable {P : Program} {ρ : Operand -> Value} {w : World} {d : Option Tmp} {ty : TypeId} {p : String} {af : Array Edge} {g : Option (Nat × Bool)}
theorem x_rem {x y : Operand} {t u : TypeId} {k : IntKind} {m n : Int} (hx : ρ x = .int k m) (hy : ρ y = .int k n) (h0 : n ≠ 0) : (execOp ρ ⟨d, .binOp .rem t x y u, ty, p, af, g⟩).run P w = .ok (.value (.int k (m.tmod n))) w := by
 simp [execOp, hx, hy, eqGuard, binOp, Op.intDiv, h0]
end
theorem version_spec {n m : Int} (hm : IntKind.i64.wrap (m + 1) ≠ 0) (w : World) : Calls Tryz.prog 8 #[.int .u8 n, .int .i64 m] w fun e w' => e = .returned (.int .i64 ((IntKind.i64.wrap n).tmod (IntKind.i64.wrap (m + 1)))) /\ w = w' := by
 refine calls_of_wp Tryz.func8 rfl ?_
 refine wp_act (fun a : Act => Act.get a 0 = .int .u8 n /\ Act.get a 1 = .int .i64 m /\ a.tmps.size = 10 /\ a.defers = []) ⟨rfl, rfl, rfl, rfl⟩ ?_
 rintro a ⟨a0, a1, aN, ad⟩
 refine wp_seq (wp_region_lit (Zv rfl Zi (wpList_nil ?_)))
 refine wp_seq (wp_region_lit (Zv rfl Zm (Zv rfl (x_convInt (n := n) (k := .u8) (k' := .i64) (by kernel_rfl) (by kernel_rfl) ?_) (Zv rfl Zm (Zv rfl (x_add (k := .i64) (m := m) (n := 1) ?_ rfl) (Zv rfl (x_rem (k := .i64) (m := IntKind.i64.wrap n) (n := IntKind.i64.wrap (m + 1)) ?_ ?_ hm) (Zv rfl Zi (wpList_nil ?_))))))))
 ·simp (disch := first | omega | simp only [Zs]; omega) only [Zo, Ze, Zn, Zq, a0]
 ·simp (disch := first | omega | simp only [Zs]; omega) only [Zo, Ze, Zn, Zq, a1]
 ·simp (disch := first | omega | simp only [Zs]; omega) only [Zo, Ze, Zn, Zq]
 ·simp (disch := first | omega | simp only [Zs]; omega) only [Zo, Ze, Zn, Zq]
 refine wp_act (c := .ret) (fun a : Act => Act.get a 4 = .int .i64 ((IntKind.i64.wrap n).tmod (IntKind.i64.wrap (m + 1))) /\ a.defers = []) ⟨?_, ?_⟩ ?_
 ·simp (disch := first | omega | simp only [Zs]; omega) only [Zo, Ze, Zn, Zq]
 ·simp only [Zd]; exact ad
 rintro a9 ⟨z0, zd⟩
 exact wp_ret (bodyPost_ret (results_tmp rfl _ _ _) zd ⟨congrArg Ending.returned z0, rfl⟩)
end Go.Proofs.YtmehfgiadapekaaGreat
set_option linter.unusedSimpArgs false
set_option linter.unusedVariables false
namespace Go.Proofs.YtmehfgiadapekaaGreat
open Go Go.RowKit
/-- whether a version is flexible -/
def flexW (fx ver : Int) : Bool := decide (0 <= fx) && decide (fx <= ver)
theorem FdsI.none' (w : World) : FdsI w (.slice none 0 0) [] := .mk (fc := fun _ _ => undef) (sv := fun _ => undef) (.inl ⟨rfl, _, _, rfl⟩) (fun i h => by simp at h) (fun i h => by simp at h)
/-- the cells of fields, one after another -/
def fcells : List FD -> List Value -> List Value
 | f :: r, s :: ss => (f.cells s).toList ++ fcells r ss
 | _, _ => []
theorem cells8 (f : FD) (s : Value) : (f.cells s).toList.length = 8 := rfl
theorem fcells_at : ∀ (fs : List FD) (subs : List Value), subs.length = fs.length -> (fcells fs subs).length = fs.length * 8 /\ ∀ i (h : i < fs.length) j, j < 8 -> ((fs[i]).cells (subs.getD i undef))[j]? = (fcells fs subs)[i * 8 + j]?
 | [], subs, _ => ⟨by cases subs <;> rfl, fun i h => by simp at h⟩
 | f :: r, [], h => by simp at h
 | f :: r, s :: ss, h => by
  obtain ⟨h1, h2⟩ := fcells_at r ss (by simpa using h)
  refine ⟨by rw [fcells, List.length_append, h1, cells8]; simp; omega, fun i hi j hj => ?_⟩
  rw [fcells]
  cases i with
  | zero =>
   rw [List.getElem?_append_left (by rw [cells8]; omega), Nat.zero_mul, Nat.zero_add, Array.getElem?_toList]
   rfl
  | succ i =>
   rw [List.getElem?_append_right (by rw [cells8]; omega), cells8, show (i + 1) * 8 + j - 8 = i * 8 + j by omega, <- h2 i (by simpa using hi) j hj]
   rfl
def SubsI (w : World) : List FD -> List Value -> Prop
 | f :: r, s :: ss => FdsI w s f.sub /\ SubsI w r ss
 | _, _ => True
theorem SubsI.at {w : World} : ∀ {fs : List FD} {subs : List Value}, subs.length = fs.length -> SubsI w fs subs -> ∀ i (h : i < fs.length), FdsI w (subs.getD i undef) (fs[i]).sub
 | [], _, _, _, i, h => by simp at h
 | f :: r, [], h, _, _, _ => by simp at h
 | f :: r, s :: ss, h, hs, i, hi => by
  cases i with
  | zero => exact hs.1
  | succ i => exact SubsI.at (by simpa using h) hs.2 i (by simpa using hi)
theorem FdsI.of {w : World} {k : Nat} {C : Array Value} {T : TypeId} {fr : Nat × Nat} {fs : List FD} (subs : List Value) (hk : w.heap[k]? = some (.cells C T fr)) (hl : subs.length = fs.length) (hm : fs.length <= maxLen) (hC : C.toList = fcells fs subs) (hs : SubsI w fs subs) : FdsI w (.slice (some ⟨k, 0, none⟩) fs.length fs.length) fs := by
 obtain ⟨h1, h2⟩ := fcells_at fs subs hl
 refine .mk (fc := fun i j => (fcells fs subs).getD (i * 8 + j) undef) (sv := fun i => subs.getD i undef) (.inr ⟨k, 0, fs.length, C, T, fr, rfl, Nat.le_refl _, hm, hk, fun i hi j hj => ?_⟩) (fun i hi j hj => ?_) (fun i hi => SubsI.at hl hs i hi)
 ·rw [Nat.zero_add, <- Array.getElem?_toList, hC]
  show _ = some ((fcells fs subs).getD (i * 8 + j) undef)
  rw [List.getD_eq_getElem?_getD, List.getElem?_eq_getElem (by omega)]; rfl
 ·rw [h2 i hi j hj]
  show _ = some ((fcells fs subs).getD (i * 8 + j) undef)
  rw [List.getD_eq_getElem?_getD, List.getElem?_eq_getElem (by omega)]; rfl
theorem zeroMsg : zeroOf Tryz.prog 31 = some (.agg #[.slice none 0 0, .int .i64 0]) := by kernel_rfl
/-- a new variable that is filled whole -/
theorem store_new (w : World) (T : TypeId) {zc cs : Array Value} (h : zc.size = cs.size) : ((w.alloc (.cells zc T)).setCells w.heap.size 0 cs.toList).heap[w.heap.size]? = some (.cells cs T (0, 0)) /\ Mod none' w ((w.alloc (.cells zc T)).setCells w.heap.size 0 cs.toList) := by
 have b1 := Zh w (.cells zc T)
 have o1 : Mod none' w (w.alloc (.cells zc T)) := (Mod.refl w).alloc _
 have l1 : (w.alloc (.cells zc T)).heap.size = w.heap.size + 1 := by simp
 obtain ⟨C1, k1, k2, k3, k4⟩ := heap_setCells (w := w.alloc (.cells zc T)) cs.toList 0 _ b1
 have hC1 : C1 = cs := by
  apply Array.ext
  ·omega
  ·intro i h1 h2
   have := k3 i (by simpa using h2) (by omega)
   rw [Nat.zero_add, Array.getElem?_eq_getElem h1] at this
   simpa [h2] using this
 subst hC1
 have p1 := mod_setCells w.heap.size (w.alloc (.cells zc T)) 0 C1.toList
 exact ⟨k1, o1.trans' p1 (fun _ _ f => f) (fun j hj e => by have : j = w.heap.size := e; omega)⟩
theorem there_new {w : World} {T : TypeId} {zc cs : Array Value} (h : zc.size = cs.size) : (w.alloc (.cells zc T)).there w.heap.size 0 cs.size := by
 have b1 := Zh w (.cells zc T)
 intro j hj
 rw [Zc b1, Zz b1, Array.getElem?_eq_getElem (by omega)]
 exact ⟨rfl, rfl⟩
theorem upto_len {fs : List FD} (hn : aL fs + zL fs + 10 <= 4095) {ver : Int} {fl : Bool} {t : Tr} (ht : TOk t) (hb : t.bulk <= 1048576) : (partW fs ver fl t).length <= 4294967295 := by
 have h1 := partW_bulk fs ver fl t ht
 have h2 := Nat.mul_le_mul hn hb
 omega
theorem spec_end {w1 : World} {b TM : Nat} {x0 x1 y0 y1 : Value} {cells : Array Value} {T : TypeId} (hb : w1.heap[b]? = some (.cells #[x0, x1] TM (0, 0))) :
  (((w1.setCell ⟨b, 0, none⟩ y0).setCell ⟨b, 1, none⟩ y1).alloc (.cells cells T)).heap[b]? = some (.cells #[y0, y1] TM (0, 0)) /\ (((w1.setCell ⟨b, 0, none⟩ y0).setCell ⟨b, 1, none⟩ y1).alloc (.cells cells T)).heap[w1.heap.size]? = some (.cells cells T (0, 0)) /\
  Mod (only b) w1 (((w1.setCell ⟨b, 0, none⟩ y0).setCell ⟨b, 1, none⟩ y1).alloc (.cells cells T)) := by
 have h1 : (w1.setCell ⟨b, 0, none⟩ y0).heap[b]? = some (.cells #[y0, x1] TM (0, 0)) := by
  have := heap_setCell_same (o := 0) hb y0
  simpa using this
 have h2 : ((w1.setCell ⟨b, 0, none⟩ y0).setCell ⟨b, 1, none⟩ y1).heap[b]? = some (.cells #[y0, y1] TM (0, 0)) := by
  have := heap_setCell_same (o := 1) h1 y1
  simpa using this
 have m1 : Mod (only b) w1 (w1.setCell ⟨b, 0, none⟩ y0) := (Mod.refl w1).put _ _
 have m2 : Mod (only b) w1 ((w1.setCell ⟨b, 0, none⟩ y0).setCell ⟨b, 1, none⟩ y1) := m1.trans' (((Mod.refl (w1.setCell ⟨b, 0, none⟩ y0)).put 1 y1 : Mod (only b) _ _)) (fun _ _ h => h) (fun _ _ h => h)
 have e : ((w1.setCell ⟨b, 0, none⟩ y0).setCell ⟨b, 1, none⟩ y1).heap.size = w1.heap.size := by simp
 refine ⟨((Mod.refl (S := none') _).alloc _).some h2 (fun f => f), ?_, m2.alloc _⟩
 have := Zh ((w1.setCell ⟨b, 0, none⟩ y0).setCell ⟨b, 1, none⟩ y1) (.cells cells T)
 rwa [e] at this
theorem write_c {w : World} {v : Value} {fs : List FD} {fx ver : Int} {ct : Array Value} {t : Tr} (hg : goodL fs = true) (hf : FdsI w v fs) (hct : ct.size = 5) (ht : TreeI w (from' ct 0) t) (hlen : (partW fs ver (flexW fx ver) t).length <= 4294967295) :
  BytesC Tryz.prog 13 #[.agg #[v, .int .i64 fx], .int .i64 ver, .agg ct] w (partW fs ver (flexW fx ver) t) := by
 have hp : ∀ W, Mod none' w W -> BytesC Tryz.prog 28 #[v, .int .i64 ver, .bool (flexW fx ver), .agg ct] W (partW fs ver (flexW fx ver) t) := fun W hm => part_all hg (hf.mod hm) hct (ht.mod hm) hlen
 obtain ⟨a1, c1, a3, c3, a4, c4, rfl, _⟩ := ht.lit hct
 obtain ⟨ao, cap, rfl⟩ := hf.slice
 generalize fs.length = nfs at *
 generalize hout : partW fs ver (flexW fx ver) t = out at *
 generalize t.S.length = n1, t.L.length = n3, t.U.length = n4, t.N = nn, t.Z = zz at *
 clear hlen ht hf hg hct hout
 have fin : ∀ (w2 : World) (b : Value), Mod none' w ((w.alloc (.cells #[.slice ao nfs cap, .int .i64 fx] 31)).alloc (.cells #[.int .i64 nn, .slice a1 n1 c1, .bool zz, .slice a3 n3 c3, .slice a4 n4 c4] 26)) := fun _ _ => ((Mod.refl w).alloc _).alloc _
 have fin := fin w undef
 by_cases h1 : 0 <= fx
 ·by_cases h2 : fx <= ver
  ·have e : flexW fx ver = true := by simp [flexW, h1, h2]
   rw [e] at hp
   go_enter Tryz.func13, Tryz.ntmps13
   go_wp2_with (go_at_call 28; refine (hp _ fin).mono ?_; rintro e w2 ⟨b, rfl, hm2, ho⟩)
   go_ret
   exact ⟨_, rfl, fin.trans hm2, ho.low (by simp <;> omega)⟩
  ·have e : flexW fx ver = false := by simp [flexW, h1, h2]
   rw [e] at hp
   go_enter Tryz.func13, Tryz.ntmps13
   go_wp2_with (go_at_call 28; refine (hp _ fin).mono ?_; rintro e w2 ⟨b, rfl, hm2, ho⟩)
   go_ret
   exact ⟨_, rfl, fin.trans hm2, ho.low (by simp <;> omega)⟩
 ·have e : flexW fx ver = false := by simp [flexW, h1]
  rw [e] at hp
  go_enter Tryz.func13, Tryz.ntmps13
  go_wp2_with (go_at_call 28; refine (hp _ fin).mono ?_; rintro e w2 ⟨b, rfl, hm2, ho⟩)
  go_ret
  exact ⟨_, rfl, fin.trans hm2, ho.low (by simp <;> omega)⟩
end Go.Proofs.YtmehfgiadapekaaGreat
set_option linter.unusedSimpArgs false
set_option linter.unusedVariables false
namespace Go.Proofs.YtmehfgiadapekaaGreat
open Go Go.RowKit
/-- only the place of the struct's pointer is another -/
theorem Cur.slot {σ σ' : St} {F : Nat -> Prop} {b o : Nat} {v : SV} {w : World} (h : Cur σ F b o v w) (h1 : σ'.lay = σ.lay) (h2 : σ'.tg = σ.tg) (h3 : σ'.sz = σ.sz) : Cur σ' F b o v w := by
 obtain ⟨C, t, g1, g2, g3, g4⟩ := h.mem
 exact ⟨C, t, g1, by rw [h3]; exact g2, by rw [h1]; exact g3, by rw [h2]; exact g4⟩
end Go.Proofs.YtmehfgiadapekaaGreat
