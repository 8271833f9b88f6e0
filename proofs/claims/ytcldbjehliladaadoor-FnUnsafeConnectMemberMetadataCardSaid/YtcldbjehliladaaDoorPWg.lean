/-
  What the laws of telling share.
-/
import Derived.Laws.IdiomCopy
import Derived.Test.YtcldbjehliladaaDoorPWe
import Derived.Test.YtcldbjehliladaaDoorPWk
import Derived.Test.YtcldbjehliladaaDoorPWl
import Derived.Test.YtcldbjehliladaaDoorPMsgT
set_option linter.unusedSimpArgs false
set_option linter.unusedVariables false
namespace Go.Proofs.YtcldbjehliladaaDoor
open Go Go.RowKit
/-- whether a version is flexible -/
def flexW (fx ver : Int) : Bool := decide (0 <= fx) && decide (fx <= ver)
theorem OwnB.srcs {w : World} {base : Nat} {v : Value} {bs : List UInt8} (h : OwnB w base v bs) : Srcs w v bs := by
 obtain ⟨nl, _, ho⟩ := h.oct
 rcases OctI.of_oct ho with ⟨h1, ao, cap, h2⟩ | ⟨sb, off, cap, c, t, fr, h1, h2, h3, h4, h5⟩
 ·exact .inl ⟨h1, ao, cap, h2⟩
 ·exact .inr ⟨sb, off, cap, c, t, fr, h1, h4, h5⟩
theorem FdsI.none' (w : World) : FdsI w (.slice none 0 0) [] := .mk (fc := fun _ _ => undef) (sv := fun _ => undef) (.inl ⟨rfl, _, _, rfl⟩) (fun i h => by simp at h) (fun i h => by simp at h)
/-- the cells of fields, one after another -/
def fcells : List FD -> List Value -> List Value
 | f :: r, s :: ss => (f.cells s).toList ++ fcells r ss
 | _, _ => []
theorem cells8 (f : FD) (s : Value) : (f.cells s).toList.length = 8 := rfl
theorem fcells_at : ∀ (fs : List FD) (subs : List Value), subs.length = fs.length -> (fcells fs subs).length = fs.length * 8 /\ ∀ i (h : i < fs.length) j, j < 8 -> ((fs[i]).cells (subs.getD i undef))[j]? = (fcells fs subs)[i * 8 + j]?
 | [], subs, _ => ⟨by cases subs <;> rfl, fun i h => by simp at h⟩
 | f :: r, [], h => by simp at h
 | f :: r, s :: ss, h => by
  obtain ⟨h1, h2⟩ := fcells_at r ss (by simpa using h)
  refine ⟨by rw [fcells, List.length_append, h1, cells8]; simp; omega, fun i hi j hj => ?_⟩
  rw [fcells]
  cases i with
  | zero =>
   rw [List.getElem?_append_left (by rw [cells8]; omega), Nat.zero_mul, Nat.zero_add, Array.getElem?_toList]
   rfl
  | succ i =>
   rw [List.getElem?_append_right (by rw [cells8]; omega), cells8, show (i + 1) * 8 + j - 8 = i * 8 + j by omega, <- h2 i (by simpa using hi) j hj]
   rfl
def SubsI (w : World) : List FD -> List Value -> Prop
 | f :: r, s :: ss => FdsI w s f.sub /\ SubsI w r ss
 | _, _ => True
theorem SubsI.at {w : World} : ∀ {fs : List FD} {subs : List Value}, subs.length = fs.length -> SubsI w fs subs -> ∀ i (h : i < fs.length), FdsI w (subs.getD i undef) (fs[i]).sub
 | [], _, _, _, i, h => by simp at h
 | f :: r, [], h, _, _, _ => by simp at h
 | f :: r, s :: ss, h, hs, i, hi => by
  cases i with
  | zero => exact hs.1
  | succ i => exact SubsI.at (by simpa using h) hs.2 i (by simpa using hi)
theorem FdsI.of {w : World} {k : Nat} {C : Array Value} {T : TypeId} {fr : Nat × Nat} {fs : List FD} (subs : List Value) (hk : w.heap[k]? = some (.cells C T fr)) (hl : subs.length = fs.length) (hm : fs.length <= maxLen) (hC : C.toList = fcells fs subs) (hs : SubsI w fs subs) : FdsI w (.slice (some ⟨k, 0, none⟩) fs.length fs.length) fs := by
 obtain ⟨h1, h2⟩ := fcells_at fs subs hl
 refine .mk (fc := fun i j => (fcells fs subs).getD (i * 8 + j) undef) (sv := fun i => subs.getD i undef) (.inr ⟨k, 0, fs.length, C, T, fr, rfl, Nat.le_refl _, hm, hk, fun i hi j hj => ?_⟩) (fun i hi j hj => ?_) (fun i hi => SubsI.at hl hs i hi)
 ·rw [Nat.zero_add, <- Array.getElem?_toList, hC]
  show _ = some ((fcells fs subs).getD (i * 8 + j) undef)
  rw [List.getD_eq_getElem?_getD, List.getElem?_eq_getElem (by omega)]; rfl
 ·rw [h2 i hi j hj]
  show _ = some ((fcells fs subs).getD (i * 8 + j) undef)
  rw [List.getD_eq_getElem?_getD, List.getElem?_eq_getElem (by omega)]; rfl
theorem zeroTr : zeroOf Tryd.prog 26 = some (.agg #[.int .i64 0, .slice none 0 0, .bool false, .slice none 0 0, .slice none 0 0]) := by kernel_rfl
/-- a new variable that is filled whole -/
theorem store_new (w : World) (T : TypeId) {zc cs : Array Value} (h : zc.size = cs.size) : ((w.alloc (.cells zc T)).setCells w.heap.size 0 cs.toList).heap[w.heap.size]? = some (.cells cs T (0, 0)) /\ Mod none' w ((w.alloc (.cells zc T)).setCells w.heap.size 0 cs.toList) := by
 have b1 := Zh w (.cells zc T)
 have o1 : Mod none' w (w.alloc (.cells zc T)) := (Mod.refl w).alloc _
 have l1 : (w.alloc (.cells zc T)).heap.size = w.heap.size + 1 := by simp
 obtain ⟨C1, k1, k2, k3, k4⟩ := heap_setCells (w := w.alloc (.cells zc T)) cs.toList 0 _ b1
 have hC1 : C1 = cs := by
  apply Array.ext
  ·omega
  ·intro i h1 h2
   have := k3 i (by simpa using h2) (by omega)
   rw [Nat.zero_add, Array.getElem?_eq_getElem h1] at this
   simpa [h2] using this
 subst hC1
 have p1 := mod_setCells w.heap.size (w.alloc (.cells zc T)) 0 C1.toList
 exact ⟨k1, o1.trans' p1 (fun _ _ f => f) (fun j hj e => by have : j = w.heap.size := e; omega)⟩
theorem there_new {w : World} {T : TypeId} {zc cs : Array Value} (h : zc.size = cs.size) : (w.alloc (.cells zc T)).there w.heap.size 0 cs.size := by
 have b1 := Zh w (.cells zc T)
 intro j hj
 rw [Zc b1, Zz b1, Array.getElem?_eq_getElem (by omega)]
 exact ⟨rfl, rfl⟩
theorem write_c {w : World} {v : Value} {fs : List FD} {fx ver : Int} {ct : Array Value} {t : Tr} (hg : goodL fs = true) (hf : FdsI w v fs) (hct : ct.size = 5) (ht : TreeI w (from' ct 0) t) (hlen : (partW fs ver (flexW fx ver) t).length <= 4294967295) :
  BytesC Tryd.prog 23 #[.agg #[v, .int .i64 fx], .int .i64 ver, .agg ct] w (partW fs ver (flexW fx ver) t) := by
 have hp : ∀ W, Mod none' w W -> BytesC Tryd.prog 41 #[v, .int .i64 ver, .bool (flexW fx ver), .agg ct] W (partW fs ver (flexW fx ver) t) := fun W hm => part_all hg (hf.mod hm) hct (ht.mod hm) hlen
 obtain ⟨a1, c1, a3, c3, a4, c4, rfl, _⟩ := ht.lit hct
 obtain ⟨ao, cap, rfl⟩ := hf.slice
 generalize fs.length = nfs at *
 generalize hout : partW fs ver (flexW fx ver) t = out at *
 generalize t.S.length = n1, t.L.length = n3, t.U.length = n4, t.N = nn, t.Z = zz at *
 clear hlen ht hf hg hct hout
 have fin : ∀ (w2 : World) (b : Value), Mod none' w ((w.alloc (.cells #[.slice ao nfs cap, .int .i64 fx] 32)).alloc (.cells #[.int .i64 nn, .slice a1 n1 c1, .bool zz, .slice a3 n3 c3, .slice a4 n4 c4] 37)) := fun _ _ => ((Mod.refl w).alloc _).alloc _
 have fin := fin w undef
 by_cases h1 : 0 <= fx
 ·by_cases h2 : fx <= ver
  ·have e : flexW fx ver = true := by simp [flexW, h1, h2]
   rw [e] at hp
   go_enter Tryd.func23, Tryd.ntmps23
   go_wp2_with (go_at_call 41; refine (hp _ fin).mono ?_; rintro e w2 ⟨b, rfl, hm2, ho⟩)
   go_ret
   exact ⟨_, rfl, fin.trans hm2, ho.low (by simp <;> omega)⟩
  ·have e : flexW fx ver = false := by simp [flexW, h1, h2]
   rw [e] at hp
   go_enter Tryd.func23, Tryd.ntmps23
   go_wp2_with (go_at_call 41; refine (hp _ fin).mono ?_; rintro e w2 ⟨b, rfl, hm2, ho⟩)
   go_ret
   exact ⟨_, rfl, fin.trans hm2, ho.low (by simp <;> omega)⟩
 ·have e : flexW fx ver = false := by simp [flexW, h1]
  rw [e] at hp
  go_enter Tryd.func23, Tryd.ntmps23
  go_wp2_with (go_at_call 41; refine (hp _ fin).mono ?_; rintro e w2 ⟨b, rfl, hm2, ho⟩)
  go_ret
  exact ⟨_, rfl, fin.trans hm2, ho.low (by simp <;> omega)⟩
end Go.Proofs.YtcldbjehliladaaDoor
