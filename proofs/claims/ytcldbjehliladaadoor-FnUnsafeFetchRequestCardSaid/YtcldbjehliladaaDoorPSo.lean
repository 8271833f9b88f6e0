/-
  The numbers of tags are sorted: sort.Slice at a slice of numbers of 32 bits.
-/
import Derived.Shelf.GgSortFunc.Whole
import Derived.Shelf.GgSortFunc.Tiny
import Derived.Lib.SortBridge
import Derived.Sort.LotA
import Derived.WalkKit
import Derived.Deep.QuietTactic
import Derived.Deep.MidRow
import Derived.Test.YtcldbjehliladaaDoorPSl
import Derived.Test.YtcldbjehliladaaDoorPRun
set_option linter.unusedSimpArgs false
set_option linter.unusedVariables false
namespace Go.Proofs.YtcldbjehliladaaDoor
open Go Go.RowKit Go.Lib Go.Sort Go.Shelf Go.Proofs
noncomputable def siT : TypeInfo := (Tryd.prog.info? 126).get (by kernel_rfl)
noncomputable def siE : TypeInfo := (Tryd.prog.info? 58).get (by kernel_rfl)
theorem siK (n : Nat) (h2 : 2 <= n) : Lib.swapperK n siE 10 = 6 := by
 have a : siE.hasPointers = false := by kernel_rfl
 have b : siE.bytes = 4 := by kernel_rfl
 have c : (n == 0) = false := by simp; omega
 have d : (n == 1) = false := by simp; omega
 simp [Lib.swapperK, a, b, c, d]
set_option maxHeartbeats 2000000 in
theorem less_keys (blk off c Bs size : Nat) (W : World) (G : Nat -> Int) (hs : W.cell? ⟨Bs, 0, none⟩ = some (.slice (some ⟨blk, off, none⟩) size c))
  (hc : ∀ t, t < size -> W.cell? ⟨blk, off + t, none⟩ = some (.int .u32 (G t))) (i j : Nat) (hi : i < size) (hj : j < size) :
  Calls Tryd.prog 79 #[.int .i64 i, .int .i64 j, .pointer (some ⟨Bs, 0, none⟩)] W fun e w' => e = .returned (.bool (decide (G i < G j))) /\ ∃ q, w' = W.drewN q := by
 have ci := hc i hi
 have cj := hc j hj
 go_enter Tryd.func79, Tryd.ntmps79
 go_wp2
 go_quiet (fail)
 go_wp2
 go_ret
 exact ⟨rfl, nq, rfl⟩
theorem mod_grow {w : World} {S : Nat -> Prop} {os : Array Obj} : Mod S w (grow w os) :=
 ⟨rfl, rfl, rfl, by simp [grow], fun k hk _ => by simp only [grow]; exact Array.getElem?_append_left hk⟩
theorem mod_sorted {w : World} {blk q : Nat} {vs : List Value} {os : Array Obj} : Mod (only blk) w (grow ((w.drewN q).setCells blk 0 vs) os) := by
 have h1 : Mod (only blk) w (w.drewN q) := (Mod.refl w).drewN q
 have h2 : Mod (only blk) (w.drewN q) ((w.drewN q).setCells blk 0 vs) := mod_setCells _ _ _ _
 exact (h1.trans h2).trans mod_grow
set_option maxHeartbeats 2000000 in
theorem sort_keys {w : World} {bs blk c : Nat} {T t : TypeId} {C : Array Value} {fr : Nat × Nat} {d : Array Int} {us : List Int} (hbs : w.heap[bs]? = some (.cells #[.slice (some ⟨blk, 0, none⟩) d.size c] T fr) ) (hb : w.heap[blk]? = some (.cells C t (0, 0))) (hne : bs ≠ blk)
  (hC : ∀ j, j < d.size -> C[j]? = some (.int .u32 d[j]!)) (hsz : d.size < 4611686018427387904) (hp : us.Perm d.toList) (hs : us.Pairwise (· < ·)) :
  Calls Tryd.prog 78 #[.iface 126 (.slice (some ⟨blk, 0, none⟩) d.size c), .func (.func 79) #[] #[.pointer (some ⟨bs, 0, none⟩)]] w fun e w' =>
   e = .returned (.tuple #[]) /\ Mod (only blk) w w' /\ ∃ C', w'.heap[blk]? = some (.cells C' t (0, 0)) /\ C'.size = C.size /\ ∀ j (h : j < us.length), C'[j]? = some (.int .u32 us[j]) := by
 have hH : Holds (Value.int .u32) w blk 0 d := fun j hj => ⟨by rw [Zc hb, Nat.zero_add]; exact hC j hj, Zz hb⟩
 have hblk : blk < w.heap.size := lt_of_block hb
 have hbsl : bs < w.heap.size := lt_of_block hbs
 have hlen : us.length = d.size := by simpa using hp.length_eq
 by_cases h2 : 2 <= d.size
 ·have hless : LessReads Tryd.prog 79 #[.pointer (some ⟨bs, 0, none⟩)] (Value.int .u32) ltInt blk 0 d.size w := by
   intro m os dk hs i j hi hj
   have e : sortWorld (Value.int .u32) w blk 0 m dk os = putRow (Value.int .u32) (grow (Sort.ahead w m) os) blk 0 dk := by
    unfold sortWorld; rw [putRow_grow _ (Sort.ahead w m) _ blk 0 _ hblk]
   have hHg : Holds (Value.int .u32) (grow (Sort.ahead w m) os) blk 0 d := holds_grow _ _ _ blk 0 d hblk (holds_ahead _ _ _ _ _ _ hH)
   refine less_keys blk 0 c bs d.size _ (fun t => dk[t]!) ?_ (fun t ht => ?_) i j hi hj
   ·rw [e, cell?_putRow_other _ _ blk 0 dk _ (Or.inl (by show bs ≠ blk; exact hne)), cell?_grow _ _ _ (by show bs < (Sort.ahead w m).heap.size; exact hbsl)]
    show w.cell? _ = _
    rw [Zc hbs]
    rfl
   ·rw [e]; exact cell?_putRow _ _ blk 0 d dk hHg hs t (by omega)
  have hS := Any.sort_Slice_sorted slLay 126 58 siT siE (by kernel_rfl) (by kernel_rfl) (by kernel_rfl) (by kernel_rfl) 10 (fun _ => by kernel_rfl) (by kernel_rfl) (fun _ => by kernel_rfl) (Value.int .u32) (fun _ => rfl) ltInt swo_ltInt 79 _
   (enters_of Tryd.func79 (by kernel_rfl) rfl) blk 0 c d h2 hsz 118 (by rw [siK _ h2]; kernel_rfl) true
   (fun args W => run_callFunc_extern Tryd.func118 (by kernel_rfl) (by kernel_rfl) (by kernel_rfl) (e := Extern.ReflectliteSwapper.swap true) (by kernel_rfl) args W) w hless hH hblk
  change Calls Tryd.prog 78 _ _ _ at hS
  refine hS.mono ?_
  rintro e w' ⟨rfl, d', n, os, hP, hSo, rfl⟩
  have hus : d'.toList = us := by
   have h := sorted_unique_holds (lt := ltInt) swo_ltInt (fun x y h1 h2 => by simp only [ltInt, decide_eq_false_iff_not] at h1 h2; omega) d d' hP hSo
   rw [h]
   refine List.Perm.eq_of_pairwise (le := fun x y => x <= y) ?_ ?_ ?_ ((List.mergeSort_perm _ _).trans hp.symm)
   ·intro a b _ _ h1 h2; omega
   ·have hp := List.pairwise_mergeSort (le := fun x y => !ltInt y x) (fun a b c h1 h2 => by simp [ltInt] at *; omega) (fun a b => by simp [ltInt]; omega) d.toList
    exact hp.imp (fun h => by simpa [ltInt] using h)
   ·exact hs.imp (fun h => by omega)
  have hd' : d' = us.toArray := by rw [<- hus]
  subst hd'
  rw [Lib.sorted_world (Value.int .u32) w blk 0 n d us os hH hlen]
  refine ⟨rfl, mod_sorted, ?_⟩
  obtain ⟨C', q1, q2, q3, q4⟩ := heap_setCells (w := w.drewN n) (us.map (Value.int .u32)) 0 C hb
  refine ⟨C', ?_, q2, fun j hj => ?_⟩
  ·have hlt : blk < ((w.drewN n).setCells blk 0 (us.map (Value.int .u32))).heap.size := lt_of_block q1
   simp only [grow]
   rw [Array.getElem?_append_left hlt]
   exact q1
  ·have hjC : j < C.size := by
    have := hC j (by omega)
    exact (Array.getElem?_eq_some_iff.1 this).1
   have := q3 j (by simpa using hj) (by omega)
   rw [Nat.zero_add] at this
   rw [this]
   simp
 ·have hfind : ∀ n : Nat, n <= 1 -> Tryd.prog.funcs.findIdx? (·.name == "internal/reflectlite" ++ ".Swapper$" ++ toString (n + 1)) = some (113 + n) := by
   have f0 : Tryd.prog.funcs.findIdx? (·.name == "internal/reflectlite" ++ ".Swapper$" ++ toString (0 + 1)) = some 113 := by kernel_rfl
   have f1 : Tryd.prog.funcs.findIdx? (·.name == "internal/reflectlite" ++ ".Swapper$" ++ toString (1 + 1)) = some (113 + 1) := by kernel_rfl
   intro n hn
   have : n = 0 \/ n = 1 := by omega
   rcases this with h | h
   ·rw [h]; exact f0
   ·rw [h]; exact f1
  have hK : Lib.swapperK d.size siE 10 = d.size + 1 := by
   rcases Nat.eq_zero_or_pos d.size with h | h
   ·rw [h]; simp [Lib.swapperK]
   ·have : d.size = 1 := by omega
    rw [this]; simp [Lib.swapperK]
  have hS := Any.sort_Slice_tiny slLay 126 58 siT siE (by kernel_rfl) (by kernel_rfl) (by kernel_rfl) (by kernel_rfl) 10 (fun _ => by kernel_rfl) (some ⟨blk, 0, none⟩) d.size c (by omega) (113 + d.size) (by rw [hK]; exact hfind d.size (by omega)) (.func 79) #[] #[.pointer (some ⟨bs, 0, none⟩)] w
  change Calls Tryd.prog 78 _ _ _ at hS
  refine hS.mono ?_
  rintro e w' ⟨rfl, os, rfl⟩
  refine ⟨rfl, mod_grow, C, ?_, rfl, fun j hj => ?_⟩
  ·simp only [grow]
   rw [Array.getElem?_append_left hblk]
   exact hb
  ·have h1 : us.length = 1 := by omega
   have hj0 : j = 0 := by omega
   subst hj0
   match us, h1, hp with
   | [x], _, hp =>
    have hx : d.toList = [x] := (List.perm_singleton.1 hp.symm)
    have hd1 : d.size = 1 := by simpa using hlen.symm
    have : d[0]! = x := by
     have e : d = #[x] := by rw [<- Array.toArray_toList (xs := d), hx]
     rw [e]; rfl
    rw [hC 0 (by omega), this]
    rfl
end Go.Proofs.YtcldbjehliladaaDoor
