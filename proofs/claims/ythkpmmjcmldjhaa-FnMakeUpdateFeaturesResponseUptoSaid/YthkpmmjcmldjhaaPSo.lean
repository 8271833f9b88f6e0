/-
  The contract of sort.Slice, laid in this program.
  The numbers of tags are sorted: sort.Slice at a slice of numbers of 32 bits.
-/
import Derived.Test.YthkpmmjcmldjhaaChecked
import Derived.Shelf.GgSortFunc.Whole
import Derived.Shelf.GgSortFunc.Tiny
import Derived.Lib.SortBridge
import Derived.Sort.LotA
import Derived.Lib.RowBridge
import Derived.WalkKit
import Derived.Deep.QuietTactic
import Derived.Deep.MidRow
import Derived.Test.YthkpmmjcmldjhaaPRun
namespace Go.Proofs.Ythkpmmjcmldjhaa
open Go Go.Shelf
def slRen : Go.Shelf.Ren := ⟨fun | 6 => 134 | 10 => 136 | 11 => 137 | 12 => 138 | 13 => 139 | 14 => 140 | 15 => 141 | 16 => 142 | 17 => 143 | 18 => 144 | 19 => 145 | 20 => 146 | 21 => 147 | 22 => 148 | 23 => 149 | 24 => 133 | 25 => 150 | 26 => 151 | 27 => 152 | 28 => 153 | 29 => 154 | 30 => 155 | 31 => 156 | 32 => 157 | 33 => 158 | 34 => 159 | 35 => 160 | 36 => 161 | 37 => 162 | 38 => 163 | 39 => 164 | n => n, fun | 0 => 0 | 3 => 3 | 4 => 4 | 5 => 5 | 9 => 9 | 12 => 12 | 17 => 17 | 20 => 20 | 26 => 178 | 32 => 179 | 33 => 180 | 35 => 182 | 37 => 184 | 41 => 166 | 44 => 189 | 49 => 61 | 51 => 121 | 53 => 195 | 54 => 196 | 58 => 200 | 60 => 202 | 64 => 206 | 66 => 208 | 67 => 209 | 75 => 217 | 76 => 218 | 77 => 219 | 78 => 220 | 79 => 221 | 80 => 222 | 82 => 224 | n => n, fun n => n⟩
theorem slLay : LaysGg.n6 Try.prog slRen := {
 mixed := by kernel_rfl,
 f6 := Try.func134.trans (congrArg some (by kernel_rfl)),
 f10 := Try.func136.trans (congrArg some (by kernel_rfl)),
 f11 := Try.func137.trans (congrArg some (by kernel_rfl)),
 f12 := Try.func138.trans (congrArg some (by kernel_rfl)),
 f13 := Try.func139.trans (congrArg some (by kernel_rfl)),
 f14 := Try.func140.trans (congrArg some (by kernel_rfl)),
 f24 := Try.func133.trans (congrArg some (by kernel_rfl)),
 f25 := Try.func150.trans (congrArg some (by kernel_rfl)),
 f26 := Try.func151.trans (congrArg some (by kernel_rfl)),
 f27 := Try.func152.trans (congrArg some (by kernel_rfl)),
 f28 := Try.func153.trans (congrArg some (by kernel_rfl)),
 f29 := Try.func154.trans (congrArg some (by kernel_rfl)),
 f30 := Try.func155.trans (congrArg some (by kernel_rfl)),
 f31 := Try.func156.trans (congrArg some (by kernel_rfl)),
 f32 := Try.func157.trans (congrArg some (by kernel_rfl)),
 f33 := Try.func158.trans (congrArg some (by kernel_rfl)),
 f34 := Try.func159.trans (congrArg some (by kernel_rfl)),
 f35 := Try.func160.trans (congrArg some (by kernel_rfl)),
 f36 := Try.func161.trans (congrArg some (by kernel_rfl)),
 f37 := Try.func162.trans (congrArg some (by kernel_rfl)),
 f38 := Try.func163.trans (congrArg some (by kernel_rfl)),
 f39 := Try.func164.trans (congrArg some (by kernel_rfl)),
 t0 := Try.underlying0,
 a0 := Try.isAgg0,
 z0 := Try.sizeOf0,
 v0 := Try.zeroValue0,
 i0 := by kernel_rfl,
 t3 := Try.underlying3,
 a3 := Try.isAgg3,
 z3 := Try.sizeOf3,
 v3 := Try.zeroValue3,
 i3 := by kernel_rfl,
 t4 := Try.underlying4,
 a4 := Try.isAgg4,
 z4 := Try.sizeOf4,
 v4 := Try.zeroValue4,
 i4 := by kernel_rfl,
 t5 := Try.underlying5,
 a5 := Try.isAgg5,
 z5 := Try.sizeOf5,
 v5 := Try.zeroValue5,
 i5 := by kernel_rfl,
 t9 := Try.underlying9,
 a9 := Try.isAgg9,
 z9 := Try.sizeOf9,
 v9 := Try.zeroValue9,
 i9 := by kernel_rfl,
 t12 := Try.underlying12,
 a12 := Try.isAgg12,
 z12 := Try.sizeOf12,
 v12 := Try.zeroValue12,
 i12 := by kernel_rfl,
 t17 := Try.underlying17,
 a17 := Try.isAgg17,
 z17 := Try.sizeOf17,
 v17 := Try.zeroValue17,
 i17 := by kernel_rfl,
 t20 := Try.underlying20,
 a20 := Try.isAgg20,
 z20 := Try.sizeOf20,
 v20 := Try.zeroValue20,
 i20 := by kernel_rfl,
 t26 := Try.underlying178,
 a26 := Try.isAgg178,
 z26 := Try.sizeOf178,
 v26 := Try.zeroValue178,
 i26 := by kernel_rfl,
 t32 := Try.underlying179,
 a32 := Try.isAgg179,
 z32 := Try.sizeOf179,
 v32 := Try.zeroValue179,
 i32 := by kernel_rfl,
 t33 := Try.underlying180,
 a33 := Try.isAgg180,
 z33 := Try.sizeOf180,
 v33 := Try.zeroValue180,
 i33 := by kernel_rfl,
 t35 := Try.underlying182,
 a35 := Try.isAgg182,
 z35 := Try.sizeOf182,
 v35 := Try.zeroValue182,
 i35 := by kernel_rfl,
 t37 := Try.underlying184,
 a37 := Try.isAgg184,
 z37 := Try.sizeOf184,
 v37 := Try.zeroValue184,
 i37 := by kernel_rfl,
 t41 := Try.underlying166,
 a41 := Try.isAgg166,
 z41 := Try.sizeOf166,
 v41 := Try.zeroValue166,
 i41 := by kernel_rfl,
 t44 := Try.underlying189,
 a44 := Try.isAgg189,
 z44 := Try.sizeOf189,
 v44 := Try.zeroValue189,
 i44 := by kernel_rfl,
 t49 := Try.underlying61,
 a49 := Try.isAgg61,
 z49 := Try.sizeOf61,
 v49 := Try.zeroValue61,
 i49 := by kernel_rfl,
 t51 := Try.underlying121,
 a51 := Try.isAgg121,
 z51 := Try.sizeOf121,
 v51 := Try.zeroValue121,
 i51 := by kernel_rfl,
 t53 := Try.underlying195,
 a53 := Try.isAgg195,
 z53 := Try.sizeOf195,
 v53 := Try.zeroValue195,
 i53 := by kernel_rfl,
 t54 := Try.underlying196,
 a54 := Try.isAgg196,
 z54 := Try.sizeOf196,
 v54 := Try.zeroValue196,
 i54 := by kernel_rfl,
 t58 := Try.underlying200,
 a58 := Try.isAgg200,
 z58 := Try.sizeOf200,
 v58 := Try.zeroValue200,
 i58 := by kernel_rfl,
 t60 := Try.underlying202,
 a60 := Try.isAgg202,
 z60 := Try.sizeOf202,
 v60 := Try.zeroValue202,
 i60 := by kernel_rfl,
 t64 := Try.underlying206,
 a64 := Try.isAgg206,
 z64 := Try.sizeOf206,
 v64 := Try.zeroValue206,
 i64 := by kernel_rfl,
 t66 := Try.underlying208,
 a66 := Try.isAgg208,
 z66 := Try.sizeOf208,
 v66 := Try.zeroValue208,
 i66 := by kernel_rfl,
 t67 := Try.underlying209,
 a67 := Try.isAgg209,
 z67 := Try.sizeOf209,
 v67 := Try.zeroValue209,
 i67 := by kernel_rfl,
 t75 := Try.underlying217,
 a75 := Try.isAgg217,
 z75 := Try.sizeOf217,
 v75 := Try.zeroValue217,
 i75 := by kernel_rfl,
 t76 := Try.underlying218,
 a76 := Try.isAgg218,
 z76 := Try.sizeOf218,
 v76 := Try.zeroValue218,
 i76 := by kernel_rfl,
 t77 := Try.underlying219,
 a77 := Try.isAgg219,
 z77 := Try.sizeOf219,
 v77 := Try.zeroValue219,
 i77 := by kernel_rfl,
 t78 := Try.underlying220,
 a78 := Try.isAgg220,
 z78 := Try.sizeOf220,
 v78 := Try.zeroValue220,
 i78 := by kernel_rfl,
 t79 := Try.underlying221,
 a79 := Try.isAgg221,
 z79 := Try.sizeOf221,
 v79 := Try.zeroValue221,
 i79 := by kernel_rfl,
 t80 := Try.underlying222,
 a80 := Try.isAgg222,
 z80 := Try.sizeOf222,
 v80 := Try.zeroValue222,
 i80 := by kernel_rfl,
 t82 := Try.underlying224,
 a82 := Try.isAgg224,
 z82 := Try.sizeOf224,
 v82 := Try.zeroValue224,
 i82 := by kernel_rfl }
end Go.Proofs.Ythkpmmjcmldjhaa
set_option linter.unusedSimpArgs false
set_option linter.unusedVariables false
namespace Go.Proofs.Ythkpmmjcmldjhaa
open Go Go.RowKit Go.Lib Go.Sort Go.Shelf Go.Proofs
noncomputable def siT : TypeInfo := (Try.prog.info? 176).get (by kernel_rfl)
noncomputable def siE : TypeInfo := (Try.prog.info? 61).get (by kernel_rfl)
theorem siK (n : Nat) (h2 : 2 <= n) : Lib.swapperK n siE 10 = 6 := by
 have a : siE.hasPointers = false := by kernel_rfl
 have b : siE.bytes = 4 := by kernel_rfl
 have c : (n == 0) = false := by simp; omega
 have d : (n == 1) = false := by simp; omega
 simp [Lib.swapperK, a, b, c, d]
set_option maxHeartbeats 2000000 in
theorem less_keys (blk off c Bs size : Nat) (W : World) (G : Nat -> Int) (hs : W.cell? ⟨Bs, 0, none⟩ = some (.slice (some ⟨blk, off, none⟩) size c))
  (hc : ∀ t, t < size -> W.cell? ⟨blk, off + t, none⟩ = some (.int .u32 (G t))) (i j : Nat) (hi : i < size) (hj : j < size) :
  Calls Try.prog 135 #[.int .i64 i, .int .i64 j, .pointer (some ⟨Bs, 0, none⟩)] W fun e w' => e = .returned (.bool (decide (G i < G j))) /\ ∃ q, w' = W.drewN q := by
 have ci := hc i hi
 have cj := hc j hj
 go_enter Try.func135, Try.ntmps135
 go_wp2
 go_quiet (fail)
 go_wp2
 go_ret
 exact ⟨rfl, nq, rfl⟩
theorem mod_grow {w : World} {S : Nat -> Prop} {os : Array Obj} : Mod S w (grow w os) :=
 ⟨rfl, rfl, rfl, by simp [grow], fun k hk _ => by simp only [grow]; exact Array.getElem?_append_left hk⟩
theorem mod_sorted {w : World} {blk q : Nat} {vs : List Value} {os : Array Obj} : Mod (only blk) w (grow ((w.drewN q).setCells blk 0 vs) os) := by
 have h1 : Mod (only blk) w (w.drewN q) := (Mod.refl w).drewN q
 have h2 : Mod (only blk) (w.drewN q) ((w.drewN q).setCells blk 0 vs) := mod_setCells _ _ _ _
 exact (h1.trans h2).trans mod_grow
set_option maxHeartbeats 2000000 in
theorem sort_keys {w : World} {bs blk c : Nat} {T t : TypeId} {C : Array Value} {fr : Nat × Nat} {d : Array Int} {us : List Int} (hbs : w.heap[bs]? = some (.cells #[.slice (some ⟨blk, 0, none⟩) d.size c] T fr) ) (hb : w.heap[blk]? = some (.cells C t (0, 0))) (hne : bs ≠ blk)
  (hC : ∀ j, j < d.size -> C[j]? = some (.int .u32 d[j]!)) (hsz : d.size < 4611686018427387904) (hp : us.Perm d.toList) (hs : us.Pairwise (· < ·)) :
  Calls Try.prog 134 #[.iface 176 (.slice (some ⟨blk, 0, none⟩) d.size c), .func (.func 135) #[] #[.pointer (some ⟨bs, 0, none⟩)]] w fun e w' =>
   e = .returned (.tuple #[]) /\ Mod (only blk) w w' /\ ∃ C', w'.heap[blk]? = some (.cells C' t (0, 0)) /\ C'.size = C.size /\ ∀ j (h : j < us.length), C'[j]? = some (.int .u32 us[j]) := by
 have hH : Holds (Value.int .u32) w blk 0 d := fun j hj => ⟨by rw [Zc hb, Nat.zero_add]; exact hC j hj, Zz hb⟩
 have hblk : blk < w.heap.size := lt_of_block hb
 have hbsl : bs < w.heap.size := lt_of_block hbs
 have hlen : us.length = d.size := by simpa using hp.length_eq
 by_cases h2 : 2 <= d.size
 ·have hless : LessReads Try.prog 135 #[.pointer (some ⟨bs, 0, none⟩)] (Value.int .u32) ltInt blk 0 d.size w := by
   intro m os dk hs i j hi hj
   have e : sortWorld (Value.int .u32) w blk 0 m dk os = putRow (Value.int .u32) (grow (Sort.ahead w m) os) blk 0 dk := by
    unfold sortWorld; rw [putRow_grow _ (Sort.ahead w m) _ blk 0 _ hblk]
   have hHg : Holds (Value.int .u32) (grow (Sort.ahead w m) os) blk 0 d := holds_grow _ _ _ blk 0 d hblk (holds_ahead _ _ _ _ _ _ hH)
   refine less_keys blk 0 c bs d.size _ (fun t => dk[t]!) ?_ (fun t ht => ?_) i j hi hj
   ·rw [e, cell?_putRow_other _ _ blk 0 dk _ (Or.inl (by show bs ≠ blk; exact hne)), cell?_grow _ _ _ (by show bs < (Sort.ahead w m).heap.size; exact hbsl)]
    show w.cell? _ = _
    rw [Zc hbs]
    rfl
   ·rw [e]; exact cell?_putRow _ _ blk 0 d dk hHg hs t (by omega)
  have hS := Any.sort_Slice_sorted slLay 176 61 siT siE (by kernel_rfl) (by kernel_rfl) (by kernel_rfl) (by kernel_rfl) 10 (fun _ => by kernel_rfl) (by kernel_rfl) (fun _ => by kernel_rfl) (Value.int .u32) (fun _ => rfl) ltInt swo_ltInt 135 _
   (enters_of Try.func135 (by kernel_rfl) rfl) blk 0 c d h2 hsz 146 (by rw [siK _ h2]; kernel_rfl) true
   (fun args W => run_callFunc_extern Try.func146 (by kernel_rfl) (by kernel_rfl) (by kernel_rfl) (e := Extern.ReflectliteSwapper.swap true) (by kernel_rfl) args W) w hless hH hblk
  change Calls Try.prog 134 _ _ _ at hS
  refine hS.mono ?_
  rintro e w' ⟨rfl, d', n, os, hP, hSo, rfl⟩
  have hus : d'.toList = us := by
   have h := sorted_unique_holds (lt := ltInt) swo_ltInt (fun x y h1 h2 => by simp only [ltInt, decide_eq_false_iff_not] at h1 h2; omega) d d' hP hSo
   rw [h]
   refine List.Perm.eq_of_pairwise (le := fun x y => x <= y) ?_ ?_ ?_ ((List.mergeSort_perm _ _).trans hp.symm)
   ·intro a b _ _ h1 h2; omega
   ·have hp := List.pairwise_mergeSort (le := fun x y => !ltInt y x) (fun a b c h1 h2 => by simp [ltInt] at *; omega) (fun a b => by simp [ltInt]; omega) d.toList
    exact hp.imp (fun h => by simpa [ltInt] using h)
   ·exact hs.imp (fun h => by omega)
  have hd' : d' = us.toArray := by rw [<- hus]
  subst hd'
  rw [Lib.sorted_world (Value.int .u32) w blk 0 n d us os hH hlen]
  refine ⟨rfl, mod_sorted, ?_⟩
  obtain ⟨C', q1, q2, q3, q4⟩ := heap_setCells (w := w.drewN n) (us.map (Value.int .u32)) 0 C hb
  refine ⟨C', ?_, q2, fun j hj => ?_⟩
  ·have hlt : blk < ((w.drewN n).setCells blk 0 (us.map (Value.int .u32))).heap.size := lt_of_block q1
   simp only [grow]
   rw [Array.getElem?_append_left hlt]
   exact q1
  ·have hjC : j < C.size := by
    have := hC j (by omega)
    exact (Array.getElem?_eq_some_iff.1 this).1
   have := q3 j (by simpa using hj) (by omega)
   rw [Nat.zero_add] at this
   rw [this]
   simp
 ·have hfind : ∀ n : Nat, n <= 1 -> Try.prog.funcs.findIdx? (·.name == "internal/reflectlite" ++ ".Swapper$" ++ toString (n + 1)) = some (141 + n) := by
   have f0 : Try.prog.funcs.findIdx? (·.name == "internal/reflectlite" ++ ".Swapper$" ++ toString (0 + 1)) = some 141 := by kernel_rfl
   have f1 : Try.prog.funcs.findIdx? (·.name == "internal/reflectlite" ++ ".Swapper$" ++ toString (1 + 1)) = some (141 + 1) := by kernel_rfl
   intro n hn
   have : n = 0 \/ n = 1 := by omega
   rcases this with h | h
   ·rw [h]; exact f0
   ·rw [h]; exact f1
  have hK : Lib.swapperK d.size siE 10 = d.size + 1 := by
   rcases Nat.eq_zero_or_pos d.size with h | h
   ·rw [h]; simp [Lib.swapperK]
   ·have : d.size = 1 := by omega
    rw [this]; simp [Lib.swapperK]
  have hS := Any.sort_Slice_tiny slLay 176 61 siT siE (by kernel_rfl) (by kernel_rfl) (by kernel_rfl) (by kernel_rfl) 10 (fun _ => by kernel_rfl) (some ⟨blk, 0, none⟩) d.size c (by omega) (141 + d.size) (by rw [hK]; exact hfind d.size (by omega)) (.func 135) #[] #[.pointer (some ⟨bs, 0, none⟩)] w
  change Calls Try.prog 134 _ _ _ at hS
  refine hS.mono ?_
  rintro e w' ⟨rfl, os, rfl⟩
  refine ⟨rfl, mod_grow, C, ?_, rfl, fun j hj => ?_⟩
  ·simp only [grow]
   rw [Array.getElem?_append_left hblk]
   exact hb
  ·have h1 : us.length = 1 := by omega
   have hj0 : j = 0 := by omega
   subst hj0
   match us, h1, hp with
   | [x], _, hp =>
    have hx : d.toList = [x] := (List.perm_singleton.1 hp.symm)
    have hd1 : d.size = 1 := by simpa using hlen.symm
    have : d[0]! = x := by
     have e : d = #[x] := by rw [<- Array.toArray_toList (xs := d), hx]
     rw [e]; rfl
    rw [hC 0 (by omega), this]
    rfl
end Go.Proofs.Ythkpmmjcmldjhaa
