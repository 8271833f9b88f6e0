/-
  The contract of sort.Slice, laid in this program.
  The numbers of tags are sorted: sort.Slice at a slice of numbers of 32 bits.
-/
import Derived.Test.YthkpmmjcmldjhaaGreatDoorRRChecked
import Derived.Shelf.GgSortFunc.Whole
import Derived.Shelf.GgSortFunc.Tiny
import Derived.Lib.SortBridge
import Derived.Sort.LotA
import Derived.Lib.RowBridge
import Derived.WalkKit
import Derived.Deep.QuietTactic
import Derived.Deep.MidRow
import Derived.Test.YthkpmmjcmldjhaaGreatDoorRRPRun
namespace Go.Proofs.YthkpmmjcmldjhaaGreatDoorRR
open Go Go.Shelf
def slRen : Go.Shelf.Ren := ⟨fun | 6 => 89 | 10 => 95 | 11 => 96 | 12 => 97 | 13 => 98 | 14 => 99 | 15 => 101 | 16 => 102 | 17 => 103 | 18 => 104 | 19 => 105 | 20 => 106 | 21 => 107 | 22 => 108 | 23 => 109 | 24 => 88 | 25 => 110 | 26 => 111 | 27 => 112 | 28 => 113 | 29 => 114 | 30 => 115 | 31 => 116 | 32 => 117 | 33 => 118 | 34 => 119 | 35 => 120 | 36 => 121 | 37 => 122 | 38 => 123 | 39 => 124 | n => n, fun | 0 => 0 | 3 => 3 | 4 => 4 | 5 => 5 | 9 => 9 | 12 => 12 | 17 => 17 | 20 => 20 | 26 => 120 | 32 => 128 | 33 => 129 | 35 => 131 | 37 => 133 | 41 => 95 | 44 => 138 | 49 => 55 | 51 => 71 | 53 => 145 | 54 => 146 | 58 => 150 | 60 => 152 | 64 => 155 | 66 => 157 | 67 => 158 | 75 => 166 | 76 => 167 | 77 => 168 | 78 => 169 | 79 => 170 | 80 => 171 | 82 => 173 | n => n, fun n => n⟩
theorem slLay : LaysGg.n6 Tryz.prog slRen := {
 mixed := by kernel_rfl,
 f6 := Tryz.func89.trans (congrArg some (by kernel_rfl)),
 f10 := Tryz.func95.trans (congrArg some (by kernel_rfl)),
 f11 := Tryz.func96.trans (congrArg some (by kernel_rfl)),
 f12 := Tryz.func97.trans (congrArg some (by kernel_rfl)),
 f13 := Tryz.func98.trans (congrArg some (by kernel_rfl)),
 f14 := Tryz.func99.trans (congrArg some (by kernel_rfl)),
 f24 := Tryz.func88.trans (congrArg some (by kernel_rfl)),
 f25 := Tryz.func110.trans (congrArg some (by kernel_rfl)),
 f26 := Tryz.func111.trans (congrArg some (by kernel_rfl)),
 f27 := Tryz.func112.trans (congrArg some (by kernel_rfl)),
 f28 := Tryz.func113.trans (congrArg some (by kernel_rfl)),
 f29 := Tryz.func114.trans (congrArg some (by kernel_rfl)),
 f30 := Tryz.func115.trans (congrArg some (by kernel_rfl)),
 f31 := Tryz.func116.trans (congrArg some (by kernel_rfl)),
 f32 := Tryz.func117.trans (congrArg some (by kernel_rfl)),
 f33 := Tryz.func118.trans (congrArg some (by kernel_rfl)),
 f34 := Tryz.func119.trans (congrArg some (by kernel_rfl)),
 f35 := Tryz.func120.trans (congrArg some (by kernel_rfl)),
 f36 := Tryz.func121.trans (congrArg some (by kernel_rfl)),
 f37 := Tryz.func122.trans (congrArg some (by kernel_rfl)),
 f38 := Tryz.func123.trans (congrArg some (by kernel_rfl)),
 f39 := Tryz.func124.trans (congrArg some (by kernel_rfl)),
 t0 := Tryz.underlying0,
 a0 := Tryz.isAgg0,
 z0 := Tryz.sizeOf0,
 v0 := Tryz.zeroValue0,
 i0 := by kernel_rfl,
 t3 := Tryz.underlying3,
 a3 := Tryz.isAgg3,
 z3 := Tryz.sizeOf3,
 v3 := Tryz.zeroValue3,
 i3 := by kernel_rfl,
 t4 := Tryz.underlying4,
 a4 := Tryz.isAgg4,
 z4 := Tryz.sizeOf4,
 v4 := Tryz.zeroValue4,
 i4 := by kernel_rfl,
 t5 := Tryz.underlying5,
 a5 := Tryz.isAgg5,
 z5 := Tryz.sizeOf5,
 v5 := Tryz.zeroValue5,
 i5 := by kernel_rfl,
 t9 := Tryz.underlying9,
 a9 := Tryz.isAgg9,
 z9 := Tryz.sizeOf9,
 v9 := Tryz.zeroValue9,
 i9 := by kernel_rfl,
 t12 := Tryz.underlying12,
 a12 := Tryz.isAgg12,
 z12 := Tryz.sizeOf12,
 v12 := Tryz.zeroValue12,
 i12 := by kernel_rfl,
 t17 := Tryz.underlying17,
 a17 := Tryz.isAgg17,
 z17 := Tryz.sizeOf17,
 v17 := Tryz.zeroValue17,
 i17 := by kernel_rfl,
 t20 := Tryz.underlying20,
 a20 := Tryz.isAgg20,
 z20 := Tryz.sizeOf20,
 v20 := Tryz.zeroValue20,
 i20 := by kernel_rfl,
 t26 := Tryz.underlying120,
 a26 := Tryz.isAgg120,
 z26 := Tryz.sizeOf120,
 v26 := Tryz.zeroValue120,
 i26 := by kernel_rfl,
 t32 := Tryz.underlying128,
 a32 := Tryz.isAgg128,
 z32 := Tryz.sizeOf128,
 v32 := Tryz.zeroValue128,
 i32 := by kernel_rfl,
 t33 := Tryz.underlying129,
 a33 := Tryz.isAgg129,
 z33 := Tryz.sizeOf129,
 v33 := Tryz.zeroValue129,
 i33 := by kernel_rfl,
 t35 := Tryz.underlying131,
 a35 := Tryz.isAgg131,
 z35 := Tryz.sizeOf131,
 v35 := Tryz.zeroValue131,
 i35 := by kernel_rfl,
 t37 := Tryz.underlying133,
 a37 := Tryz.isAgg133,
 z37 := Tryz.sizeOf133,
 v37 := Tryz.zeroValue133,
 i37 := by kernel_rfl,
 t41 := Tryz.underlying95,
 a41 := Tryz.isAgg95,
 z41 := Tryz.sizeOf95,
 v41 := Tryz.zeroValue95,
 i41 := by kernel_rfl,
 t44 := Tryz.underlying138,
 a44 := Tryz.isAgg138,
 z44 := Tryz.sizeOf138,
 v44 := Tryz.zeroValue138,
 i44 := by kernel_rfl,
 t49 := Tryz.underlying55,
 a49 := Tryz.isAgg55,
 z49 := Tryz.sizeOf55,
 v49 := Tryz.zeroValue55,
 i49 := by kernel_rfl,
 t51 := Tryz.underlying71,
 a51 := Tryz.isAgg71,
 z51 := Tryz.sizeOf71,
 v51 := Tryz.zeroValue71,
 i51 := by kernel_rfl,
 t53 := Tryz.underlying145,
 a53 := Tryz.isAgg145,
 z53 := Tryz.sizeOf145,
 v53 := Tryz.zeroValue145,
 i53 := by kernel_rfl,
 t54 := Tryz.underlying146,
 a54 := Tryz.isAgg146,
 z54 := Tryz.sizeOf146,
 v54 := Tryz.zeroValue146,
 i54 := by kernel_rfl,
 t58 := Tryz.underlying150,
 a58 := Tryz.isAgg150,
 z58 := Tryz.sizeOf150,
 v58 := Tryz.zeroValue150,
 i58 := by kernel_rfl,
 t60 := Tryz.underlying152,
 a60 := Tryz.isAgg152,
 z60 := Tryz.sizeOf152,
 v60 := Tryz.zeroValue152,
 i60 := by kernel_rfl,
 t64 := Tryz.underlying155,
 a64 := Tryz.isAgg155,
 z64 := Tryz.sizeOf155,
 v64 := Tryz.zeroValue155,
 i64 := by kernel_rfl,
 t66 := Tryz.underlying157,
 a66 := Tryz.isAgg157,
 z66 := Tryz.sizeOf157,
 v66 := Tryz.zeroValue157,
 i66 := by kernel_rfl,
 t67 := Tryz.underlying158,
 a67 := Tryz.isAgg158,
 z67 := Tryz.sizeOf158,
 v67 := Tryz.zeroValue158,
 i67 := by kernel_rfl,
 t75 := Tryz.underlying166,
 a75 := Tryz.isAgg166,
 z75 := Tryz.sizeOf166,
 v75 := Tryz.zeroValue166,
 i75 := by kernel_rfl,
 t76 := Tryz.underlying167,
 a76 := Tryz.isAgg167,
 z76 := Tryz.sizeOf167,
 v76 := Tryz.zeroValue167,
 i76 := by kernel_rfl,
 t77 := Tryz.underlying168,
 a77 := Tryz.isAgg168,
 z77 := Tryz.sizeOf168,
 v77 := Tryz.zeroValue168,
 i77 := by kernel_rfl,
 t78 := Tryz.underlying169,
 a78 := Tryz.isAgg169,
 z78 := Tryz.sizeOf169,
 v78 := Tryz.zeroValue169,
 i78 := by kernel_rfl,
 t79 := Tryz.underlying170,
 a79 := Tryz.isAgg170,
 z79 := Tryz.sizeOf170,
 v79 := Tryz.zeroValue170,
 i79 := by kernel_rfl,
 t80 := Tryz.underlying171,
 a80 := Tryz.isAgg171,
 z80 := Tryz.sizeOf171,
 v80 := Tryz.zeroValue171,
 i80 := by kernel_rfl,
 t82 := Tryz.underlying173,
 a82 := Tryz.isAgg173,
 z82 := Tryz.sizeOf173,
 v82 := Tryz.zeroValue173,
 i82 := by kernel_rfl }
end Go.Proofs.YthkpmmjcmldjhaaGreatDoorRR
set_option linter.unusedSimpArgs false
set_option linter.unusedVariables false
namespace Go.Proofs.YthkpmmjcmldjhaaGreatDoorRR
open Go Go.RowKit Go.Lib Go.Sort Go.Shelf Go.Proofs
noncomputable def siT : TypeInfo := (Tryz.prog.info? 118).get (by kernel_rfl)
noncomputable def siE : TypeInfo := (Tryz.prog.info? 55).get (by kernel_rfl)
theorem siK (n : Nat) (h2 : 2 <= n) : Lib.swapperK n siE 10 = 6 := by
 have a : siE.hasPointers = false := by kernel_rfl
 have b : siE.bytes = 4 := by kernel_rfl
 have c : (n == 0) = false := by simp; omega
 have d : (n == 1) = false := by simp; omega
 simp [Lib.swapperK, a, b, c, d]
set_option maxHeartbeats 2000000 in
theorem less_keys (blk off c Bs size : Nat) (W : World) (G : Nat -> Int) (hs : W.cell? ⟨Bs, 0, none⟩ = some (.slice (some ⟨blk, off, none⟩) size c))
  (hc : ∀ t, t < size -> W.cell? ⟨blk, off + t, none⟩ = some (.int .u32 (G t))) (i j : Nat) (hi : i < size) (hj : j < size) :
  Calls Tryz.prog 90 #[.int .i64 i, .int .i64 j, .pointer (some ⟨Bs, 0, none⟩)] W fun e w' => e = .returned (.bool (decide (G i < G j))) /\ ∃ q, w' = W.drewN q := by
 have ci := hc i hi
 have cj := hc j hj
 go_enter Tryz.func90, Tryz.ntmps90
 go_wp2
 go_quiet (fail)
 go_wp2
 go_ret
 exact ⟨rfl, nq, rfl⟩
theorem mod_grow {w : World} {S : Nat -> Prop} {os : Array Obj} : Mod S w (grow w os) :=
 ⟨rfl, rfl, rfl, by simp [grow], fun k hk _ => by simp only [grow]; exact Array.getElem?_append_left hk⟩
theorem mod_sorted {w : World} {blk q : Nat} {vs : List Value} {os : Array Obj} : Mod (only blk) w (grow ((w.drewN q).setCells blk 0 vs) os) := by
 have h1 : Mod (only blk) w (w.drewN q) := (Mod.refl w).drewN q
 have h2 : Mod (only blk) (w.drewN q) ((w.drewN q).setCells blk 0 vs) := mod_setCells _ _ _ _
 exact (h1.trans h2).trans mod_grow
set_option maxHeartbeats 2000000 in
theorem sort_keys {w : World} {bs blk c : Nat} {T t : TypeId} {C : Array Value} {fr : Nat × Nat} {d : Array Int} {us : List Int} (hbs : w.heap[bs]? = some (.cells #[.slice (some ⟨blk, 0, none⟩) d.size c] T fr) ) (hb : w.heap[blk]? = some (.cells C t (0, 0))) (hne : bs ≠ blk)
  (hC : ∀ j, j < d.size -> C[j]? = some (.int .u32 d[j]!)) (hsz : d.size < 4611686018427387904) (hp : us.Perm d.toList) (hs : us.Pairwise (· < ·)) :
  Calls Tryz.prog 89 #[.iface 118 (.slice (some ⟨blk, 0, none⟩) d.size c), .func (.func 90) #[] #[.pointer (some ⟨bs, 0, none⟩)]] w fun e w' =>
   e = .returned (.tuple #[]) /\ Mod (only blk) w w' /\ ∃ C', w'.heap[blk]? = some (.cells C' t (0, 0)) /\ C'.size = C.size /\ ∀ j (h : j < us.length), C'[j]? = some (.int .u32 us[j]) := by
 have hH : Holds (Value.int .u32) w blk 0 d := fun j hj => ⟨by rw [Zc hb, Nat.zero_add]; exact hC j hj, Zz hb⟩
 have hblk : blk < w.heap.size := lt_of_block hb
 have hbsl : bs < w.heap.size := lt_of_block hbs
 have hlen : us.length = d.size := by simpa using hp.length_eq
 by_cases h2 : 2 <= d.size
 ·have hless : LessReads Tryz.prog 90 #[.pointer (some ⟨bs, 0, none⟩)] (Value.int .u32) ltInt blk 0 d.size w := by
   intro m os dk hs i j hi hj
   have e : sortWorld (Value.int .u32) w blk 0 m dk os = putRow (Value.int .u32) (grow (Sort.ahead w m) os) blk 0 dk := by
    unfold sortWorld; rw [putRow_grow _ (Sort.ahead w m) _ blk 0 _ hblk]
   have hHg : Holds (Value.int .u32) (grow (Sort.ahead w m) os) blk 0 d := holds_grow _ _ _ blk 0 d hblk (holds_ahead _ _ _ _ _ _ hH)
   refine less_keys blk 0 c bs d.size _ (fun t => dk[t]!) ?_ (fun t ht => ?_) i j hi hj
   ·rw [e, cell?_putRow_other _ _ blk 0 dk _ (Or.inl (by show bs ≠ blk; exact hne)), cell?_grow _ _ _ (by show bs < (Sort.ahead w m).heap.size; exact hbsl)]
    show w.cell? _ = _
    rw [Zc hbs]
    rfl
   ·rw [e]; exact cell?_putRow _ _ blk 0 d dk hHg hs t (by omega)
  have hS := Any.sort_Slice_sorted slLay 118 55 siT siE (by kernel_rfl) (by kernel_rfl) (by kernel_rfl) (by kernel_rfl) 10 (fun _ => by kernel_rfl) (by kernel_rfl) (fun _ => by kernel_rfl) (Value.int .u32) (fun _ => rfl) ltInt swo_ltInt 90 _
   (enters_of Tryz.func90 (by kernel_rfl) rfl) blk 0 c d h2 hsz 106 (by rw [siK _ h2]; kernel_rfl) true
   (fun args W => run_callFunc_extern Tryz.func106 (by kernel_rfl) (by kernel_rfl) (by kernel_rfl) (e := Extern.ReflectliteSwapper.swap true) (by kernel_rfl) args W) w hless hH hblk
  change Calls Tryz.prog 89 _ _ _ at hS
  refine hS.mono ?_
  rintro e w' ⟨rfl, d', n, os, hP, hSo, rfl⟩
  have hus : d'.toList = us := by
   have h := sorted_unique_holds (lt := ltInt) swo_ltInt (fun x y h1 h2 => by simp only [ltInt, decide_eq_false_iff_not] at h1 h2; omega) d d' hP hSo
   rw [h]
   refine List.Perm.eq_of_pairwise (le := fun x y => x <= y) ?_ ?_ ?_ ((List.mergeSort_perm _ _).trans hp.symm)
   ·intro a b _ _ h1 h2; omega
   ·have hp := List.pairwise_mergeSort (le := fun x y => !ltInt y x) (fun a b c h1 h2 => by simp [ltInt] at *; omega) (fun a b => by simp [ltInt]; omega) d.toList
    exact hp.imp (fun h => by simpa [ltInt] using h)
   ·exact hs.imp (fun h => by omega)
  have hd' : d' = us.toArray := by rw [<- hus]
  subst hd'
  rw [Lib.sorted_world (Value.int .u32) w blk 0 n d us os hH hlen]
  refine ⟨rfl, mod_sorted, ?_⟩
  obtain ⟨C', q1, q2, q3, q4⟩ := heap_setCells (w := w.drewN n) (us.map (Value.int .u32)) 0 C hb
  refine ⟨C', ?_, q2, fun j hj => ?_⟩
  ·have hlt : blk < ((w.drewN n).setCells blk 0 (us.map (Value.int .u32))).heap.size := lt_of_block q1
   simp only [grow]
   rw [Array.getElem?_append_left hlt]
   exact q1
  ·have hjC : j < C.size := by
    have := hC j (by omega)
    exact (Array.getElem?_eq_some_iff.1 this).1
   have := q3 j (by simpa using hj) (by omega)
   rw [Nat.zero_add] at this
   rw [this]
   simp
 ·have hfind : ∀ n : Nat, n <= 1 -> Tryz.prog.funcs.findIdx? (·.name == "internal/reflectlite" ++ ".Swapper$" ++ toString (n + 1)) = some (101 + n) := by
   have f0 : Tryz.prog.funcs.findIdx? (·.name == "internal/reflectlite" ++ ".Swapper$" ++ toString (0 + 1)) = some 101 := by kernel_rfl
   have f1 : Tryz.prog.funcs.findIdx? (·.name == "internal/reflectlite" ++ ".Swapper$" ++ toString (1 + 1)) = some (101 + 1) := by kernel_rfl
   intro n hn
   have : n = 0 \/ n = 1 := by omega
   rcases this with h | h
   ·rw [h]; exact f0
   ·rw [h]; exact f1
  have hK : Lib.swapperK d.size siE 10 = d.size + 1 := by
   rcases Nat.eq_zero_or_pos d.size with h | h
   ·rw [h]; simp [Lib.swapperK]
   ·have : d.size = 1 := by omega
    rw [this]; simp [Lib.swapperK]
  have hS := Any.sort_Slice_tiny slLay 118 55 siT siE (by kernel_rfl) (by kernel_rfl) (by kernel_rfl) (by kernel_rfl) 10 (fun _ => by kernel_rfl) (some ⟨blk, 0, none⟩) d.size c (by omega) (101 + d.size) (by rw [hK]; exact hfind d.size (by omega)) (.func 90) #[] #[.pointer (some ⟨bs, 0, none⟩)] w
  change Calls Tryz.prog 89 _ _ _ at hS
  refine hS.mono ?_
  rintro e w' ⟨rfl, os, rfl⟩
  refine ⟨rfl, mod_grow, C, ?_, rfl, fun j hj => ?_⟩
  ·simp only [grow]
   rw [Array.getElem?_append_left hblk]
   exact hb
  ·have h1 : us.length = 1 := by omega
   have hj0 : j = 0 := by omega
   subst hj0
   match us, h1, hp with
   | [x], _, hp =>
    have hx : d.toList = [x] := (List.perm_singleton.1 hp.symm)
    have hd1 : d.size = 1 := by simpa using hlen.symm
    have : d[0]! = x := by
     have e : d = #[x] := by rw [<- Array.toArray_toList (xs := d), hx]
     rw [e]; rfl
    rw [hC 0 (by omega), this]
    rfl
end Go.Proofs.YthkpmmjcmldjhaaGreatDoorRR
