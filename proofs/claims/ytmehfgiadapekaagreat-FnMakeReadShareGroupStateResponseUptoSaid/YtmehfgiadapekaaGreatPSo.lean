/-
  The contract of sort.Slice, laid in this program.
  The numbers of tags are sorted: sort.Slice at a slice of numbers of 32 bits.
-/
import Derived.Test.YtmehfgiadapekaaGreatChecked
import Derived.Shelf.GgSortFunc.Whole
import Derived.Shelf.GgSortFunc.Tiny
import Derived.Lib.SortBridge
import Derived.Sort.LotA
import Derived.Lib.RowBridge
import Derived.WalkKit
import Derived.Deep.QuietTactic
import Derived.Deep.MidRow
import Derived.Test.YtmehfgiadapekaaGreatPRun
namespace Go.Proofs.YtmehfgiadapekaaGreat
open Go Go.Shelf
def slRen : Go.Shelf.Ren := ⟨fun | 6 => 92 | 10 => 97 | 11 => 98 | 12 => 99 | 13 => 100 | 14 => 101 | 15 => 102 | 16 => 103 | 17 => 104 | 18 => 105 | 19 => 106 | 20 => 107 | 21 => 108 | 22 => 109 | 23 => 110 | 24 => 91 | 25 => 111 | 26 => 112 | 27 => 113 | 28 => 114 | 29 => 115 | 30 => 116 | 31 => 117 | 32 => 118 | 33 => 119 | 34 => 120 | 35 => 121 | 36 => 122 | 37 => 123 | 38 => 124 | 39 => 125 | n => n, fun | 0 => 0 | 3 => 3 | 4 => 4 | 5 => 5 | 9 => 9 | 12 => 12 | 17 => 17 | 20 => 20 | 26 => 151 | 32 => 156 | 33 => 157 | 35 => 159 | 37 => 161 | 41 => 139 | 44 => 166 | 49 => 61 | 51 => 109 | 53 => 172 | 54 => 173 | 58 => 177 | 60 => 179 | 64 => 183 | 66 => 185 | 67 => 186 | 75 => 194 | 76 => 195 | 77 => 196 | 78 => 197 | 79 => 198 | 80 => 199 | 82 => 201 | n => n, fun n => n⟩
theorem slLay : LaysGg.n6 Tryz.prog slRen := {
 mixed := by kernel_rfl,
 f6 := Tryz.func92.trans (congrArg some (by kernel_rfl)),
 f10 := Tryz.func97.trans (congrArg some (by kernel_rfl)),
 f11 := Tryz.func98.trans (congrArg some (by kernel_rfl)),
 f12 := Tryz.func99.trans (congrArg some (by kernel_rfl)),
 f13 := Tryz.func100.trans (congrArg some (by kernel_rfl)),
 f14 := Tryz.func101.trans (congrArg some (by kernel_rfl)),
 f24 := Tryz.func91.trans (congrArg some (by kernel_rfl)),
 f25 := Tryz.func111.trans (congrArg some (by kernel_rfl)),
 f26 := Tryz.func112.trans (congrArg some (by kernel_rfl)),
 f27 := Tryz.func113.trans (congrArg some (by kernel_rfl)),
 f28 := Tryz.func114.trans (congrArg some (by kernel_rfl)),
 f29 := Tryz.func115.trans (congrArg some (by kernel_rfl)),
 f30 := Tryz.func116.trans (congrArg some (by kernel_rfl)),
 f31 := Tryz.func117.trans (congrArg some (by kernel_rfl)),
 f32 := Tryz.func118.trans (congrArg some (by kernel_rfl)),
 f33 := Tryz.func119.trans (congrArg some (by kernel_rfl)),
 f34 := Tryz.func120.trans (congrArg some (by kernel_rfl)),
 f35 := Tryz.func121.trans (congrArg some (by kernel_rfl)),
 f36 := Tryz.func122.trans (congrArg some (by kernel_rfl)),
 f37 := Tryz.func123.trans (congrArg some (by kernel_rfl)),
 f38 := Tryz.func124.trans (congrArg some (by kernel_rfl)),
 f39 := Tryz.func125.trans (congrArg some (by kernel_rfl)),
 t0 := Tryz.underlying0,
 a0 := Tryz.isAgg0,
 z0 := Tryz.sizeOf0,
 v0 := Tryz.zeroValue0,
 i0 := by kernel_rfl,
 t3 := Tryz.underlying3,
 a3 := Tryz.isAgg3,
 z3 := Tryz.sizeOf3,
 v3 := Tryz.zeroValue3,
 i3 := by kernel_rfl,
 t4 := Tryz.underlying4,
 a4 := Tryz.isAgg4,
 z4 := Tryz.sizeOf4,
 v4 := Tryz.zeroValue4,
 i4 := by kernel_rfl,
 t5 := Tryz.underlying5,
 a5 := Tryz.isAgg5,
 z5 := Tryz.sizeOf5,
 v5 := Tryz.zeroValue5,
 i5 := by kernel_rfl,
 t9 := Tryz.underlying9,
 a9 := Tryz.isAgg9,
 z9 := Tryz.sizeOf9,
 v9 := Tryz.zeroValue9,
 i9 := by kernel_rfl,
 t12 := Tryz.underlying12,
 a12 := Tryz.isAgg12,
 z12 := Tryz.sizeOf12,
 v12 := Tryz.zeroValue12,
 i12 := by kernel_rfl,
 t17 := Tryz.underlying17,
 a17 := Tryz.isAgg17,
 z17 := Tryz.sizeOf17,
 v17 := Tryz.zeroValue17,
 i17 := by kernel_rfl,
 t20 := Tryz.underlying20,
 a20 := Tryz.isAgg20,
 z20 := Tryz.sizeOf20,
 v20 := Tryz.zeroValue20,
 i20 := by kernel_rfl,
 t26 := Tryz.underlying151,
 a26 := Tryz.isAgg151,
 z26 := Tryz.sizeOf151,
 v26 := Tryz.zeroValue151,
 i26 := by kernel_rfl,
 t32 := Tryz.underlying156,
 a32 := Tryz.isAgg156,
 z32 := Tryz.sizeOf156,
 v32 := Tryz.zeroValue156,
 i32 := by kernel_rfl,
 t33 := Tryz.underlying157,
 a33 := Tryz.isAgg157,
 z33 := Tryz.sizeOf157,
 v33 := Tryz.zeroValue157,
 i33 := by kernel_rfl,
 t35 := Tryz.underlying159,
 a35 := Tryz.isAgg159,
 z35 := Tryz.sizeOf159,
 v35 := Tryz.zeroValue159,
 i35 := by kernel_rfl,
 t37 := Tryz.underlying161,
 a37 := Tryz.isAgg161,
 z37 := Tryz.sizeOf161,
 v37 := Tryz.zeroValue161,
 i37 := by kernel_rfl,
 t41 := Tryz.underlying139,
 a41 := Tryz.isAgg139,
 z41 := Tryz.sizeOf139,
 v41 := Tryz.zeroValue139,
 i41 := by kernel_rfl,
 t44 := Tryz.underlying166,
 a44 := Tryz.isAgg166,
 z44 := Tryz.sizeOf166,
 v44 := Tryz.zeroValue166,
 i44 := by kernel_rfl,
 t49 := Tryz.underlying61,
 a49 := Tryz.isAgg61,
 z49 := Tryz.sizeOf61,
 v49 := Tryz.zeroValue61,
 i49 := by kernel_rfl,
 t51 := Tryz.underlying109,
 a51 := Tryz.isAgg109,
 z51 := Tryz.sizeOf109,
 v51 := Tryz.zeroValue109,
 i51 := by kernel_rfl,
 t53 := Tryz.underlying172,
 a53 := Tryz.isAgg172,
 z53 := Tryz.sizeOf172,
 v53 := Tryz.zeroValue172,
 i53 := by kernel_rfl,
 t54 := Tryz.underlying173,
 a54 := Tryz.isAgg173,
 z54 := Tryz.sizeOf173,
 v54 := Tryz.zeroValue173,
 i54 := by kernel_rfl,
 t58 := Tryz.underlying177,
 a58 := Tryz.isAgg177,
 z58 := Tryz.sizeOf177,
 v58 := Tryz.zeroValue177,
 i58 := by kernel_rfl,
 t60 := Tryz.underlying179,
 a60 := Tryz.isAgg179,
 z60 := Tryz.sizeOf179,
 v60 := Tryz.zeroValue179,
 i60 := by kernel_rfl,
 t64 := Tryz.underlying183,
 a64 := Tryz.isAgg183,
 z64 := Tryz.sizeOf183,
 v64 := Tryz.zeroValue183,
 i64 := by kernel_rfl,
 t66 := Tryz.underlying185,
 a66 := Tryz.isAgg185,
 z66 := Tryz.sizeOf185,
 v66 := Tryz.zeroValue185,
 i66 := by kernel_rfl,
 t67 := Tryz.underlying186,
 a67 := Tryz.isAgg186,
 z67 := Tryz.sizeOf186,
 v67 := Tryz.zeroValue186,
 i67 := by kernel_rfl,
 t75 := Tryz.underlying194,
 a75 := Tryz.isAgg194,
 z75 := Tryz.sizeOf194,
 v75 := Tryz.zeroValue194,
 i75 := by kernel_rfl,
 t76 := Tryz.underlying195,
 a76 := Tryz.isAgg195,
 z76 := Tryz.sizeOf195,
 v76 := Tryz.zeroValue195,
 i76 := by kernel_rfl,
 t77 := Tryz.underlying196,
 a77 := Tryz.isAgg196,
 z77 := Tryz.sizeOf196,
 v77 := Tryz.zeroValue196,
 i77 := by kernel_rfl,
 t78 := Tryz.underlying197,
 a78 := Tryz.isAgg197,
 z78 := Tryz.sizeOf197,
 v78 := Tryz.zeroValue197,
 i78 := by kernel_rfl,
 t79 := Tryz.underlying198,
 a79 := Tryz.isAgg198,
 z79 := Tryz.sizeOf198,
 v79 := Tryz.zeroValue198,
 i79 := by kernel_rfl,
 t80 := Tryz.underlying199,
 a80 := Tryz.isAgg199,
 z80 := Tryz.sizeOf199,
 v80 := Tryz.zeroValue199,
 i80 := by kernel_rfl,
 t82 := Tryz.underlying201,
 a82 := Tryz.isAgg201,
 z82 := Tryz.sizeOf201,
 v82 := Tryz.zeroValue201,
 i82 := by kernel_rfl }
end Go.Proofs.YtmehfgiadapekaaGreat
set_option linter.unusedSimpArgs false
set_option linter.unusedVariables false
namespace Go.Proofs.YtmehfgiadapekaaGreat
open Go Go.RowKit Go.Lib Go.Sort Go.Shelf Go.Proofs
noncomputable def siT : TypeInfo := (Tryz.prog.info? 129).get (by kernel_rfl)
noncomputable def siE : TypeInfo := (Tryz.prog.info? 61).get (by kernel_rfl)
theorem siK (n : Nat) (h2 : 2 <= n) : Lib.swapperK n siE 10 = 6 := by
 have a : siE.hasPointers = false := by kernel_rfl
 have b : siE.bytes = 4 := by kernel_rfl
 have c : (n == 0) = false := by simp; omega
 have d : (n == 1) = false := by simp; omega
 simp [Lib.swapperK, a, b, c, d]
set_option maxHeartbeats 2000000 in
theorem less_keys (blk off c Bs size : Nat) (W : World) (G : Nat -> Int) (hs : W.cell? ⟨Bs, 0, none⟩ = some (.slice (some ⟨blk, off, none⟩) size c))
  (hc : ∀ t, t < size -> W.cell? ⟨blk, off + t, none⟩ = some (.int .u32 (G t))) (i j : Nat) (hi : i < size) (hj : j < size) :
  Calls Tryz.prog 93 #[.int .i64 i, .int .i64 j, .pointer (some ⟨Bs, 0, none⟩)] W fun e w' => e = .returned (.bool (decide (G i < G j))) /\ ∃ q, w' = W.drewN q := by
 have ci := hc i hi
 have cj := hc j hj
 go_enter Tryz.func93, Tryz.ntmps93
 go_wp2
 go_quiet (fail)
 go_wp2
 go_ret
 exact ⟨rfl, nq, rfl⟩
theorem mod_grow {w : World} {S : Nat -> Prop} {os : Array Obj} : Mod S w (grow w os) :=
 ⟨rfl, rfl, rfl, by simp [grow], fun k hk _ => by simp only [grow]; exact Array.getElem?_append_left hk⟩
theorem mod_sorted {w : World} {blk q : Nat} {vs : List Value} {os : Array Obj} : Mod (only blk) w (grow ((w.drewN q).setCells blk 0 vs) os) := by
 have h1 : Mod (only blk) w (w.drewN q) := (Mod.refl w).drewN q
 have h2 : Mod (only blk) (w.drewN q) ((w.drewN q).setCells blk 0 vs) := mod_setCells _ _ _ _
 exact (h1.trans h2).trans mod_grow
set_option maxHeartbeats 2000000 in
theorem sort_keys {w : World} {bs blk c : Nat} {T t : TypeId} {C : Array Value} {fr : Nat × Nat} {d : Array Int} {us : List Int} (hbs : w.heap[bs]? = some (.cells #[.slice (some ⟨blk, 0, none⟩) d.size c] T fr) ) (hb : w.heap[blk]? = some (.cells C t (0, 0))) (hne : bs ≠ blk)
  (hC : ∀ j, j < d.size -> C[j]? = some (.int .u32 d[j]!)) (hsz : d.size < 4611686018427387904) (hp : us.Perm d.toList) (hs : us.Pairwise (· < ·)) :
  Calls Tryz.prog 92 #[.iface 129 (.slice (some ⟨blk, 0, none⟩) d.size c), .func (.func 93) #[] #[.pointer (some ⟨bs, 0, none⟩)]] w fun e w' =>
   e = .returned (.tuple #[]) /\ Mod (only blk) w w' /\ ∃ C', w'.heap[blk]? = some (.cells C' t (0, 0)) /\ C'.size = C.size /\ ∀ j (h : j < us.length), C'[j]? = some (.int .u32 us[j]) := by
 have hH : Holds (Value.int .u32) w blk 0 d := fun j hj => ⟨by rw [Zc hb, Nat.zero_add]; exact hC j hj, Zz hb⟩
 have hblk : blk < w.heap.size := lt_of_block hb
 have hbsl : bs < w.heap.size := lt_of_block hbs
 have hlen : us.length = d.size := by simpa using hp.length_eq
 by_cases h2 : 2 <= d.size
 ·have hless : LessReads Tryz.prog 93 #[.pointer (some ⟨bs, 0, none⟩)] (Value.int .u32) ltInt blk 0 d.size w := by
   intro m os dk hs i j hi hj
   have e : sortWorld (Value.int .u32) w blk 0 m dk os = putRow (Value.int .u32) (grow (Sort.ahead w m) os) blk 0 dk := by
    unfold sortWorld; rw [putRow_grow _ (Sort.ahead w m) _ blk 0 _ hblk]
   have hHg : Holds (Value.int .u32) (grow (Sort.ahead w m) os) blk 0 d := holds_grow _ _ _ blk 0 d hblk (holds_ahead _ _ _ _ _ _ hH)
   refine less_keys blk 0 c bs d.size _ (fun t => dk[t]!) ?_ (fun t ht => ?_) i j hi hj
   ·rw [e, cell?_putRow_other _ _ blk 0 dk _ (Or.inl (by show bs ≠ blk; exact hne)), cell?_grow _ _ _ (by show bs < (Sort.ahead w m).heap.size; exact hbsl)]
    show w.cell? _ = _
    rw [Zc hbs]
    rfl
   ·rw [e]; exact cell?_putRow _ _ blk 0 d dk hHg hs t (by omega)
  have hS := Any.sort_Slice_sorted slLay 129 61 siT siE (by kernel_rfl) (by kernel_rfl) (by kernel_rfl) (by kernel_rfl) 10 (fun _ => by kernel_rfl) (by kernel_rfl) (fun _ => by kernel_rfl) (Value.int .u32) (fun _ => rfl) ltInt swo_ltInt 93 _
   (enters_of Tryz.func93 (by kernel_rfl) rfl) blk 0 c d h2 hsz 107 (by rw [siK _ h2]; kernel_rfl) true
   (fun args W => run_callFunc_extern Tryz.func107 (by kernel_rfl) (by kernel_rfl) (by kernel_rfl) (e := Extern.ReflectliteSwapper.swap true) (by kernel_rfl) args W) w hless hH hblk
  change Calls Tryz.prog 92 _ _ _ at hS
  refine hS.mono ?_
  rintro e w' ⟨rfl, d', n, os, hP, hSo, rfl⟩
  have hus : d'.toList = us := by
   have h := sorted_unique_holds (lt := ltInt) swo_ltInt (fun x y h1 h2 => by simp only [ltInt, decide_eq_false_iff_not] at h1 h2; omega) d d' hP hSo
   rw [h]
   refine List.Perm.eq_of_pairwise (le := fun x y => x <= y) ?_ ?_ ?_ ((List.mergeSort_perm _ _).trans hp.symm)
   ·intro a b _ _ h1 h2; omega
   ·have hp := List.pairwise_mergeSort (le := fun x y => !ltInt y x) (fun a b c h1 h2 => by simp [ltInt] at *; omega) (fun a b => by simp [ltInt]; omega) d.toList
    exact hp.imp (fun h => by simpa [ltInt] using h)
   ·exact hs.imp (fun h => by omega)
  have hd' : d' = us.toArray := by rw [<- hus]
  subst hd'
  rw [Lib.sorted_world (Value.int .u32) w blk 0 n d us os hH hlen]
  refine ⟨rfl, mod_sorted, ?_⟩
  obtain ⟨C', q1, q2, q3, q4⟩ := heap_setCells (w := w.drewN n) (us.map (Value.int .u32)) 0 C hb
  refine ⟨C', ?_, q2, fun j hj => ?_⟩
  ·have hlt : blk < ((w.drewN n).setCells blk 0 (us.map (Value.int .u32))).heap.size := lt_of_block q1
   simp only [grow]
   rw [Array.getElem?_append_left hlt]
   exact q1
  ·have hjC : j < C.size := by
    have := hC j (by omega)
    exact (Array.getElem?_eq_some_iff.1 this).1
   have := q3 j (by simpa using hj) (by omega)
   rw [Nat.zero_add] at this
   rw [this]
   simp
 ·have hfind : ∀ n : Nat, n <= 1 -> Tryz.prog.funcs.findIdx? (·.name == "internal/reflectlite" ++ ".Swapper$" ++ toString (n + 1)) = some (102 + n) := by
   have f0 : Tryz.prog.funcs.findIdx? (·.name == "internal/reflectlite" ++ ".Swapper$" ++ toString (0 + 1)) = some 102 := by kernel_rfl
   have f1 : Tryz.prog.funcs.findIdx? (·.name == "internal/reflectlite" ++ ".Swapper$" ++ toString (1 + 1)) = some (102 + 1) := by kernel_rfl
   intro n hn
   have : n = 0 \/ n = 1 := by omega
   rcases this with h | h
   ·rw [h]; exact f0
   ·rw [h]; exact f1
  have hK : Lib.swapperK d.size siE 10 = d.size + 1 := by
   rcases Nat.eq_zero_or_pos d.size with h | h
   ·rw [h]; simp [Lib.swapperK]
   ·have : d.size = 1 := by omega
    rw [this]; simp [Lib.swapperK]
  have hS := Any.sort_Slice_tiny slLay 129 61 siT siE (by kernel_rfl) (by kernel_rfl) (by kernel_rfl) (by kernel_rfl) 10 (fun _ => by kernel_rfl) (some ⟨blk, 0, none⟩) d.size c (by omega) (102 + d.size) (by rw [hK]; exact hfind d.size (by omega)) (.func 93) #[] #[.pointer (some ⟨bs, 0, none⟩)] w
  change Calls Tryz.prog 92 _ _ _ at hS
  refine hS.mono ?_
  rintro e w' ⟨rfl, os, rfl⟩
  refine ⟨rfl, mod_grow, C, ?_, rfl, fun j hj => ?_⟩
  ·simp only [grow]
   rw [Array.getElem?_append_left hblk]
   exact hb
  ·have h1 : us.length = 1 := by omega
   have hj0 : j = 0 := by omega
   subst hj0
   match us, h1, hp with
   | [x], _, hp =>
    have hx : d.toList = [x] := (List.perm_singleton.1 hp.symm)
    have hd1 : d.size = 1 := by simpa using hlen.symm
    have : d[0]! = x := by
     have e : d = #[x] := by rw [<- Array.toArray_toList (xs := d), hx]
     rw [e]; rfl
    rw [hC 0 (by omega), this]
    rfl
end Go.Proofs.YtmehfgiadapekaaGreat
