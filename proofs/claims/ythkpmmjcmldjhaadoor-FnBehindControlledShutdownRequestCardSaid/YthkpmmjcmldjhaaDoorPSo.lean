/-
  The contract of sort.Slice, laid in this program.
  The numbers of tags are sorted: sort.Slice at a slice of numbers of 32 bits.
-/
import Derived.Test.YthkpmmjcmldjhaaDoorChecked
import Derived.Shelf.GgSortFunc.Whole
import Derived.Shelf.GgSortFunc.Tiny
import Derived.Lib.SortBridge
import Derived.Sort.LotA
import Derived.Lib.RowBridge
import Derived.WalkKit
import Derived.Deep.QuietTactic
import Derived.Deep.MidRow
import Derived.Test.YthkpmmjcmldjhaaDoorPRun
namespace Go.Proofs.YthkpmmjcmldjhaaDoor
open Go Go.Shelf
def slRen : Go.Shelf.Ren := ⟨fun | 6 => 73 | 10 => 79 | 11 => 80 | 12 => 81 | 13 => 82 | 14 => 83 | 15 => 84 | 16 => 85 | 17 => 86 | 18 => 87 | 19 => 88 | 20 => 89 | 21 => 90 | 22 => 91 | 23 => 92 | 24 => 72 | 25 => 93 | 26 => 94 | 27 => 95 | 28 => 96 | 29 => 97 | 30 => 98 | 31 => 99 | 32 => 100 | 33 => 101 | 34 => 102 | 35 => 103 | 36 => 104 | 37 => 105 | 38 => 106 | 39 => 107 | n => n, fun | 0 => 0 | 3 => 3 | 4 => 4 | 5 => 5 | 9 => 9 | 12 => 12 | 17 => 17 | 20 => 20 | 26 => 118 | 32 => 125 | 33 => 126 | 35 => 128 | 37 => 130 | 41 => 95 | 44 => 135 | 49 => 67 | 51 => 83 | 53 => 141 | 54 => 142 | 58 => 146 | 60 => 148 | 64 => 151 | 66 => 153 | 67 => 154 | 75 => 162 | 76 => 163 | 77 => 164 | 78 => 165 | 79 => 166 | 80 => 167 | 82 => 169 | n => n, fun n => n⟩
theorem slLay : LaysGg.n6 Tryd.prog slRen := {
 mixed := by kernel_rfl,
 f6 := Tryd.func73.trans (congrArg some (by kernel_rfl)),
 f10 := Tryd.func79.trans (congrArg some (by kernel_rfl)),
 f11 := Tryd.func80.trans (congrArg some (by kernel_rfl)),
 f12 := Tryd.func81.trans (congrArg some (by kernel_rfl)),
 f13 := Tryd.func82.trans (congrArg some (by kernel_rfl)),
 f14 := Tryd.func83.trans (congrArg some (by kernel_rfl)),
 f24 := Tryd.func72.trans (congrArg some (by kernel_rfl)),
 f25 := Tryd.func93.trans (congrArg some (by kernel_rfl)),
 f26 := Tryd.func94.trans (congrArg some (by kernel_rfl)),
 f27 := Tryd.func95.trans (congrArg some (by kernel_rfl)),
 f28 := Tryd.func96.trans (congrArg some (by kernel_rfl)),
 f29 := Tryd.func97.trans (congrArg some (by kernel_rfl)),
 f30 := Tryd.func98.trans (congrArg some (by kernel_rfl)),
 f31 := Tryd.func99.trans (congrArg some (by kernel_rfl)),
 f32 := Tryd.func100.trans (congrArg some (by kernel_rfl)),
 f33 := Tryd.func101.trans (congrArg some (by kernel_rfl)),
 f34 := Tryd.func102.trans (congrArg some (by kernel_rfl)),
 f35 := Tryd.func103.trans (congrArg some (by kernel_rfl)),
 f36 := Tryd.func104.trans (congrArg some (by kernel_rfl)),
 f37 := Tryd.func105.trans (congrArg some (by kernel_rfl)),
 f38 := Tryd.func106.trans (congrArg some (by kernel_rfl)),
 f39 := Tryd.func107.trans (congrArg some (by kernel_rfl)),
 t0 := Tryd.underlying0,
 a0 := Tryd.isAgg0,
 z0 := Tryd.sizeOf0,
 v0 := Tryd.zeroValue0,
 i0 := by kernel_rfl,
 t3 := Tryd.underlying3,
 a3 := Tryd.isAgg3,
 z3 := Tryd.sizeOf3,
 v3 := Tryd.zeroValue3,
 i3 := by kernel_rfl,
 t4 := Tryd.underlying4,
 a4 := Tryd.isAgg4,
 z4 := Tryd.sizeOf4,
 v4 := Tryd.zeroValue4,
 i4 := by kernel_rfl,
 t5 := Tryd.underlying5,
 a5 := Tryd.isAgg5,
 z5 := Tryd.sizeOf5,
 v5 := Tryd.zeroValue5,
 i5 := by kernel_rfl,
 t9 := Tryd.underlying9,
 a9 := Tryd.isAgg9,
 z9 := Tryd.sizeOf9,
 v9 := Tryd.zeroValue9,
 i9 := by kernel_rfl,
 t12 := Tryd.underlying12,
 a12 := Tryd.isAgg12,
 z12 := Tryd.sizeOf12,
 v12 := Tryd.zeroValue12,
 i12 := by kernel_rfl,
 t17 := Tryd.underlying17,
 a17 := Tryd.isAgg17,
 z17 := Tryd.sizeOf17,
 v17 := Tryd.zeroValue17,
 i17 := by kernel_rfl,
 t20 := Tryd.underlying20,
 a20 := Tryd.isAgg20,
 z20 := Tryd.sizeOf20,
 v20 := Tryd.zeroValue20,
 i20 := by kernel_rfl,
 t26 := Tryd.underlying118,
 a26 := Tryd.isAgg118,
 z26 := Tryd.sizeOf118,
 v26 := Tryd.zeroValue118,
 i26 := by kernel_rfl,
 t32 := Tryd.underlying125,
 a32 := Tryd.isAgg125,
 z32 := Tryd.sizeOf125,
 v32 := Tryd.zeroValue125,
 i32 := by kernel_rfl,
 t33 := Tryd.underlying126,
 a33 := Tryd.isAgg126,
 z33 := Tryd.sizeOf126,
 v33 := Tryd.zeroValue126,
 i33 := by kernel_rfl,
 t35 := Tryd.underlying128,
 a35 := Tryd.isAgg128,
 z35 := Tryd.sizeOf128,
 v35 := Tryd.zeroValue128,
 i35 := by kernel_rfl,
 t37 := Tryd.underlying130,
 a37 := Tryd.isAgg130,
 z37 := Tryd.sizeOf130,
 v37 := Tryd.zeroValue130,
 i37 := by kernel_rfl,
 t41 := Tryd.underlying95,
 a41 := Tryd.isAgg95,
 z41 := Tryd.sizeOf95,
 v41 := Tryd.zeroValue95,
 i41 := by kernel_rfl,
 t44 := Tryd.underlying135,
 a44 := Tryd.isAgg135,
 z44 := Tryd.sizeOf135,
 v44 := Tryd.zeroValue135,
 i44 := by kernel_rfl,
 t49 := Tryd.underlying67,
 a49 := Tryd.isAgg67,
 z49 := Tryd.sizeOf67,
 v49 := Tryd.zeroValue67,
 i49 := by kernel_rfl,
 t51 := Tryd.underlying83,
 a51 := Tryd.isAgg83,
 z51 := Tryd.sizeOf83,
 v51 := Tryd.zeroValue83,
 i51 := by kernel_rfl,
 t53 := Tryd.underlying141,
 a53 := Tryd.isAgg141,
 z53 := Tryd.sizeOf141,
 v53 := Tryd.zeroValue141,
 i53 := by kernel_rfl,
 t54 := Tryd.underlying142,
 a54 := Tryd.isAgg142,
 z54 := Tryd.sizeOf142,
 v54 := Tryd.zeroValue142,
 i54 := by kernel_rfl,
 t58 := Tryd.underlying146,
 a58 := Tryd.isAgg146,
 z58 := Tryd.sizeOf146,
 v58 := Tryd.zeroValue146,
 i58 := by kernel_rfl,
 t60 := Tryd.underlying148,
 a60 := Tryd.isAgg148,
 z60 := Tryd.sizeOf148,
 v60 := Tryd.zeroValue148,
 i60 := by kernel_rfl,
 t64 := Tryd.underlying151,
 a64 := Tryd.isAgg151,
 z64 := Tryd.sizeOf151,
 v64 := Tryd.zeroValue151,
 i64 := by kernel_rfl,
 t66 := Tryd.underlying153,
 a66 := Tryd.isAgg153,
 z66 := Tryd.sizeOf153,
 v66 := Tryd.zeroValue153,
 i66 := by kernel_rfl,
 t67 := Tryd.underlying154,
 a67 := Tryd.isAgg154,
 z67 := Tryd.sizeOf154,
 v67 := Tryd.zeroValue154,
 i67 := by kernel_rfl,
 t75 := Tryd.underlying162,
 a75 := Tryd.isAgg162,
 z75 := Tryd.sizeOf162,
 v75 := Tryd.zeroValue162,
 i75 := by kernel_rfl,
 t76 := Tryd.underlying163,
 a76 := Tryd.isAgg163,
 z76 := Tryd.sizeOf163,
 v76 := Tryd.zeroValue163,
 i76 := by kernel_rfl,
 t77 := Tryd.underlying164,
 a77 := Tryd.isAgg164,
 z77 := Tryd.sizeOf164,
 v77 := Tryd.zeroValue164,
 i77 := by kernel_rfl,
 t78 := Tryd.underlying165,
 a78 := Tryd.isAgg165,
 z78 := Tryd.sizeOf165,
 v78 := Tryd.zeroValue165,
 i78 := by kernel_rfl,
 t79 := Tryd.underlying166,
 a79 := Tryd.isAgg166,
 z79 := Tryd.sizeOf166,
 v79 := Tryd.zeroValue166,
 i79 := by kernel_rfl,
 t80 := Tryd.underlying167,
 a80 := Tryd.isAgg167,
 z80 := Tryd.sizeOf167,
 v80 := Tryd.zeroValue167,
 i80 := by kernel_rfl,
 t82 := Tryd.underlying169,
 a82 := Tryd.isAgg169,
 z82 := Tryd.sizeOf169,
 v82 := Tryd.zeroValue169,
 i82 := by kernel_rfl }
end Go.Proofs.YthkpmmjcmldjhaaDoor
set_option linter.unusedSimpArgs false
set_option linter.unusedVariables false
namespace Go.Proofs.YthkpmmjcmldjhaaDoor
open Go Go.RowKit Go.Lib Go.Sort Go.Shelf Go.Proofs
noncomputable def siT : TypeInfo := (Tryd.prog.info? 116).get (by kernel_rfl)
noncomputable def siE : TypeInfo := (Tryd.prog.info? 67).get (by kernel_rfl)
theorem siK (n : Nat) (h2 : 2 <= n) : Lib.swapperK n siE 10 = 6 := by
 have a : siE.hasPointers = false := by kernel_rfl
 have b : siE.bytes = 4 := by kernel_rfl
 have c : (n == 0) = false := by simp; omega
 have d : (n == 1) = false := by simp; omega
 simp [Lib.swapperK, a, b, c, d]
set_option maxHeartbeats 2000000 in
theorem less_keys (blk off c Bs size : Nat) (W : World) (G : Nat -> Int) (hs : W.cell? ⟨Bs, 0, none⟩ = some (.slice (some ⟨blk, off, none⟩) size c))
  (hc : ∀ t, t < size -> W.cell? ⟨blk, off + t, none⟩ = some (.int .u32 (G t))) (i j : Nat) (hi : i < size) (hj : j < size) :
  Calls Tryd.prog 74 #[.int .i64 i, .int .i64 j, .pointer (some ⟨Bs, 0, none⟩)] W fun e w' => e = .returned (.bool (decide (G i < G j))) /\ ∃ q, w' = W.drewN q := by
 have ci := hc i hi
 have cj := hc j hj
 go_enter Tryd.func74, Tryd.ntmps74
 go_wp2
 go_quiet (fail)
 go_wp2
 go_ret
 exact ⟨rfl, nq, rfl⟩
theorem mod_grow {w : World} {S : Nat -> Prop} {os : Array Obj} : Mod S w (grow w os) :=
 ⟨rfl, rfl, rfl, by simp [grow], fun k hk _ => by simp only [grow]; exact Array.getElem?_append_left hk⟩
theorem mod_sorted {w : World} {blk q : Nat} {vs : List Value} {os : Array Obj} : Mod (only blk) w (grow ((w.drewN q).setCells blk 0 vs) os) := by
 have h1 : Mod (only blk) w (w.drewN q) := (Mod.refl w).drewN q
 have h2 : Mod (only blk) (w.drewN q) ((w.drewN q).setCells blk 0 vs) := mod_setCells _ _ _ _
 exact (h1.trans h2).trans mod_grow
set_option maxHeartbeats 2000000 in
theorem sort_keys {w : World} {bs blk c : Nat} {T t : TypeId} {C : Array Value} {fr : Nat × Nat} {d : Array Int} {us : List Int} (hbs : w.heap[bs]? = some (.cells #[.slice (some ⟨blk, 0, none⟩) d.size c] T fr) ) (hb : w.heap[blk]? = some (.cells C t (0, 0))) (hne : bs ≠ blk)
  (hC : ∀ j, j < d.size -> C[j]? = some (.int .u32 d[j]!)) (hsz : d.size < 4611686018427387904) (hp : us.Perm d.toList) (hs : us.Pairwise (· < ·)) :
  Calls Tryd.prog 73 #[.iface 116 (.slice (some ⟨blk, 0, none⟩) d.size c), .func (.func 74) #[] #[.pointer (some ⟨bs, 0, none⟩)]] w fun e w' =>
   e = .returned (.tuple #[]) /\ Mod (only blk) w w' /\ ∃ C', w'.heap[blk]? = some (.cells C' t (0, 0)) /\ C'.size = C.size /\ ∀ j (h : j < us.length), C'[j]? = some (.int .u32 us[j]) := by
 have hH : Holds (Value.int .u32) w blk 0 d := fun j hj => ⟨by rw [Zc hb, Nat.zero_add]; exact hC j hj, Zz hb⟩
 have hblk : blk < w.heap.size := lt_of_block hb
 have hbsl : bs < w.heap.size := lt_of_block hbs
 have hlen : us.length = d.size := by simpa using hp.length_eq
 by_cases h2 : 2 <= d.size
 ·have hless : LessReads Tryd.prog 74 #[.pointer (some ⟨bs, 0, none⟩)] (Value.int .u32) ltInt blk 0 d.size w := by
   intro m os dk hs i j hi hj
   have e : sortWorld (Value.int .u32) w blk 0 m dk os = putRow (Value.int .u32) (grow (Sort.ahead w m) os) blk 0 dk := by
    unfold sortWorld; rw [putRow_grow _ (Sort.ahead w m) _ blk 0 _ hblk]
   have hHg : Holds (Value.int .u32) (grow (Sort.ahead w m) os) blk 0 d := holds_grow _ _ _ blk 0 d hblk (holds_ahead _ _ _ _ _ _ hH)
   refine less_keys blk 0 c bs d.size _ (fun t => dk[t]!) ?_ (fun t ht => ?_) i j hi hj
   ·rw [e, cell?_putRow_other _ _ blk 0 dk _ (Or.inl (by show bs ≠ blk; exact hne)), cell?_grow _ _ _ (by show bs < (Sort.ahead w m).heap.size; exact hbsl)]
    show w.cell? _ = _
    rw [Zc hbs]
    rfl
   ·rw [e]; exact cell?_putRow _ _ blk 0 d dk hHg hs t (by omega)
  have hS := Any.sort_Slice_sorted slLay 116 67 siT siE (by kernel_rfl) (by kernel_rfl) (by kernel_rfl) (by kernel_rfl) 10 (fun _ => by kernel_rfl) (by kernel_rfl) (fun _ => by kernel_rfl) (Value.int .u32) (fun _ => rfl) ltInt swo_ltInt 74 _
   (enters_of Tryd.func74 (by kernel_rfl) rfl) blk 0 c d h2 hsz 89 (by rw [siK _ h2]; kernel_rfl) true
   (fun args W => run_callFunc_extern Tryd.func89 (by kernel_rfl) (by kernel_rfl) (by kernel_rfl) (e := Extern.ReflectliteSwapper.swap true) (by kernel_rfl) args W) w hless hH hblk
  change Calls Tryd.prog 73 _ _ _ at hS
  refine hS.mono ?_
  rintro e w' ⟨rfl, d', n, os, hP, hSo, rfl⟩
  have hus : d'.toList = us := by
   have h := sorted_unique_holds (lt := ltInt) swo_ltInt (fun x y h1 h2 => by simp only [ltInt, decide_eq_false_iff_not] at h1 h2; omega) d d' hP hSo
   rw [h]
   refine List.Perm.eq_of_pairwise (le := fun x y => x <= y) ?_ ?_ ?_ ((List.mergeSort_perm _ _).trans hp.symm)
   ·intro a b _ _ h1 h2; omega
   ·have hp := List.pairwise_mergeSort (le := fun x y => !ltInt y x) (fun a b c h1 h2 => by simp [ltInt] at *; omega) (fun a b => by simp [ltInt]; omega) d.toList
    exact hp.imp (fun h => by simpa [ltInt] using h)
   ·exact hs.imp (fun h => by omega)
  have hd' : d' = us.toArray := by rw [<- hus]
  subst hd'
  rw [Lib.sorted_world (Value.int .u32) w blk 0 n d us os hH hlen]
  refine ⟨rfl, mod_sorted, ?_⟩
  obtain ⟨C', q1, q2, q3, q4⟩ := heap_setCells (w := w.drewN n) (us.map (Value.int .u32)) 0 C hb
  refine ⟨C', ?_, q2, fun j hj => ?_⟩
  ·have hlt : blk < ((w.drewN n).setCells blk 0 (us.map (Value.int .u32))).heap.size := lt_of_block q1
   simp only [grow]
   rw [Array.getElem?_append_left hlt]
   exact q1
  ·have hjC : j < C.size := by
    have := hC j (by omega)
    exact (Array.getElem?_eq_some_iff.1 this).1
   have := q3 j (by simpa using hj) (by omega)
   rw [Nat.zero_add] at this
   rw [this]
   simp
 ·have hfind : ∀ n : Nat, n <= 1 -> Tryd.prog.funcs.findIdx? (·.name == "internal/reflectlite" ++ ".Swapper$" ++ toString (n + 1)) = some (84 + n) := by
   have f0 : Tryd.prog.funcs.findIdx? (·.name == "internal/reflectlite" ++ ".Swapper$" ++ toString (0 + 1)) = some 84 := by kernel_rfl
   have f1 : Tryd.prog.funcs.findIdx? (·.name == "internal/reflectlite" ++ ".Swapper$" ++ toString (1 + 1)) = some (84 + 1) := by kernel_rfl
   intro n hn
   have : n = 0 \/ n = 1 := by omega
   rcases this with h | h
   ·rw [h]; exact f0
   ·rw [h]; exact f1
  have hK : Lib.swapperK d.size siE 10 = d.size + 1 := by
   rcases Nat.eq_zero_or_pos d.size with h | h
   ·rw [h]; simp [Lib.swapperK]
   ·have : d.size = 1 := by omega
    rw [this]; simp [Lib.swapperK]
  have hS := Any.sort_Slice_tiny slLay 116 67 siT siE (by kernel_rfl) (by kernel_rfl) (by kernel_rfl) (by kernel_rfl) 10 (fun _ => by kernel_rfl) (some ⟨blk, 0, none⟩) d.size c (by omega) (84 + d.size) (by rw [hK]; exact hfind d.size (by omega)) (.func 74) #[] #[.pointer (some ⟨bs, 0, none⟩)] w
  change Calls Tryd.prog 73 _ _ _ at hS
  refine hS.mono ?_
  rintro e w' ⟨rfl, os, rfl⟩
  refine ⟨rfl, mod_grow, C, ?_, rfl, fun j hj => ?_⟩
  ·simp only [grow]
   rw [Array.getElem?_append_left hblk]
   exact hb
  ·have h1 : us.length = 1 := by omega
   have hj0 : j = 0 := by omega
   subst hj0
   match us, h1, hp with
   | [x], _, hp =>
    have hx : d.toList = [x] := (List.perm_singleton.1 hp.symm)
    have hd1 : d.size = 1 := by simpa using hlen.symm
    have : d[0]! = x := by
     have e : d = #[x] := by rw [<- Array.toArray_toList (xs := d), hx]
     rw [e]; rfl
    rw [hC 0 (by omega), this]
    rfl
end Go.Proofs.YthkpmmjcmldjhaaDoor
