/-
  The contract of sort.Slice, laid in this program.
  The numbers of tags are sorted: sort.Slice at a slice of numbers of 32 bits.
-/
import Derived.Test.YtpecdnfmlodmaaaGreatDoorRChecked
import Derived.Shelf.GgSortFunc.Whole
import Derived.Shelf.GgSortFunc.Tiny
import Derived.Lib.SortBridge
import Derived.Sort.LotA
import Derived.Lib.RowBridge
import Derived.WalkKit
import Derived.Deep.QuietTactic
import Derived.Deep.MidRow
import Derived.Test.YtpecdnfmlodmaaaGreatDoorRPRun
namespace Go.Proofs.YtpecdnfmlodmaaaGreatDoorR
open Go Go.Shelf
def slRen : Go.Shelf.Ren := ⟨fun | 6 => 187 | 10 => 242 | 11 => 243 | 12 => 244 | 13 => 245 | 14 => 246 | 15 => 261 | 16 => 262 | 17 => 263 | 18 => 264 | 19 => 265 | 20 => 266 | 21 => 267 | 22 => 268 | 23 => 269 | 24 => 257 | 25 => 270 | 26 => 271 | 27 => 272 | 28 => 273 | 29 => 274 | 30 => 275 | 31 => 276 | 32 => 277 | 33 => 278 | 34 => 279 | 35 => 280 | 36 => 281 | 37 => 282 | 38 => 283 | 39 => 284 | n => n, fun | 0 => 0 | 3 => 3 | 4 => 4 | 5 => 5 | 9 => 9 | 12 => 12 | 17 => 17 | 20 => 20 | 26 => 214 | 32 => 265 | 33 => 266 | 35 => 268 | 37 => 270 | 41 => 217 | 44 => 275 | 49 => 68 | 51 => 113 | 53 => 286 | 54 => 287 | 58 => 291 | 60 => 293 | 64 => 296 | 66 => 298 | 67 => 299 | 75 => 307 | 76 => 308 | 77 => 309 | 78 => 310 | 79 => 311 | 80 => 312 | 82 => 314 | n => n, fun n => n⟩
theorem slLay : LaysGg.n6 Tryz.prog slRen := {
 mixed := by kernel_rfl,
 f6 := Tryz.func187.trans (congrArg some (by kernel_rfl)),
 f10 := Tryz.func242.trans (congrArg some (by kernel_rfl)),
 f11 := Tryz.func243.trans (congrArg some (by kernel_rfl)),
 f12 := Tryz.func244.trans (congrArg some (by kernel_rfl)),
 f13 := Tryz.func245.trans (congrArg some (by kernel_rfl)),
 f14 := Tryz.func246.trans (congrArg some (by kernel_rfl)),
 f24 := Tryz.func257.trans (congrArg some (by kernel_rfl)),
 f25 := Tryz.func270.trans (congrArg some (by kernel_rfl)),
 f26 := Tryz.func271.trans (congrArg some (by kernel_rfl)),
 f27 := Tryz.func272.trans (congrArg some (by kernel_rfl)),
 f28 := Tryz.func273.trans (congrArg some (by kernel_rfl)),
 f29 := Tryz.func274.trans (congrArg some (by kernel_rfl)),
 f30 := Tryz.func275.trans (congrArg some (by kernel_rfl)),
 f31 := Tryz.func276.trans (congrArg some (by kernel_rfl)),
 f32 := Tryz.func277.trans (congrArg some (by kernel_rfl)),
 f33 := Tryz.func278.trans (congrArg some (by kernel_rfl)),
 f34 := Tryz.func279.trans (congrArg some (by kernel_rfl)),
 f35 := Tryz.func280.trans (congrArg some (by kernel_rfl)),
 f36 := Tryz.func281.trans (congrArg some (by kernel_rfl)),
 f37 := Tryz.func282.trans (congrArg some (by kernel_rfl)),
 f38 := Tryz.func283.trans (congrArg some (by kernel_rfl)),
 f39 := Tryz.func284.trans (congrArg some (by kernel_rfl)),
 t0 := Tryz.underlying0,
 a0 := Tryz.isAgg0,
 z0 := Tryz.sizeOf0,
 v0 := Tryz.zeroValue0,
 i0 := by kernel_rfl,
 t3 := Tryz.underlying3,
 a3 := Tryz.isAgg3,
 z3 := Tryz.sizeOf3,
 v3 := Tryz.zeroValue3,
 i3 := by kernel_rfl,
 t4 := Tryz.underlying4,
 a4 := Tryz.isAgg4,
 z4 := Tryz.sizeOf4,
 v4 := Tryz.zeroValue4,
 i4 := by kernel_rfl,
 t5 := Tryz.underlying5,
 a5 := Tryz.isAgg5,
 z5 := Tryz.sizeOf5,
 v5 := Tryz.zeroValue5,
 i5 := by kernel_rfl,
 t9 := Tryz.underlying9,
 a9 := Tryz.isAgg9,
 z9 := Tryz.sizeOf9,
 v9 := Tryz.zeroValue9,
 i9 := by kernel_rfl,
 t12 := Tryz.underlying12,
 a12 := Tryz.isAgg12,
 z12 := Tryz.sizeOf12,
 v12 := Tryz.zeroValue12,
 i12 := by kernel_rfl,
 t17 := Tryz.underlying17,
 a17 := Tryz.isAgg17,
 z17 := Tryz.sizeOf17,
 v17 := Tryz.zeroValue17,
 i17 := by kernel_rfl,
 t20 := Tryz.underlying20,
 a20 := Tryz.isAgg20,
 z20 := Tryz.sizeOf20,
 v20 := Tryz.zeroValue20,
 i20 := by kernel_rfl,
 t26 := Tryz.underlying214,
 a26 := Tryz.isAgg214,
 z26 := Tryz.sizeOf214,
 v26 := Tryz.zeroValue214,
 i26 := by kernel_rfl,
 t32 := Tryz.underlying265,
 a32 := Tryz.isAgg265,
 z32 := Tryz.sizeOf265,
 v32 := Tryz.zeroValue265,
 i32 := by kernel_rfl,
 t33 := Tryz.underlying266,
 a33 := Tryz.isAgg266,
 z33 := Tryz.sizeOf266,
 v33 := Tryz.zeroValue266,
 i33 := by kernel_rfl,
 t35 := Tryz.underlying268,
 a35 := Tryz.isAgg268,
 z35 := Tryz.sizeOf268,
 v35 := Tryz.zeroValue268,
 i35 := by kernel_rfl,
 t37 := Tryz.underlying270,
 a37 := Tryz.isAgg270,
 z37 := Tryz.sizeOf270,
 v37 := Tryz.zeroValue270,
 i37 := by kernel_rfl,
 t41 := Tryz.underlying217,
 a41 := Tryz.isAgg217,
 z41 := Tryz.sizeOf217,
 v41 := Tryz.zeroValue217,
 i41 := by kernel_rfl,
 t44 := Tryz.underlying275,
 a44 := Tryz.isAgg275,
 z44 := Tryz.sizeOf275,
 v44 := Tryz.zeroValue275,
 i44 := by kernel_rfl,
 t49 := Tryz.underlying68,
 a49 := Tryz.isAgg68,
 z49 := Tryz.sizeOf68,
 v49 := Tryz.zeroValue68,
 i49 := by kernel_rfl,
 t51 := Tryz.underlying113,
 a51 := Tryz.isAgg113,
 z51 := Tryz.sizeOf113,
 v51 := Tryz.zeroValue113,
 i51 := by kernel_rfl,
 t53 := Tryz.underlying286,
 a53 := Tryz.isAgg286,
 z53 := Tryz.sizeOf286,
 v53 := Tryz.zeroValue286,
 i53 := by kernel_rfl,
 t54 := Tryz.underlying287,
 a54 := Tryz.isAgg287,
 z54 := Tryz.sizeOf287,
 v54 := Tryz.zeroValue287,
 i54 := by kernel_rfl,
 t58 := Tryz.underlying291,
 a58 := Tryz.isAgg291,
 z58 := Tryz.sizeOf291,
 v58 := Tryz.zeroValue291,
 i58 := by kernel_rfl,
 t60 := Tryz.underlying293,
 a60 := Tryz.isAgg293,
 z60 := Tryz.sizeOf293,
 v60 := Tryz.zeroValue293,
 i60 := by kernel_rfl,
 t64 := Tryz.underlying296,
 a64 := Tryz.isAgg296,
 z64 := Tryz.sizeOf296,
 v64 := Tryz.zeroValue296,
 i64 := by kernel_rfl,
 t66 := Tryz.underlying298,
 a66 := Tryz.isAgg298,
 z66 := Tryz.sizeOf298,
 v66 := Tryz.zeroValue298,
 i66 := by kernel_rfl,
 t67 := Tryz.underlying299,
 a67 := Tryz.isAgg299,
 z67 := Tryz.sizeOf299,
 v67 := Tryz.zeroValue299,
 i67 := by kernel_rfl,
 t75 := Tryz.underlying307,
 a75 := Tryz.isAgg307,
 z75 := Tryz.sizeOf307,
 v75 := Tryz.zeroValue307,
 i75 := by kernel_rfl,
 t76 := Tryz.underlying308,
 a76 := Tryz.isAgg308,
 z76 := Tryz.sizeOf308,
 v76 := Tryz.zeroValue308,
 i76 := by kernel_rfl,
 t77 := Tryz.underlying309,
 a77 := Tryz.isAgg309,
 z77 := Tryz.sizeOf309,
 v77 := Tryz.zeroValue309,
 i77 := by kernel_rfl,
 t78 := Tryz.underlying310,
 a78 := Tryz.isAgg310,
 z78 := Tryz.sizeOf310,
 v78 := Tryz.zeroValue310,
 i78 := by kernel_rfl,
 t79 := Tryz.underlying311,
 a79 := Tryz.isAgg311,
 z79 := Tryz.sizeOf311,
 v79 := Tryz.zeroValue311,
 i79 := by kernel_rfl,
 t80 := Tryz.underlying312,
 a80 := Tryz.isAgg312,
 z80 := Tryz.sizeOf312,
 v80 := Tryz.zeroValue312,
 i80 := by kernel_rfl,
 t82 := Tryz.underlying314,
 a82 := Tryz.isAgg314,
 z82 := Tryz.sizeOf314,
 v82 := Tryz.zeroValue314,
 i82 := by kernel_rfl }
end Go.Proofs.YtpecdnfmlodmaaaGreatDoorR
set_option linter.unusedSimpArgs false
set_option linter.unusedVariables false
namespace Go.Proofs.YtpecdnfmlodmaaaGreatDoorR
open Go Go.RowKit Go.Lib Go.Sort Go.Shelf Go.Proofs
noncomputable def siT : TypeInfo := (Tryz.prog.info? 212).get (by kernel_rfl)
noncomputable def siE : TypeInfo := (Tryz.prog.info? 68).get (by kernel_rfl)
theorem siK (n : Nat) (h2 : 2 <= n) : Lib.swapperK n siE 10 = 6 := by
 have a : siE.hasPointers = false := by kernel_rfl
 have b : siE.bytes = 4 := by kernel_rfl
 have c : (n == 0) = false := by simp; omega
 have d : (n == 1) = false := by simp; omega
 simp [Lib.swapperK, a, b, c, d]
set_option maxHeartbeats 2000000 in
theorem less_keys (blk off c Bs size : Nat) (W : World) (G : Nat -> Int) (hs : W.cell? ⟨Bs, 0, none⟩ = some (.slice (some ⟨blk, off, none⟩) size c))
  (hc : ∀ t, t < size -> W.cell? ⟨blk, off + t, none⟩ = some (.int .u32 (G t))) (i j : Nat) (hi : i < size) (hj : j < size) :
  Calls Tryz.prog 188 #[.int .i64 i, .int .i64 j, .pointer (some ⟨Bs, 0, none⟩)] W fun e w' => e = .returned (.bool (decide (G i < G j))) /\ ∃ q, w' = W.drewN q := by
 have ci := hc i hi
 have cj := hc j hj
 go_enter Tryz.func188, Tryz.ntmps188
 go_wp2
 go_quiet (fail)
 go_wp2
 go_ret
 exact ⟨rfl, nq, rfl⟩
theorem mod_grow {w : World} {S : Nat -> Prop} {os : Array Obj} : Mod S w (grow w os) :=
 ⟨rfl, rfl, rfl, by simp [grow], fun k hk _ => by simp only [grow]; exact Array.getElem?_append_left hk⟩
theorem mod_sorted {w : World} {blk q : Nat} {vs : List Value} {os : Array Obj} : Mod (only blk) w (grow ((w.drewN q).setCells blk 0 vs) os) := by
 have h1 : Mod (only blk) w (w.drewN q) := (Mod.refl w).drewN q
 have h2 : Mod (only blk) (w.drewN q) ((w.drewN q).setCells blk 0 vs) := mod_setCells _ _ _ _
 exact (h1.trans h2).trans mod_grow
set_option maxHeartbeats 2000000 in
theorem sort_keys {w : World} {bs blk c : Nat} {T t : TypeId} {C : Array Value} {fr : Nat × Nat} {d : Array Int} {us : List Int} (hbs : w.heap[bs]? = some (.cells #[.slice (some ⟨blk, 0, none⟩) d.size c] T fr) ) (hb : w.heap[blk]? = some (.cells C t (0, 0))) (hne : bs ≠ blk)
  (hC : ∀ j, j < d.size -> C[j]? = some (.int .u32 d[j]!)) (hsz : d.size < 4611686018427387904) (hp : us.Perm d.toList) (hs : us.Pairwise (· < ·)) :
  Calls Tryz.prog 187 #[.iface 212 (.slice (some ⟨blk, 0, none⟩) d.size c), .func (.func 188) #[] #[.pointer (some ⟨bs, 0, none⟩)]] w fun e w' =>
   e = .returned (.tuple #[]) /\ Mod (only blk) w w' /\ ∃ C', w'.heap[blk]? = some (.cells C' t (0, 0)) /\ C'.size = C.size /\ ∀ j (h : j < us.length), C'[j]? = some (.int .u32 us[j]) := by
 have hH : Holds (Value.int .u32) w blk 0 d := fun j hj => ⟨by rw [Zc hb, Nat.zero_add]; exact hC j hj, Zz hb⟩
 have hblk : blk < w.heap.size := lt_of_block hb
 have hbsl : bs < w.heap.size := lt_of_block hbs
 have hlen : us.length = d.size := by simpa using hp.length_eq
 by_cases h2 : 2 <= d.size
 ·have hless : LessReads Tryz.prog 188 #[.pointer (some ⟨bs, 0, none⟩)] (Value.int .u32) ltInt blk 0 d.size w := by
   intro m os dk hs i j hi hj
   have e : sortWorld (Value.int .u32) w blk 0 m dk os = putRow (Value.int .u32) (grow (Sort.ahead w m) os) blk 0 dk := by
    unfold sortWorld; rw [putRow_grow _ (Sort.ahead w m) _ blk 0 _ hblk]
   have hHg : Holds (Value.int .u32) (grow (Sort.ahead w m) os) blk 0 d := holds_grow _ _ _ blk 0 d hblk (holds_ahead _ _ _ _ _ _ hH)
   refine less_keys blk 0 c bs d.size _ (fun t => dk[t]!) ?_ (fun t ht => ?_) i j hi hj
   ·rw [e, cell?_putRow_other _ _ blk 0 dk _ (Or.inl (by show bs ≠ blk; exact hne)), cell?_grow _ _ _ (by show bs < (Sort.ahead w m).heap.size; exact hbsl)]
    show w.cell? _ = _
    rw [Zc hbs]
    rfl
   ·rw [e]; exact cell?_putRow _ _ blk 0 d dk hHg hs t (by omega)
  have hS := Any.sort_Slice_sorted slLay 212 68 siT siE (by kernel_rfl) (by kernel_rfl) (by kernel_rfl) (by kernel_rfl) 10 (fun _ => by kernel_rfl) (by kernel_rfl) (fun _ => by kernel_rfl) (Value.int .u32) (fun _ => rfl) ltInt swo_ltInt 188 _
   (enters_of Tryz.func188 (by kernel_rfl) rfl) blk 0 c d h2 hsz 266 (by rw [siK _ h2]; kernel_rfl) true
   (fun args W => run_callFunc_extern Tryz.func266 (by kernel_rfl) (by kernel_rfl) (by kernel_rfl) (e := Extern.ReflectliteSwapper.swap true) (by kernel_rfl) args W) w hless hH hblk
  change Calls Tryz.prog 187 _ _ _ at hS
  refine hS.mono ?_
  rintro e w' ⟨rfl, d', n, os, hP, hSo, rfl⟩
  have hus : d'.toList = us := by
   have h := sorted_unique_holds (lt := ltInt) swo_ltInt (fun x y h1 h2 => by simp only [ltInt, decide_eq_false_iff_not] at h1 h2; omega) d d' hP hSo
   rw [h]
   refine List.Perm.eq_of_pairwise (le := fun x y => x <= y) ?_ ?_ ?_ ((List.mergeSort_perm _ _).trans hp.symm)
   ·intro a b _ _ h1 h2; omega
   ·have hp := List.pairwise_mergeSort (le := fun x y => !ltInt y x) (fun a b c h1 h2 => by simp [ltInt] at *; omega) (fun a b => by simp [ltInt]; omega) d.toList
    exact hp.imp (fun h => by simpa [ltInt] using h)
   ·exact hs.imp (fun h => by omega)
  have hd' : d' = us.toArray := by rw [<- hus]
  subst hd'
  rw [Lib.sorted_world (Value.int .u32) w blk 0 n d us os hH hlen]
  refine ⟨rfl, mod_sorted, ?_⟩
  obtain ⟨C', q1, q2, q3, q4⟩ := heap_setCells (w := w.drewN n) (us.map (Value.int .u32)) 0 C hb
  refine ⟨C', ?_, q2, fun j hj => ?_⟩
  ·have hlt : blk < ((w.drewN n).setCells blk 0 (us.map (Value.int .u32))).heap.size := lt_of_block q1
   simp only [grow]
   rw [Array.getElem?_append_left hlt]
   exact q1
  ·have hjC : j < C.size := by
    have := hC j (by omega)
    exact (Array.getElem?_eq_some_iff.1 this).1
   have := q3 j (by simpa using hj) (by omega)
   rw [Nat.zero_add] at this
   rw [this]
   simp
 ·have hfind : ∀ n : Nat, n <= 1 -> Tryz.prog.funcs.findIdx? (·.name == "internal/reflectlite" ++ ".Swapper$" ++ toString (n + 1)) = some (261 + n) := by
   have f0 : Tryz.prog.funcs.findIdx? (·.name == "internal/reflectlite" ++ ".Swapper$" ++ toString (0 + 1)) = some 261 := by kernel_rfl
   have f1 : Tryz.prog.funcs.findIdx? (·.name == "internal/reflectlite" ++ ".Swapper$" ++ toString (1 + 1)) = some (261 + 1) := by kernel_rfl
   intro n hn
   have : n = 0 \/ n = 1 := by omega
   rcases this with h | h
   ·rw [h]; exact f0
   ·rw [h]; exact f1
  have hK : Lib.swapperK d.size siE 10 = d.size + 1 := by
   rcases Nat.eq_zero_or_pos d.size with h | h
   ·rw [h]; simp [Lib.swapperK]
   ·have : d.size = 1 := by omega
    rw [this]; simp [Lib.swapperK]
  have hS := Any.sort_Slice_tiny slLay 212 68 siT siE (by kernel_rfl) (by kernel_rfl) (by kernel_rfl) (by kernel_rfl) 10 (fun _ => by kernel_rfl) (some ⟨blk, 0, none⟩) d.size c (by omega) (261 + d.size) (by rw [hK]; exact hfind d.size (by omega)) (.func 188) #[] #[.pointer (some ⟨bs, 0, none⟩)] w
  change Calls Tryz.prog 187 _ _ _ at hS
  refine hS.mono ?_
  rintro e w' ⟨rfl, os, rfl⟩
  refine ⟨rfl, mod_grow, C, ?_, rfl, fun j hj => ?_⟩
  ·simp only [grow]
   rw [Array.getElem?_append_left hblk]
   exact hb
  ·have h1 : us.length = 1 := by omega
   have hj0 : j = 0 := by omega
   subst hj0
   match us, h1, hp with
   | [x], _, hp =>
    have hx : d.toList = [x] := (List.perm_singleton.1 hp.symm)
    have hd1 : d.size = 1 := by simpa using hlen.symm
    have : d[0]! = x := by
     have e : d = #[x] := by rw [<- Array.toArray_toList (xs := d), hx]
     rw [e]; rfl
    rw [hC 0 (by omega), this]
    rfl
end Go.Proofs.YtpecdnfmlodmaaaGreatDoorR
