/-
  The contract of sort.Slice, laid in this program.
  The numbers of tags are sorted: sort.Slice at a slice of numbers of 32 bits.
-/
import Derived.Test.YtmehfgiadapekaaChecked
import Derived.Shelf.GgSortFunc.Whole
import Derived.Shelf.GgSortFunc.Tiny
import Derived.Lib.SortBridge
import Derived.Sort.LotA
import Derived.Lib.RowBridge
import Derived.WalkKit
import Derived.Deep.QuietTactic
import Derived.Deep.MidRow
import Derived.Test.YtmehfgiadapekaaPRun
namespace Go.Proofs.Ytmehfgiadapekaa
open Go Go.Shelf
def slRen : Go.Shelf.Ren := ⟨fun | 6 => 203 | 10 => 206 | 11 => 207 | 12 => 208 | 13 => 209 | 14 => 210 | 15 => 211 | 16 => 212 | 17 => 213 | 18 => 214 | 19 => 215 | 20 => 216 | 21 => 217 | 22 => 218 | 23 => 219 | 24 => 202 | 25 => 220 | 26 => 221 | 27 => 222 | 28 => 223 | 29 => 224 | 30 => 225 | 31 => 226 | 32 => 227 | 33 => 228 | 34 => 229 | 35 => 230 | 36 => 231 | 37 => 232 | 38 => 233 | 39 => 234 | n => n, fun | 0 => 0 | 3 => 3 | 4 => 4 | 5 => 5 | 9 => 9 | 12 => 12 | 17 => 17 | 20 => 20 | 26 => 259 | 32 => 261 | 33 => 262 | 35 => 264 | 37 => 266 | 41 => 246 | 44 => 271 | 49 => 61 | 51 => 157 | 53 => 277 | 54 => 278 | 58 => 282 | 60 => 284 | 64 => 288 | 66 => 290 | 67 => 291 | 75 => 299 | 76 => 300 | 77 => 301 | 78 => 302 | 79 => 303 | 80 => 304 | 82 => 306 | n => n, fun n => n⟩
theorem slLay : LaysGg.n6 Try.prog slRen := {
 mixed := by kernel_rfl,
 f6 := Try.func203.trans (congrArg some (by kernel_rfl)),
 f10 := Try.func206.trans (congrArg some (by kernel_rfl)),
 f11 := Try.func207.trans (congrArg some (by kernel_rfl)),
 f12 := Try.func208.trans (congrArg some (by kernel_rfl)),
 f13 := Try.func209.trans (congrArg some (by kernel_rfl)),
 f14 := Try.func210.trans (congrArg some (by kernel_rfl)),
 f24 := Try.func202.trans (congrArg some (by kernel_rfl)),
 f25 := Try.func220.trans (congrArg some (by kernel_rfl)),
 f26 := Try.func221.trans (congrArg some (by kernel_rfl)),
 f27 := Try.func222.trans (congrArg some (by kernel_rfl)),
 f28 := Try.func223.trans (congrArg some (by kernel_rfl)),
 f29 := Try.func224.trans (congrArg some (by kernel_rfl)),
 f30 := Try.func225.trans (congrArg some (by kernel_rfl)),
 f31 := Try.func226.trans (congrArg some (by kernel_rfl)),
 f32 := Try.func227.trans (congrArg some (by kernel_rfl)),
 f33 := Try.func228.trans (congrArg some (by kernel_rfl)),
 f34 := Try.func229.trans (congrArg some (by kernel_rfl)),
 f35 := Try.func230.trans (congrArg some (by kernel_rfl)),
 f36 := Try.func231.trans (congrArg some (by kernel_rfl)),
 f37 := Try.func232.trans (congrArg some (by kernel_rfl)),
 f38 := Try.func233.trans (congrArg some (by kernel_rfl)),
 f39 := Try.func234.trans (congrArg some (by kernel_rfl)),
 t0 := Try.underlying0,
 a0 := Try.isAgg0,
 z0 := Try.sizeOf0,
 v0 := Try.zeroValue0,
 i0 := by kernel_rfl,
 t3 := Try.underlying3,
 a3 := Try.isAgg3,
 z3 := Try.sizeOf3,
 v3 := Try.zeroValue3,
 i3 := by kernel_rfl,
 t4 := Try.underlying4,
 a4 := Try.isAgg4,
 z4 := Try.sizeOf4,
 v4 := Try.zeroValue4,
 i4 := by kernel_rfl,
 t5 := Try.underlying5,
 a5 := Try.isAgg5,
 z5 := Try.sizeOf5,
 v5 := Try.zeroValue5,
 i5 := by kernel_rfl,
 t9 := Try.underlying9,
 a9 := Try.isAgg9,
 z9 := Try.sizeOf9,
 v9 := Try.zeroValue9,
 i9 := by kernel_rfl,
 t12 := Try.underlying12,
 a12 := Try.isAgg12,
 z12 := Try.sizeOf12,
 v12 := Try.zeroValue12,
 i12 := by kernel_rfl,
 t17 := Try.underlying17,
 a17 := Try.isAgg17,
 z17 := Try.sizeOf17,
 v17 := Try.zeroValue17,
 i17 := by kernel_rfl,
 t20 := Try.underlying20,
 a20 := Try.isAgg20,
 z20 := Try.sizeOf20,
 v20 := Try.zeroValue20,
 i20 := by kernel_rfl,
 t26 := Try.underlying259,
 a26 := Try.isAgg259,
 z26 := Try.sizeOf259,
 v26 := Try.zeroValue259,
 i26 := by kernel_rfl,
 t32 := Try.underlying261,
 a32 := Try.isAgg261,
 z32 := Try.sizeOf261,
 v32 := Try.zeroValue261,
 i32 := by kernel_rfl,
 t33 := Try.underlying262,
 a33 := Try.isAgg262,
 z33 := Try.sizeOf262,
 v33 := Try.zeroValue262,
 i33 := by kernel_rfl,
 t35 := Try.underlying264,
 a35 := Try.isAgg264,
 z35 := Try.sizeOf264,
 v35 := Try.zeroValue264,
 i35 := by kernel_rfl,
 t37 := Try.underlying266,
 a37 := Try.isAgg266,
 z37 := Try.sizeOf266,
 v37 := Try.zeroValue266,
 i37 := by kernel_rfl,
 t41 := Try.underlying246,
 a41 := Try.isAgg246,
 z41 := Try.sizeOf246,
 v41 := Try.zeroValue246,
 i41 := by kernel_rfl,
 t44 := Try.underlying271,
 a44 := Try.isAgg271,
 z44 := Try.sizeOf271,
 v44 := Try.zeroValue271,
 i44 := by kernel_rfl,
 t49 := Try.underlying61,
 a49 := Try.isAgg61,
 z49 := Try.sizeOf61,
 v49 := Try.zeroValue61,
 i49 := by kernel_rfl,
 t51 := Try.underlying157,
 a51 := Try.isAgg157,
 z51 := Try.sizeOf157,
 v51 := Try.zeroValue157,
 i51 := by kernel_rfl,
 t53 := Try.underlying277,
 a53 := Try.isAgg277,
 z53 := Try.sizeOf277,
 v53 := Try.zeroValue277,
 i53 := by kernel_rfl,
 t54 := Try.underlying278,
 a54 := Try.isAgg278,
 z54 := Try.sizeOf278,
 v54 := Try.zeroValue278,
 i54 := by kernel_rfl,
 t58 := Try.underlying282,
 a58 := Try.isAgg282,
 z58 := Try.sizeOf282,
 v58 := Try.zeroValue282,
 i58 := by kernel_rfl,
 t60 := Try.underlying284,
 a60 := Try.isAgg284,
 z60 := Try.sizeOf284,
 v60 := Try.zeroValue284,
 i60 := by kernel_rfl,
 t64 := Try.underlying288,
 a64 := Try.isAgg288,
 z64 := Try.sizeOf288,
 v64 := Try.zeroValue288,
 i64 := by kernel_rfl,
 t66 := Try.underlying290,
 a66 := Try.isAgg290,
 z66 := Try.sizeOf290,
 v66 := Try.zeroValue290,
 i66 := by kernel_rfl,
 t67 := Try.underlying291,
 a67 := Try.isAgg291,
 z67 := Try.sizeOf291,
 v67 := Try.zeroValue291,
 i67 := by kernel_rfl,
 t75 := Try.underlying299,
 a75 := Try.isAgg299,
 z75 := Try.sizeOf299,
 v75 := Try.zeroValue299,
 i75 := by kernel_rfl,
 t76 := Try.underlying300,
 a76 := Try.isAgg300,
 z76 := Try.sizeOf300,
 v76 := Try.zeroValue300,
 i76 := by kernel_rfl,
 t77 := Try.underlying301,
 a77 := Try.isAgg301,
 z77 := Try.sizeOf301,
 v77 := Try.zeroValue301,
 i77 := by kernel_rfl,
 t78 := Try.underlying302,
 a78 := Try.isAgg302,
 z78 := Try.sizeOf302,
 v78 := Try.zeroValue302,
 i78 := by kernel_rfl,
 t79 := Try.underlying303,
 a79 := Try.isAgg303,
 z79 := Try.sizeOf303,
 v79 := Try.zeroValue303,
 i79 := by kernel_rfl,
 t80 := Try.underlying304,
 a80 := Try.isAgg304,
 z80 := Try.sizeOf304,
 v80 := Try.zeroValue304,
 i80 := by kernel_rfl,
 t82 := Try.underlying306,
 a82 := Try.isAgg306,
 z82 := Try.sizeOf306,
 v82 := Try.zeroValue306,
 i82 := by kernel_rfl }
end Go.Proofs.Ytmehfgiadapekaa
set_option linter.unusedSimpArgs false
set_option linter.unusedVariables false
namespace Go.Proofs.Ytmehfgiadapekaa
open Go Go.RowKit Go.Lib Go.Sort Go.Shelf Go.Proofs
noncomputable def siT : TypeInfo := (Try.prog.info? 241).get (by kernel_rfl)
noncomputable def siE : TypeInfo := (Try.prog.info? 61).get (by kernel_rfl)
theorem siK (n : Nat) (h2 : 2 <= n) : Lib.swapperK n siE 10 = 6 := by
 have a : siE.hasPointers = false := by kernel_rfl
 have b : siE.bytes = 4 := by kernel_rfl
 have c : (n == 0) = false := by simp; omega
 have d : (n == 1) = false := by simp; omega
 simp [Lib.swapperK, a, b, c, d]
set_option maxHeartbeats 2000000 in
theorem less_keys (blk off c Bs size : Nat) (W : World) (G : Nat -> Int) (hs : W.cell? ⟨Bs, 0, none⟩ = some (.slice (some ⟨blk, off, none⟩) size c))
  (hc : ∀ t, t < size -> W.cell? ⟨blk, off + t, none⟩ = some (.int .u32 (G t))) (i j : Nat) (hi : i < size) (hj : j < size) :
  Calls Try.prog 204 #[.int .i64 i, .int .i64 j, .pointer (some ⟨Bs, 0, none⟩)] W fun e w' => e = .returned (.bool (decide (G i < G j))) /\ ∃ q, w' = W.drewN q := by
 have ci := hc i hi
 have cj := hc j hj
 go_enter Try.func204, Try.ntmps204
 go_wp2
 go_quiet (fail)
 go_wp2
 go_ret
 exact ⟨rfl, nq, rfl⟩
theorem mod_grow {w : World} {S : Nat -> Prop} {os : Array Obj} : Mod S w (grow w os) :=
 ⟨rfl, rfl, rfl, by simp [grow], fun k hk _ => by simp only [grow]; exact Array.getElem?_append_left hk⟩
theorem mod_sorted {w : World} {blk q : Nat} {vs : List Value} {os : Array Obj} : Mod (only blk) w (grow ((w.drewN q).setCells blk 0 vs) os) := by
 have h1 : Mod (only blk) w (w.drewN q) := (Mod.refl w).drewN q
 have h2 : Mod (only blk) (w.drewN q) ((w.drewN q).setCells blk 0 vs) := mod_setCells _ _ _ _
 exact (h1.trans h2).trans mod_grow
set_option maxHeartbeats 2000000 in
theorem sort_keys {w : World} {bs blk c : Nat} {T t : TypeId} {C : Array Value} {fr : Nat × Nat} {d : Array Int} {us : List Int} (hbs : w.heap[bs]? = some (.cells #[.slice (some ⟨blk, 0, none⟩) d.size c] T fr) ) (hb : w.heap[blk]? = some (.cells C t (0, 0))) (hne : bs ≠ blk)
  (hC : ∀ j, j < d.size -> C[j]? = some (.int .u32 d[j]!)) (hsz : d.size < 4611686018427387904) (hp : us.Perm d.toList) (hs : us.Pairwise (· < ·)) :
  Calls Try.prog 203 #[.iface 241 (.slice (some ⟨blk, 0, none⟩) d.size c), .func (.func 204) #[] #[.pointer (some ⟨bs, 0, none⟩)]] w fun e w' =>
   e = .returned (.tuple #[]) /\ Mod (only blk) w w' /\ ∃ C', w'.heap[blk]? = some (.cells C' t (0, 0)) /\ C'.size = C.size /\ ∀ j (h : j < us.length), C'[j]? = some (.int .u32 us[j]) := by
 have hH : Holds (Value.int .u32) w blk 0 d := fun j hj => ⟨by rw [Zc hb, Nat.zero_add]; exact hC j hj, Zz hb⟩
 have hblk : blk < w.heap.size := lt_of_block hb
 have hbsl : bs < w.heap.size := lt_of_block hbs
 have hlen : us.length = d.size := by simpa using hp.length_eq
 by_cases h2 : 2 <= d.size
 ·have hless : LessReads Try.prog 204 #[.pointer (some ⟨bs, 0, none⟩)] (Value.int .u32) ltInt blk 0 d.size w := by
   intro m os dk hs i j hi hj
   have e : sortWorld (Value.int .u32) w blk 0 m dk os = putRow (Value.int .u32) (grow (Sort.ahead w m) os) blk 0 dk := by
    unfold sortWorld; rw [putRow_grow _ (Sort.ahead w m) _ blk 0 _ hblk]
   have hHg : Holds (Value.int .u32) (grow (Sort.ahead w m) os) blk 0 d := holds_grow _ _ _ blk 0 d hblk (holds_ahead _ _ _ _ _ _ hH)
   refine less_keys blk 0 c bs d.size _ (fun t => dk[t]!) ?_ (fun t ht => ?_) i j hi hj
   ·rw [e, cell?_putRow_other _ _ blk 0 dk _ (Or.inl (by show bs ≠ blk; exact hne)), cell?_grow _ _ _ (by show bs < (Sort.ahead w m).heap.size; exact hbsl)]
    show w.cell? _ = _
    rw [Zc hbs]
    rfl
   ·rw [e]; exact cell?_putRow _ _ blk 0 d dk hHg hs t (by omega)
  have hS := Any.sort_Slice_sorted slLay 241 61 siT siE (by kernel_rfl) (by kernel_rfl) (by kernel_rfl) (by kernel_rfl) 10 (fun _ => by kernel_rfl) (by kernel_rfl) (fun _ => by kernel_rfl) (Value.int .u32) (fun _ => rfl) ltInt swo_ltInt 204 _
   (enters_of Try.func204 (by kernel_rfl) rfl) blk 0 c d h2 hsz 216 (by rw [siK _ h2]; kernel_rfl) true
   (fun args W => run_callFunc_extern Try.func216 (by kernel_rfl) (by kernel_rfl) (by kernel_rfl) (e := Extern.ReflectliteSwapper.swap true) (by kernel_rfl) args W) w hless hH hblk
  change Calls Try.prog 203 _ _ _ at hS
  refine hS.mono ?_
  rintro e w' ⟨rfl, d', n, os, hP, hSo, rfl⟩
  have hus : d'.toList = us := by
   have h := sorted_unique_holds (lt := ltInt) swo_ltInt (fun x y h1 h2 => by simp only [ltInt, decide_eq_false_iff_not] at h1 h2; omega) d d' hP hSo
   rw [h]
   refine List.Perm.eq_of_pairwise (le := fun x y => x <= y) ?_ ?_ ?_ ((List.mergeSort_perm _ _).trans hp.symm)
   ·intro a b _ _ h1 h2; omega
   ·have hp := List.pairwise_mergeSort (le := fun x y => !ltInt y x) (fun a b c h1 h2 => by simp [ltInt] at *; omega) (fun a b => by simp [ltInt]; omega) d.toList
    exact hp.imp (fun h => by simpa [ltInt] using h)
   ·exact hs.imp (fun h => by omega)
  have hd' : d' = us.toArray := by rw [<- hus]
  subst hd'
  rw [Lib.sorted_world (Value.int .u32) w blk 0 n d us os hH hlen]
  refine ⟨rfl, mod_sorted, ?_⟩
  obtain ⟨C', q1, q2, q3, q4⟩ := heap_setCells (w := w.drewN n) (us.map (Value.int .u32)) 0 C hb
  refine ⟨C', ?_, q2, fun j hj => ?_⟩
  ·have hlt : blk < ((w.drewN n).setCells blk 0 (us.map (Value.int .u32))).heap.size := lt_of_block q1
   simp only [grow]
   rw [Array.getElem?_append_left hlt]
   exact q1
  ·have hjC : j < C.size := by
    have := hC j (by omega)
    exact (Array.getElem?_eq_some_iff.1 this).1
   have := q3 j (by simpa using hj) (by omega)
   rw [Nat.zero_add] at this
   rw [this]
   simp
 ·have hfind : ∀ n : Nat, n <= 1 -> Try.prog.funcs.findIdx? (·.name == "internal/reflectlite" ++ ".Swapper$" ++ toString (n + 1)) = some (211 + n) := by
   have f0 : Try.prog.funcs.findIdx? (·.name == "internal/reflectlite" ++ ".Swapper$" ++ toString (0 + 1)) = some 211 := by kernel_rfl
   have f1 : Try.prog.funcs.findIdx? (·.name == "internal/reflectlite" ++ ".Swapper$" ++ toString (1 + 1)) = some (211 + 1) := by kernel_rfl
   intro n hn
   have : n = 0 \/ n = 1 := by omega
   rcases this with h | h
   ·rw [h]; exact f0
   ·rw [h]; exact f1
  have hK : Lib.swapperK d.size siE 10 = d.size + 1 := by
   rcases Nat.eq_zero_or_pos d.size with h | h
   ·rw [h]; simp [Lib.swapperK]
   ·have : d.size = 1 := by omega
    rw [this]; simp [Lib.swapperK]
  have hS := Any.sort_Slice_tiny slLay 241 61 siT siE (by kernel_rfl) (by kernel_rfl) (by kernel_rfl) (by kernel_rfl) 10 (fun _ => by kernel_rfl) (some ⟨blk, 0, none⟩) d.size c (by omega) (211 + d.size) (by rw [hK]; exact hfind d.size (by omega)) (.func 204) #[] #[.pointer (some ⟨bs, 0, none⟩)] w
  change Calls Try.prog 203 _ _ _ at hS
  refine hS.mono ?_
  rintro e w' ⟨rfl, os, rfl⟩
  refine ⟨rfl, mod_grow, C, ?_, rfl, fun j hj => ?_⟩
  ·simp only [grow]
   rw [Array.getElem?_append_left hblk]
   exact hb
  ·have h1 : us.length = 1 := by omega
   have hj0 : j = 0 := by omega
   subst hj0
   match us, h1, hp with
   | [x], _, hp =>
    have hx : d.toList = [x] := (List.perm_singleton.1 hp.symm)
    have hd1 : d.size = 1 := by simpa using hlen.symm
    have : d[0]! = x := by
     have e : d = #[x] := by rw [<- Array.toArray_toList (xs := d), hx]
     rw [e]; rfl
    rw [hC 0 (by omega), this]
    rfl
end Go.Proofs.Ytmehfgiadapekaa
