/-
  The bounds on the sizes of what came in: they answer, and leave all as it was.
-/
import Derived.Test.YthkpmmjcmldjhaaDoorPWp
set_option linter.unusedSimpArgs false
set_option linter.unusedVariables false
namespace Go.Proofs.YthkpmmjcmldjhaaDoor
open Go Go.RowKit
def SomeBool (w : World) (e : Ending) (w' : World) : Prop := ∃ b : Bool, e = .returned (.bool b) /\ Mod none' w w'
theorem zz3_c {w : World} {k : Int} {v : Value} {bs : List UInt8} (h : OctI w v bs) : Calls Tryd.prog 30 #[.agg #[.int .u32 k, v]] w (SomeBool w) := by
 obtain ⟨ao, cap, rfl, _⟩ := h.slice
 clear h
 go_enter Tryd.func30, Tryd.ntmps30
 go_wp2
 all_goals
  go_ret
  exact ⟨_, rfl, (Mod.refl w).alloc _⟩
set_option maxHeartbeats 1000000 in
theorem zz2_c {w : World} {v : Value} {u : Tags} {g : Nat -> Nat -> Value} (hE : ElemsI w v u.length 2 g) (hg : ∀ i (h : i < u.length), g i 0 = .int .u32 (u[i]).1 /\ fits .u32 (u[i]).1 /\ OctI w (g i 1) (u[i]).2) :
  Calls Tryd.prog 18 #[v] w (SomeBool w) := by
 obtain ⟨ao, cap, rfl⟩ := hE.slice
 go_enter Tryd.func18, Tryd.ntmps18
 go_wp2
 ·go_ret
  exact ⟨_, rfl, .refl w⟩
 ·go_loopw [10] (fun i wr => ∃ k : Nat, k <= u.length /\ i = .int .i64 k /\ Mod none' w wr) (fun i _ => u.length - (Go.RowKit.intOf i).toNat)
  case atStart => exact ⟨0, by omega, rfl, .refl w⟩
  case round =>
   obtain ⟨k, hk, rfl, hm⟩ := hrel
   by_cases hlt : k < u.length
   ·have hE' := hE.mod hm
    obtain ⟨kb, off, rfl, C, Tk, fr', hC1, hC2⟩ : ∃ kb off, ao = some ⟨kb, off, none⟩ /\ ∃ C T fr, wr.heap[kb]? = some (.cells C T fr) /\ ∀ i, i < u.length -> ∀ j, j < 2 -> C[off + i * 2 + j]? = some (g i j) := by
     rcases hE' with ⟨h0', _⟩ | ⟨kb, off, cap', C, T, fr', r1, r2, r3, r4, r5⟩
     ·omega
     ·obtain ⟨rfl, rfl⟩ : ao = some ⟨kb, off, none⟩ /\ cap = cap' := by simpa using r1
      exact ⟨kb, off, rfl, C, T, fr', r4, r5⟩
    obtain ⟨q1, q2, q3⟩ := hg k hlt
    have c0 : wr.cell? ⟨kb, off + k * 2, none⟩ = some (.int .u32 (u[k]).1) := by rw [Zc hC1, <- q1]; exact hC2 k hlt 0 (by omega)
    have c1 : wr.cell? ⟨kb, off + k * 2 + 1, none⟩ = some (g k 1) := by rw [Zc hC1]; exact hC2 k hlt 1 (by omega)
    have q4 := q3.mod hm
    generalize g k 1 = gv at *
    generalize u[k] = up at *
    clear hC1 hC2 hE hE' hg q1 q2 q3
    obtain ⟨ga, gc, rfl, _⟩ := q4.slice
    go_wp2_with (go_at_call 30; refine (zz3_c (q4.mod ((Mod.refl wr).alloc _))).mono ?_; rintro e w2 ⟨b, rfl, hm2⟩; have hm3 := hm.trans (((Mod.refl wr).alloc _).trans hm2); cases b)
    ·go_ret
     exact ⟨_, rfl, hm3⟩
    ·go_roundw
     case rel => exact ⟨k + 1, by omega, by go_num, hm3⟩
     case measure => first | omega | (simp [Go.RowKit.intOf]; omega)
   ·go_wp2
    go_ret
    exact ⟨_, rfl, hm⟩
theorem zz1_c {w : World} {cs : Array Value} {t : Tr} (hcs : cs.size = 5) (ht : TreeI w (from' cs 0) t) : Calls Tryd.prog 5 #[.agg cs] w (SomeBool w) := by
 have e5 := arr5 hcs
 rw [e5]
 generalize from' cs 0 = c at *
 clear e5 hcs
 cases ht with
 | @mk _ n s z l u f g h0 hn h1 h2 h3 h3' h4 h4' =>
 rw [h0, h2]
 obtain ⟨a1, c1, e1, _⟩ := h1.slice
 obtain ⟨a3, c3, e3⟩ := h3.slice
 obtain ⟨a4, c4, e4⟩ := h4.slice
 rw [e1, e3, e4]
 have hz := fun W (hm : Mod none' w W) => zz2_c ((e4 ▸ h4).mod hm) (fun i h => ⟨(h4' i h).1, (h4' i h).2.1, (h4' i h).2.2.mod hm⟩)
 clear h0 h1 h2 h3 h3' h4 h4' e1 e3 e4
 go_enter Tryd.func5, Tryd.ntmps5
 go_wp2_with (go_at_call 18; refine (hz _ ((Mod.refl w).alloc _)).mono ?_; rintro e w2 ⟨b, rfl, hm2⟩; have hm3 := ((Mod.refl w).alloc _).trans hm2; cases b)
 all_goals
  go_ret
  first | exact ⟨_, rfl, hm3⟩ | exact ⟨_, rfl, (Mod.refl w).alloc _⟩
end Go.Proofs.YthkpmmjcmldjhaaDoor
