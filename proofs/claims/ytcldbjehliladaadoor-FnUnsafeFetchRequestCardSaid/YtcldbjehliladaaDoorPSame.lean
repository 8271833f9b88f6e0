/-
  Octets that are the same; trees that are the same.
  Trees that are the same.
-/
import Derived.Test.YtcldbjehliladaaDoorPGot
set_option linter.unusedSimpArgs false
set_option linter.unusedVariables false
namespace Go.Proofs.YtcldbjehliladaaDoor
open Go Go.RowKit
abbrev fSame : Nat := 25
theorem oct_slice {w : World} {F : Nat -> Prop} {v : Value} {s : List UInt8} {nil : Bool} (h : Oct w F v s nil) : ∃ ao cap, v = .slice ao s.length cap /\ s.length <= maxLen /\
  (0 < s.length -> ∃ sb off c t fr, ao = some ⟨sb, off, none⟩ /\ w.heap[sb]? = some (.cells c t fr) /\ ∀ i (h : i < s.length), c[off + i]? = some (.int .u8 (s[i]).toNat)) := by
 rcases h with ⟨sb, _, h⟩ | ⟨rfl, ao, cap, h, _⟩
 ·rcases h with ⟨_, h, hs⟩ | ⟨_, off, cap, c, t, fr, h, h1, h2, h3, h4⟩
  ·subst hs
   exact ⟨none, 0, h, by simp, fun h => by simp at h⟩
  ·exact ⟨_, cap, h, by omega, fun _ => ⟨sb, off, c, t, fr, rfl, h3, h4⟩⟩
 ·exact ⟨ao, cap, h, by simp, fun h => by simp at h⟩
def lenN (n : Nat) (v : Value) : Nat := match v with | .int _ m => n - m.toNat | _ => 0
/-- octets that can be read -/
def OctS (w : World) (v : Value) (s : List UInt8) : Prop := ∃ ao cap, v = .slice ao s.length cap /\ s.length <= maxLen /\
  (0 < s.length -> ∃ sb off c t fr, ao = some ⟨sb, off, none⟩ /\ w.heap[sb]? = some (.cells c t fr) /\ ∀ i (h : i < s.length), c[off + i]? = some (.int .u8 (s[i]).toNat))
set_option maxRecDepth 20000 in
theorem same_octs {w : World} {va vb : Value} {s : List UInt8} (ha : OctS w va s) (hb : OctS w vb s) :
  Calls Tryd.prog fSame #[va, vb] w fun e w' => e = .returned (.bool true) /\ Mod none' w w' := by
 obtain ⟨aoa, capa, hva, hla, hca⟩ := ha
 obtain ⟨aob, capb, hvb, hlb, hcb⟩ := hb
 simp only [maxLen] at hla
 refine calls_of_wp Tryd.func25 rfl ?_
 show Code.wp _ _ _ { tmps := (#[va, vb] : Array Value) ++ Array.replicate (26 - (#[va, vb] : Array Value).size) undef, defers := [] } w
 refine wp_act (fun a : Act => Act.get a 0 = va /\ Act.get a 1 = vb /\ a.tmps.size = 26 /\ a.defers = []) ⟨?_, ?_, ?_, rfl⟩ ?_
 ·rw [Zj _ _ _ (by simp)]; rfl
 ·rw [Zj _ _ _ (by simp)]; rfl
 ·simp
 rintro a0 ⟨g0, g1, gN, gd⟩
 refine wp_seq (wp_region_lit (Zv rfl Zi (wpList_nil ?_)))
 refine wp_seq (wp_seq (wp_region_lit ?_))
 refine Zv rfl Zm (Zv rfl (x_len (by kernel_rfl) rfl (ao := aoa) (cap := capa) (n := s.length) ?_) (Zv rfl Zm (Zv rfl (x_len (by kernel_rfl) rfl (ao := aob) (cap := capb) (n := s.length) ?_) (Zv rfl (x_neqI (k := .i64) (m := s.length) (n := s.length) ?_ ?_) (wpList_nil ?_)))))
 ·simp (disch := first | omega | simp only [Zs]; omega) only [Zo, Ze, Zn, Zq, g0, hva]
 ·simp (disch := first | omega | simp only [Zs]; omega) only [Zo, Ze, Zn, Zq, g1, hvb]
 ·simp (disch := first | omega | simp only [Zs]; omega) only [Zo, Ze, Zn, Zq]
 ·simp (disch := first | omega | simp only [Zs]; omega) only [Zo, Ze, Zn, Zq]
 refine wp_cond_false ?_ (wp_skip ?_)
 ·simp (disch := first | omega | simp only [Zs]; omega) only [Zo, Ze, Zn, Zq]
  simp
 refine wp_seq (wp_seq (wp_region_lit ?_))
 refine Zv rfl Zm (Zv rfl (x_len (by kernel_rfl) rfl (ao := aoa) (cap := capa) (n := s.length) ?_) (Zv rfl Zm (wpList_nil ?_)))
 ·simp (disch := first | omega | simp only [Zs]; omega) only [Zo, Ze, Zn, Zq, g0, hva]
 refine wp_block ?_
 refine wp_loop (fun a w' => a.tmps.size = 26 /\ a.defers = [] /\ Act.get a 0 = va /\ Act.get a 1 = vb /\ Act.get a 12 = .int .i64 s.length /\ Mod none' w w' /\ ∃ i, i <= s.length /\ Act.get a 13 = .int .i64 (i : Nat)) (fun a _ => lenN s.length (Act.get a 13)) ⟨?_, ?_, ?_, ?_, ?_, .refl w, 0, Nat.zero_le _, ?_⟩ ?_
 ·simp only [Zs]; exact gN
 ·simp only [Zd]; exact gd
 ·simp (disch := first | omega | simp only [Zs]; omega) only [Zo, Ze, Zn, Zq, g0]
 ·simp (disch := first | omega | simp only [Zs]; omega) only [Zo, Ze, Zn, Zq, g1]
 ·simp (disch := first | omega | simp only [Zs]; omega) only [Zo, Ze, Zn, Zq]
 ·simp (disch := first | omega | simp only [Zs]; omega) only [Zo, Ze, Zn, Zq]
  rfl
 rintro a w' ⟨aN, ad, p0, p1, p12, hm, i, hi, p13⟩
 refine wp_seq (wp_region_lit (Zv rfl (x_lss (k := .i64) (m := (i : Nat)) (n := (s.length : Nat)) ?_ ?_) (wpList_nil ?_)))
 ·exact p13
 ·exact p12
 by_cases hil : i < s.length
 case neg =>
  refine wp_seq (wp_cond_false ?_ (wp_exit ?_))
  ·rw [Ze, Zq (by omega)]; simp; omega
  simp only [Exit.then, Exit.inBlock, if_true]
  refine wp_seq (wp_region_lit (Zv rfl Zi (wpList_nil (wp_ret (bodyPost_ret (results_tmp rfl _ _ _) ?_ ⟨?_, hm⟩)))))
  ·simp only [Zd]; exact ad
  ·show Ending.returned (Act.get _ 4) = _
   simp (disch := first | omega | simp only [Zs]; omega) only [Zo, Ze, Zn, Zq]
   rfl
 case pos =>
  refine wp_seq (wp_cond_true ?_ (wp_skip ?_))
  ·rw [Ze, Zq (by omega)]; simp; omega
  obtain ⟨sa, oa, ca, ta, fra, ea, hha, hea⟩ := hca (by omega)
  obtain ⟨sb, ob, cb, tb, frb, eb, hhb, heb⟩ := hcb (by omega)
  refine wp_seq (wp_block (wp_seq (wp_region_lit (Zv rfl Zm (Zv rfl Zi (wpList_nil ?_))))))
  refine wp_act (fun a : Act => Act.get a 0 = va /\ Act.get a 1 = vb /\ Act.get a 12 = .int .i64 s.length /\ Act.get a 13 = .int .i64 (i : Nat) /\ Act.get a 5 = .int .i64 (i : Nat) /\ a.tmps.size = 26 /\ a.defers = []) ⟨?_, ?_, ?_, ?_, ?_, ?_, ?_⟩ ?_
  ·simp (disch := first | omega | simp only [Zs]; omega) only [Zo, Ze, Zn, Zq, p0]
  ·simp (disch := first | omega | simp only [Zs]; omega) only [Zo, Ze, Zn, Zq, p1]
  ·simp (disch := first | omega | simp only [Zs]; omega) only [Zo, Ze, Zn, Zq, p12]
  ·simp (disch := first | omega | simp only [Zs]; omega) only [Zo, Ze, Zn, Zq, p13]
  ·simp (disch := first | omega | simp only [Zs]; omega) only [Zo, Ze, Zn, Zq, p13]
  ·simp only [Zs]; exact aN
  ·simp only [Zd]; exact ad
  rintro a1 ⟨q0, q1, q12, q13, q5, qN, qd⟩
  have p13' := p13
  clear aN ad p0 p1 p12 p13
  refine wp_seq (region_vals (l := [_, _, _, _, _, _, _, _]) (tl := [_]) rfl [16, 17, 18, 19, 20, 21, 22, 23]
   [va, .int .i64 (i : Nat), .pointer (some ⟨sa, oa + i * 1, none⟩), .int .u8 (s[i]).toNat, vb, .int .i64 (i : Nat), .pointer (some ⟨sb, ob + i * 1, none⟩), .int .u8 (s[i]).toNat] rfl rfl (by decide) (by simp [qN]) (by simp) (by kernel_rfl) ⟨?_, ?_, ?_, ?_, ?_, ?_, ?_, ?_, trivial⟩ ?_)
  ·intro a2 w2 hr hs hd
   exact vstep_val rfl rfl (by rw [show va = a2.eval (.tmp 0) from ((hs.get 0 (by decide)).trans q0).symm]; exact Zm)
  ·intro a2 w2 hr hs hd
   exact vstep_val rfl rfl (by rw [show Value.int .i64 (i : Nat) = a2.eval (.tmp 5) from ((hs.get 5 (by decide)).trans q5).symm]; exact Zm)
  ·intro a2 w2 hr hs hd
   have d0 : Act.get a2 16 = va := hd ⟨0, .data⟩ (by simp) rfl
   have d1 : Act.get a2 17 = .int .i64 (i : Nat) := hd ⟨1, .data⟩ (by simp) rfl
   exact vstep_val rfl rfl (Zx (sz := 1) (i := i) (b := sa) (o := oa) (n := s.length) (cap := capa) (k := .i64) (by kernel_rfl) (d0.trans (hva.trans (by rw [ea]))) d1 hil)
  ·intro a2 w2 hr hs hd
   have d2 : Act.get a2 18 = .pointer (some ⟨sa, oa + i * 1, none⟩) := hd ⟨2, .data⟩ (by simp) rfl
   exact vstep_val rfl rfl (Zl (by kernel_rfl) (b := sa) (o := oa + i * 1) d2 (by rw [Zc (hr.some (hm.some hha (fun f => f)) (fun f => f)), Nat.mul_one]; exact hea i hil))
  ·intro a2 w2 hr hs hd
   exact vstep_val rfl rfl (by rw [show vb = a2.eval (.tmp 1) from ((hs.get 1 (by decide)).trans q1).symm]; exact Zm)
  ·intro a2 w2 hr hs hd
   exact vstep_val rfl rfl (by rw [show Value.int .i64 (i : Nat) = a2.eval (.tmp 5) from ((hs.get 5 (by decide)).trans q5).symm]; exact Zm)
  ·intro a2 w2 hr hs hd
   have d0 : Act.get a2 20 = vb := hd ⟨4, .data⟩ (by simp) rfl
   have d1 : Act.get a2 21 = .int .i64 (i : Nat) := hd ⟨5, .data⟩ (by simp) rfl
   exact vstep_val rfl rfl (Zx (sz := 1) (i := i) (b := sb) (o := ob) (n := s.length) (cap := capb) (k := .i64) (by kernel_rfl) (d0.trans (hvb.trans (by rw [eb]))) d1 hil)
  ·intro a2 w2 hr hs hd
   have d2 : Act.get a2 22 = .pointer (some ⟨sb, ob + i * 1, none⟩) := hd ⟨6, .data⟩ (by simp) rfl
   exact vstep_val rfl rfl (Zl (by kernel_rfl) (b := sb) (o := ob + i * 1) d2 (by rw [Zc (hr.some (hm.some hhb (fun f => f)) (fun f => f)), Nat.mul_one]; exact heb i hil))
  intro a2 w2 hr hs hh
  have d3 : Act.get a2 19 = .int .u8 (s[i]).toNat := hh 3 (by decide)
  have d7 : Act.get a2 23 = .int .u8 (s[i]).toNat := hh 7 (by decide)
  have zN : a2.tmps.size = 26 := hs.size.trans qN
  refine Zv rfl (x_neqI (k := .u8) d3 d7) (wpList_nil ?_)
  refine wp_cond_false ?_ (wp_skip ?_)
  ·simp (disch := first | omega | simp only [Zs]; omega) only [Zo, Ze, Zn, Zq]
   simp
  simp only [Exit.then, Exit.inBlock]
  have hbz : ∀ t, t ∉ [16, 17, 18, 19, 20, 21, 22, 23] -> Act.get a2 t = Act.get a1 t := fun t ht => hs.get t ht
  refine wp_region_lit (Zv rfl (x_add (k := .i64) (m := (i : Nat)) (n := 1) ?_ rfl) (Zv rfl Zm (wpList_nil ?_)))
  ·simp (disch := first | omega | simp only [Zs]; omega) only [Zo, Ze, Zn, Zq, hbz 13 (by decide)]
   exact q13
  have hwrap : IntKind.i64.wrap ((i : Int) + 1) = ((i + 1 : Nat) : Int) := by rw [IntKind.wrap_i64]; omega
  refine ⟨⟨?_, ?_, ?_, ?_, ?_, hm.trans hr, i + 1, by omega, ?_⟩, ?_⟩
  ·simp only [Zs]; exact zN
  ·simp only [Zd]; exact hs.defers.trans qd
  ·simp (disch := first | omega | simp only [Zs]; omega) only [Zo, Ze, Zn, Zq, hbz 0 (by decide), q0]
  ·simp (disch := first | omega | simp only [Zs]; omega) only [Zo, Ze, Zn, Zq, hbz 1 (by decide), q1]
  ·simp (disch := first | omega | simp only [Zs]; omega) only [Zo, Ze, Zn, Zq, hbz 12 (by decide), q12]
  ·simp (disch := first | omega | simp only [Zs]; omega) only [Zo, Ze, Zn, Zq]
   rw [hwrap]
  ·simp (disch := first | omega | simp only [Zs]; omega) only [Zo, Ze, Zn, Zq]
   rw [hwrap, p13']
   simp only [lenN, Int.toNat_natCast]
   omega
end Go.Proofs.YtcldbjehliladaaDoor
set_option linter.unusedSimpArgs false
set_option linter.unusedVariables false
namespace Go.Proofs.YtcldbjehliladaaDoor
open Go Go.RowKit
theorem same_spec {w : World} {F F' : Nat -> Prop} {va vb : Value} {s : List UInt8} {na nb : Bool} (ha : Oct w F va s na) (hb : Oct w F' vb s nb) :
  Calls Tryd.prog fSame #[va, vb] w fun e w' => e = .returned (.bool true) /\ Mod none' w w' := same_octs (oct_slice ha) (oct_slice hb)
theorem elems_slice {w : World} {F : Nat -> Prop} {v : Value} {n sz : Nat} {f : Nat -> Nat -> Value} (h : Elems w F v n sz f) : ∃ ao cap, v = .slice ao n cap /\
  (0 < n -> ∃ k off C t fr, ao = some ⟨k, off, none⟩ /\ w.heap[k]? = some (.cells C t fr) /\ ∀ i, i < n -> ∀ j, j < sz -> C[off + i * sz + j]? = some (f i j)) := by
 rcases h with ⟨h, h'⟩ | ⟨k, off, cap, C, t, fr, h1, h2, h3, h4, h5, h6⟩
 ·exact ⟨none, 0, by rw [h', h], fun h0 => by omega⟩
 ·exact ⟨_, cap, h2, fun _ => ⟨k, off, C, t, fr, rfl, h5, h6⟩⟩
end Go.Proofs.YtcldbjehliladaaDoor
