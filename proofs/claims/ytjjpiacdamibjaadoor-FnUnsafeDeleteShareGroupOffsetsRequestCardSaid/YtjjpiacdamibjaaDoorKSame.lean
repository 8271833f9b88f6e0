/-
  Octets that are the same; trees that are the same.
  Trees that are the same.
-/
import Derived.Test.YtjjpiacdamibjaaDoorKAppB
import Derived.Test.YtjjpiacdamibjaaDoorKGot
set_option linter.unusedSimpArgs false
set_option linter.unusedVariables false
namespace Go.Proofs.YtjjpiacdamibjaaDoor
open Go Go.RowKit

abbrev fSame : Nat := 20
abbrev fSameTree : Nat := 9

theorem oct_slice {w : World} {F : Nat → Prop} {v : Value} {s : List UInt8} {nil : Bool} (h : Oct w F v s nil) : ∃ ao cap, v = .slice ao s.length cap ∧ s.length ≤ maxLen ∧
    (0 < s.length → ∃ sb off c t fr, ao = some ⟨sb, off, none⟩ ∧ w.heap[sb]? = some (.cells c t fr) ∧ ∀ i (h : i < s.length), c[off + i]? = some (.int .u8 (s[i]).toNat)) := by
  obtain ⟨sb, _, h⟩ := h
  rcases h with ⟨_, h, hs⟩ | ⟨_, off, cap, c, t, fr, h, h1, h2, h3, h4⟩
  · subst hs
    exact ⟨none, 0, h, by simp, fun h => by simp at h⟩
  · exact ⟨_, cap, h, by omega, fun _ => ⟨sb, off, c, t, fr, rfl, h3, h4⟩⟩

def lenN (n : Nat) (v : Value) : Nat := match v with | .int _ m => n - m.toNat | _ => 0

set_option maxRecDepth 20000 in
theorem same_spec {w : World} {F F' : Nat → Prop} {va vb : Value} {s : List UInt8} {na nb : Bool} (ha : Oct w F va s na) (hb : Oct w F' vb s nb) :
    Calls Tryd.prog fSame #[va, vb] w fun e w' => e = .returned (.bool true) ∧ Mod none' w w' := by
  obtain ⟨aoa, capa, hva, hla, hca⟩ := oct_slice ha
  obtain ⟨aob, capb, hvb, hlb, hcb⟩ := oct_slice hb
  simp only [maxLen] at hla
  refine calls_of_wp Tryd.func20 rfl ?_
  show Code.wp _ _ _ { tmps := (#[va, vb] : Array Value) ++ Array.replicate (26 - (#[va, vb] : Array Value).size) undef, defers := [] } w
  refine wp_act (fun a : Act => Act.get a 0 = va ∧ Act.get a 1 = vb ∧ a.tmps.size = 26 ∧ a.defers = []) ⟨?_, ?_, ?_, rfl⟩ ?_
  · rw [get_nil_args _ _ _ (by simp)]; rfl
  · rw [get_nil_args _ _ _ (by simp)]; rfl
  · simp
  rintro a0 ⟨g0, g1, gN, gd⟩
  refine wp_seq (wp_region_lit (wpl_val rfl x_assign (wpList_nil ?_)))
  refine wp_seq (wp_seq (wp_region_lit ?_))
  refine wpl_val rfl x_move (wpl_val rfl (x_len (by kernel_rfl) rfl (ao := aoa) (cap := capa) (n := s.length) ?_) (wpl_val rfl x_move (wpl_val rfl (x_len (by kernel_rfl) rfl (ao := aob) (cap := capb) (n := s.length) ?_) (wpl_val rfl (x_neqI (k := .i64) (m := s.length) (n := s.length) ?_ ?_) (wpList_nil ?_)))))
  · simp (disch := (first | omega | (simp only [Act.size_put]; omega))) only [Act.put_none, eval_tmp, Act.get_put_ne, Act.get_put_eq, g0, hva]
  · simp (disch := (first | omega | (simp only [Act.size_put]; omega))) only [Act.put_none, eval_tmp, Act.get_put_ne, Act.get_put_eq, g1, hvb]
  · simp (disch := (first | omega | (simp only [Act.size_put]; omega))) only [Act.put_none, eval_tmp, Act.get_put_ne, Act.get_put_eq]
  · simp (disch := (first | omega | (simp only [Act.size_put]; omega))) only [Act.put_none, eval_tmp, Act.get_put_ne, Act.get_put_eq]
  refine wp_cond_false ?_ (wp_skip ?_)
  · simp (disch := (first | omega | (simp only [Act.size_put]; omega))) only [Act.put_none, eval_tmp, Act.get_put_ne, Act.get_put_eq]
    simp
  refine wp_seq (wp_seq (wp_region_lit ?_))
  refine wpl_val rfl x_move (wpl_val rfl (x_len (by kernel_rfl) rfl (ao := aoa) (cap := capa) (n := s.length) ?_) (wpl_val rfl x_move (wpList_nil ?_)))
  · simp (disch := (first | omega | (simp only [Act.size_put]; omega))) only [Act.put_none, eval_tmp, Act.get_put_ne, Act.get_put_eq, g0, hva]
  refine wp_block ?_
  refine wp_loop (fun a w' => a.tmps.size = 26 ∧ a.defers = [] ∧ Act.get a 0 = va ∧ Act.get a 1 = vb ∧ Act.get a 12 = .int .i64 s.length ∧ Mod none' w w' ∧ ∃ i, i ≤ s.length ∧ Act.get a 13 = .int .i64 (i : Nat)) (fun a _ => lenN s.length (Act.get a 13)) ⟨?_, ?_, ?_, ?_, ?_, .refl w, 0, Nat.zero_le _, ?_⟩ ?_
  · simp only [Act.size_put]; exact gN
  · simp only [Act.defers_put]; exact gd
  · simp (disch := (first | omega | (simp only [Act.size_put]; omega))) only [Act.put_none, eval_tmp, Act.get_put_ne, Act.get_put_eq, g0]
  · simp (disch := (first | omega | (simp only [Act.size_put]; omega))) only [Act.put_none, eval_tmp, Act.get_put_ne, Act.get_put_eq, g1]
  · simp (disch := (first | omega | (simp only [Act.size_put]; omega))) only [Act.put_none, eval_tmp, Act.get_put_ne, Act.get_put_eq]
  · simp (disch := (first | omega | (simp only [Act.size_put]; omega))) only [Act.put_none, eval_tmp, Act.get_put_ne, Act.get_put_eq]
    rfl
  rintro a w' ⟨aN, ad, p0, p1, p12, hm, i, hi, p13⟩
  refine wp_seq (wp_region_lit (wpl_val rfl (x_lss (k := .i64) (m := (i : Nat)) (n := (s.length : Nat)) ?_ ?_) (wpList_nil ?_)))
  · exact p13
  · exact p12
  by_cases hil : i < s.length
  case neg =>
    refine wp_seq (wp_cond_false ?_ (wp_exit ?_))
    · rw [eval_tmp, Act.get_put_eq (by omega)]; simp; omega
    simp only [Exit.then, Exit.inBlock, if_true]
    refine wp_seq (wp_region_lit (wpl_val rfl x_assign (wpList_nil (wp_ret (bodyPost_ret (results_tmp rfl _ _ _) ?_ ⟨?_, hm⟩)))))
    · simp only [Act.defers_put]; exact ad
    · show Ending.returned (Act.get _ 4) = _
      simp (disch := (first | omega | (simp only [Act.size_put]; omega))) only [Act.put_none, eval_tmp, Act.get_put_ne, Act.get_put_eq]
      rfl
  case pos =>
    refine wp_seq (wp_cond_true ?_ (wp_skip ?_))
    · rw [eval_tmp, Act.get_put_eq (by omega)]; simp; omega
    obtain ⟨sa, oa, ca, ta, fra, ea, hha, hea⟩ := hca (by omega)
    obtain ⟨sb, ob, cb, tb, frb, eb, hhb, heb⟩ := hcb (by omega)
    refine wp_seq (wp_block (wp_seq (wp_region_lit (wpl_val rfl x_move (wpl_val rfl x_assign (wpList_nil ?_))))))
    refine wp_act (fun a : Act => Act.get a 0 = va ∧ Act.get a 1 = vb ∧ Act.get a 12 = .int .i64 s.length ∧ Act.get a 13 = .int .i64 (i : Nat) ∧ Act.get a 5 = .int .i64 (i : Nat) ∧ a.tmps.size = 26 ∧ a.defers = []) ⟨?_, ?_, ?_, ?_, ?_, ?_, ?_⟩ ?_
    · simp (disch := (first | omega | (simp only [Act.size_put]; omega))) only [Act.put_none, eval_tmp, Act.get_put_ne, Act.get_put_eq, p0]
    · simp (disch := (first | omega | (simp only [Act.size_put]; omega))) only [Act.put_none, eval_tmp, Act.get_put_ne, Act.get_put_eq, p1]
    · simp (disch := (first | omega | (simp only [Act.size_put]; omega))) only [Act.put_none, eval_tmp, Act.get_put_ne, Act.get_put_eq, p12]
    · simp (disch := (first | omega | (simp only [Act.size_put]; omega))) only [Act.put_none, eval_tmp, Act.get_put_ne, Act.get_put_eq, p13]
    · simp (disch := (first | omega | (simp only [Act.size_put]; omega))) only [Act.put_none, eval_tmp, Act.get_put_ne, Act.get_put_eq, p13]
    · simp only [Act.size_put]; exact aN
    · simp only [Act.defers_put]; exact ad
    rintro a1 ⟨q0, q1, q12, q13, q5, qN, qd⟩
    have p13' := p13
    clear aN ad p0 p1 p12 p13
    refine wp_seq (region_vals (l := [_, _, _, _, _, _, _, _]) (tl := [_]) rfl [16, 17, 18, 19, 20, 21, 22, 23]
      [va, .int .i64 (i : Nat), .pointer (some ⟨sa, oa + i * 1, none⟩), .int .u8 (s[i]).toNat, vb, .int .i64 (i : Nat), .pointer (some ⟨sb, ob + i * 1, none⟩), .int .u8 (s[i]).toNat] rfl rfl (by decide) (by simp [qN]) (by simp) (by kernel_rfl) ⟨?_, ?_, ?_, ?_, ?_, ?_, ?_, ?_, trivial⟩ ?_)
    · intro a2 w2 hr hs hd
      exact vstep_val rfl rfl (by rw [show va = a2.eval (.tmp 0) from ((hs.get 0 (by decide)).trans q0).symm]; exact x_move)
    · intro a2 w2 hr hs hd
      exact vstep_val rfl rfl (by rw [show Value.int .i64 (i : Nat) = a2.eval (.tmp 5) from ((hs.get 5 (by decide)).trans q5).symm]; exact x_move)
    · intro a2 w2 hr hs hd
      have d0 : Act.get a2 16 = va := hd ⟨0, .data⟩ (by simp) rfl
      have d1 : Act.get a2 17 = .int .i64 (i : Nat) := hd ⟨1, .data⟩ (by simp) rfl
      exact vstep_val rfl rfl (x_indexAddr (sz := 1) (i := i) (b := sa) (o := oa) (n := s.length) (cap := capa) (k := .i64) (by kernel_rfl) (d0.trans (hva.trans (by rw [ea]))) d1 hil)
    · intro a2 w2 hr hs hd
      have d2 : Act.get a2 18 = .pointer (some ⟨sa, oa + i * 1, none⟩) := hd ⟨2, .data⟩ (by simp) rfl
      exact vstep_val rfl rfl (x_load1 (by kernel_rfl) (b := sa) (o := oa + i * 1) d2 (by rw [cell_of_heap (hr.some (hm.some hha (fun f => f)) (fun f => f)), Nat.mul_one]; exact hea i hil))
    · intro a2 w2 hr hs hd
      exact vstep_val rfl rfl (by rw [show vb = a2.eval (.tmp 1) from ((hs.get 1 (by decide)).trans q1).symm]; exact x_move)
    · intro a2 w2 hr hs hd
      exact vstep_val rfl rfl (by rw [show Value.int .i64 (i : Nat) = a2.eval (.tmp 5) from ((hs.get 5 (by decide)).trans q5).symm]; exact x_move)
    · intro a2 w2 hr hs hd
      have d0 : Act.get a2 20 = vb := hd ⟨4, .data⟩ (by simp) rfl
      have d1 : Act.get a2 21 = .int .i64 (i : Nat) := hd ⟨5, .data⟩ (by simp) rfl
      exact vstep_val rfl rfl (x_indexAddr (sz := 1) (i := i) (b := sb) (o := ob) (n := s.length) (cap := capb) (k := .i64) (by kernel_rfl) (d0.trans (hvb.trans (by rw [eb]))) d1 hil)
    · intro a2 w2 hr hs hd
      have d2 : Act.get a2 22 = .pointer (some ⟨sb, ob + i * 1, none⟩) := hd ⟨6, .data⟩ (by simp) rfl
      exact vstep_val rfl rfl (x_load1 (by kernel_rfl) (b := sb) (o := ob + i * 1) d2 (by rw [cell_of_heap (hr.some (hm.some hhb (fun f => f)) (fun f => f)), Nat.mul_one]; exact heb i hil))
    intro a2 w2 hr hs hh
    have d3 : Act.get a2 19 = .int .u8 (s[i]).toNat := hh 3 (by decide)
    have d7 : Act.get a2 23 = .int .u8 (s[i]).toNat := hh 7 (by decide)
    have zN : a2.tmps.size = 26 := hs.size.trans qN
    refine wpl_val rfl (x_neqI (k := .u8) d3 d7) (wpList_nil ?_)
    refine wp_cond_false ?_ (wp_skip ?_)
    · simp (disch := (first | omega | (simp only [Act.size_put]; omega))) only [Act.put_none, eval_tmp, Act.get_put_ne, Act.get_put_eq]
      simp
    simp only [Exit.then, Exit.inBlock]
    have hbz : ∀ t, t ∉ [16, 17, 18, 19, 20, 21, 22, 23] → Act.get a2 t = Act.get a1 t := fun t ht => hs.get t ht
    refine wp_region_lit (wpl_val rfl (x_add (k := .i64) (m := (i : Nat)) (n := 1) ?_ rfl) (wpl_val rfl x_move (wpList_nil ?_)))
    · simp (disch := (first | omega | (simp only [Act.size_put]; omega))) only [Act.put_none, eval_tmp, Act.get_put_ne, Act.get_put_eq, hbz 13 (by decide)]
      exact q13
    have hwrap : IntKind.i64.wrap ((i : Int) + 1) = ((i + 1 : Nat) : Int) := by rw [IntKind.wrap_i64]; omega
    refine ⟨⟨?_, ?_, ?_, ?_, ?_, hm.trans hr, i + 1, by omega, ?_⟩, ?_⟩
    · simp only [Act.size_put]; exact zN
    · simp only [Act.defers_put]; exact hs.defers.trans qd
    · simp (disch := (first | omega | (simp only [Act.size_put]; omega))) only [Act.put_none, eval_tmp, Act.get_put_ne, Act.get_put_eq, hbz 0 (by decide), q0]
    · simp (disch := (first | omega | (simp only [Act.size_put]; omega))) only [Act.put_none, eval_tmp, Act.get_put_ne, Act.get_put_eq, hbz 1 (by decide), q1]
    · simp (disch := (first | omega | (simp only [Act.size_put]; omega))) only [Act.put_none, eval_tmp, Act.get_put_ne, Act.get_put_eq, hbz 12 (by decide), q12]
    · simp (disch := (first | omega | (simp only [Act.size_put]; omega))) only [Act.put_none, eval_tmp, Act.get_put_ne, Act.get_put_eq]
      rw [hwrap]
    · simp (disch := (first | omega | (simp only [Act.size_put]; omega))) only [Act.put_none, eval_tmp, Act.get_put_ne, Act.get_put_eq]
      rw [hwrap, p13']
      simp only [lenN, Int.toNat_natCast]
      omega
end Go.Proofs.YtjjpiacdamibjaaDoor

set_option linter.unusedSimpArgs false
set_option linter.unusedVariables false
namespace Go.Proofs.YtjjpiacdamibjaaDoor
open Go Go.RowKit

theorem wpl_act {P : Program} {ops : Array Oper} {rest : List Oper} {Q : Exit → Act → World → Prop} {a : Act} {w : World} (p : Act → Prop) (hp : p a) (h : ∀ a', p a' → wpList P ops Q rest a' w) : wpList P ops Q rest a w := h a hp
theorem elems_slice {w : World} {F : Nat → Prop} {v : Value} {n sz : Nat} {f : Nat → Nat → Value} (h : Elems w F v n sz f) : ∃ ao cap, v = .slice ao n cap ∧
    (0 < n → ∃ k off C t fr, ao = some ⟨k, off, none⟩ ∧ w.heap[k]? = some (.cells C t fr) ∧ ∀ i, i < n → ∀ j, j < sz → C[off + i * sz + j]? = some (f i j)) := by
  rcases h with ⟨h, h'⟩ | ⟨k, off, cap, C, t, fr, h1, h2, h3, h4, h5, h6⟩
  · exact ⟨none, 0, by rw [h', h], fun h0 => by omega⟩
  · exact ⟨_, cap, h2, fun _ => ⟨k, off, C, t, fr, rfl, h5, h6⟩⟩

set_option maxRecDepth 20000 in
set_option maxHeartbeats 4000000 in
theorem sametree_spec : ∀ (N : Nat) (t : Tr), SizeOf.sizeOf t < N → ∀ (ca cb : Array Value) (w : World) (F F' : Nat → Prop), ca.size = 5 → cb.size = 5 → TreeR w F (from' ca 0) t → TreeR w F' (from' cb 0) t →
    Calls Tryd.prog fSameTree #[.agg ca, .agg cb] w fun e w' => e = .returned (.bool true) ∧ Mod none' w w' := by
  intro N
  induction N with
  | zero => intro t ht; omega
  | succ N ihN =>
  intro t ht ca cb w F F' hsa hsb hTA hTB
  obtain ⟨cA, hcA⟩ : ∃ c, c = from' ca 0 := ⟨_, rfl⟩
  obtain ⟨cB, hcB⟩ : ∃ c, c = from' cb 0 := ⟨_, rfl⟩
  rw [← hcA] at hTA
  rw [← hcB] at hTB
  have hca : ∀ j, j < 5 → ca[j]? = some (cA j) := fun j hj => by rw [hcA]; simp [from', show j < ca.size by omega]
  have hcb : ∀ j, j < 5 → cb[j]? = some (cB j) := fun j hj => by rw [hcB]; simp [from', show j < cb.size by omega]
  clear hcA hcB
  cases hTA with
  | mk A0 An A1 A2 Abnd A3 A3' A4 A4' =>
  cases hTB with
  | mk B0 Bn B1 B2 Bbnd B3 B3' B4 B4' =>
  rename_i n s nilA null l u fA gA nilB fB gB
  obtain ⟨aoA3, capA3, hA3, hA3e⟩ := elems_slice A3
  obtain ⟨aoB3, capB3, hB3, hB3e⟩ := elems_slice B3
  obtain ⟨aoA4, capA4, hA4, hA4e⟩ := elems_slice A4
  obtain ⟨aoB4, capB4, hB4, hB4e⟩ := elems_slice B4
  obtain ⟨b, hb⟩ : ∃ b, b = w.heap.size := ⟨_, rfl⟩
  refine calls_of_wp Tryd.func9 rfl ?_
  show Code.wp _ _ _ { tmps := (#[.agg ca, .agg cb] : Array Value) ++ Array.replicate (100 - (#[.agg ca, .agg cb] : Array Value).size) undef, defers := [] } w
  refine wp_act (fun a : Act => Act.get a 0 = .agg ca ∧ Act.get a 1 = .agg cb ∧ a.tmps.size = 100 ∧ a.defers = []) ⟨?_, ?_, ?_, rfl⟩ ?_
  · rw [get_nil_args _ _ _ (by simp)]; rfl
  · rw [get_nil_args _ _ _ (by simp)]; rfl
  · simp
  rintro a0 ⟨g0, g1, gN, gd⟩
  refine wp_seq (wp_region_lit (wpl_val rfl x_box (wpl_val rfl x_box (wpl_val rfl x_assign (wpList_nil ?_)))))
  simp (disch := (first | omega | (simp only [Act.size_put]; omega))) only [eval_tmp, Act.get_put_ne, g0, g1, Value.cells]
  obtain ⟨w1, hw1⟩ : ∃ w1, w1 = (w.alloc (.cells ca TS)).alloc (.cells cb TS) := ⟨_, rfl⟩
  have w1b : w1.heap[b]? = some (.cells ca TS (0, 0)) := by rw [hw1, hb, heap_alloc_old (by simp)]; exact heap_alloc_new _ _
  have w1z : w1.heap[b + 1]? = some (.cells cb TS (0, 0)) := by
    rw [hw1, hb]
    have := heap_alloc_new (w.alloc (.cells ca TS)) (.cells cb TS)
    simpa using this
  have w1m : Mod none' w w1 := by rw [hw1]; exact ((Mod.refl w).alloc _).alloc _
  show Code.wp _ _ _ ((((a0.put (some 2) (.pointer (some ⟨w.heap.size, 0, none⟩))).put (some 3) (.pointer (some ⟨(w.alloc (.cells ca TS)).heap.size, 0, none⟩)))).put (some 4) _) ((w.alloc (.cells ca TS)).alloc (.cells cb TS))
  rw [← hw1, ← hb, show (w.alloc (.cells ca TS)).heap.size = b + 1 by rw [hb]; simp]
  clear hw1
  refine wp_act (fun a : Act => Act.get a 2 = .pointer (some ⟨b, 0, none⟩) ∧ Act.get a 3 = .pointer (some ⟨b + 1, 0, none⟩) ∧ a.tmps.size = 100 ∧ a.defers = []) ⟨?_, ?_, ?_, ?_⟩ ?_
  · simp (disch := (first | omega | (simp only [Act.size_put]; omega))) only [Act.put_none, eval_tmp, Act.get_put_ne, Act.get_put_eq]
  · simp (disch := (first | omega | (simp only [Act.size_put]; omega))) only [Act.put_none, eval_tmp, Act.get_put_ne, Act.get_put_eq]
  · simp only [Act.size_put]; exact gN
  · simp only [Act.defers_put]; exact gd
  clear g0 g1 gN gd
  rintro a1 ⟨p2, p3, pN, pd⟩
  refine wp_seq (wp_seq (wp_region_lit (WL.out ?_)))
  refine wl_val rfl (x_fieldAddr (o := 0) (by kernel_rfl) (b := b) (o0 := 0) ?_) ?_
  · simp (disch := (first | omega | (simp only [Act.size_put]; omega))) only [Act.put_none, eval_tmp, Act.get_put_ne, Act.get_put_eq, p2]
  refine wl_val rfl (x_load1 (by kernel_rfl) (b := b) (o := 0 + 0) (v := cA 0) ?_ ?_) ?_
  · simp (disch := (first | omega | (simp only [Act.size_put]; omega))) only [Act.put_none, eval_tmp, Act.get_put_ne, Act.get_put_eq]
  · rw [cell_of_heap w1b, Nat.zero_add]; exact hca 0 (by omega)
  refine wl_val rfl (x_fieldAddr (o := 0) (by kernel_rfl) (b := (b + 1)) (o0 := 0) ?_) ?_
  · simp (disch := (first | omega | (simp only [Act.size_put]; omega))) only [Act.put_none, eval_tmp, Act.get_put_ne, Act.get_put_eq, p3]
  refine wl_val rfl (x_load1 (by kernel_rfl) (b := (b + 1)) (o := 0 + 0) (v := cB 0) ?_ ?_) ?_
  · simp (disch := (first | omega | (simp only [Act.size_put]; omega))) only [Act.put_none, eval_tmp, Act.get_put_ne, Act.get_put_eq]
  · rw [cell_of_heap w1z, Nat.zero_add]; exact hcb 0 (by omega)
  refine wl_val rfl (x_neqIs (k := .i64) (m := n) ?_ ?_) ?_
  · simp (disch := (first | omega | (simp only [Act.size_put]; omega))) only [Act.put_none, eval_tmp, Act.get_put_ne, Act.get_put_eq, A0]
  · simp (disch := (first | omega | (simp only [Act.size_put]; omega))) only [Act.put_none, eval_tmp, Act.get_put_ne, Act.get_put_eq, B0]
  refine wl_val rfl (x_moveV (v := .bool false) ?_) ?_
  · simp (disch := (first | omega | (simp only [Act.size_put]; omega))) only [Act.put_none, eval_tmp, Act.get_put_ne, Act.get_put_eq]
  refine wl_act (fun a : Act => Act.get a 2 = .pointer (some ⟨b, 0, none⟩) ∧ Act.get a 3 = .pointer (some ⟨b + 1, 0, none⟩) ∧ Act.get a 12 = .bool false ∧ a.tmps.size = 100 ∧ a.defers = []) ⟨?_, ?_, ?_, ?_, ?_⟩ ?_
  · simp (disch := (first | omega | (simp only [Act.size_put]; omega))) only [Act.put_none, eval_tmp, Act.get_put_ne, Act.get_put_eq, p2]
  · simp (disch := (first | omega | (simp only [Act.size_put]; omega))) only [Act.put_none, eval_tmp, Act.get_put_ne, Act.get_put_eq, p3]
  · simp (disch := (first | omega | (simp only [Act.size_put]; omega))) only [Act.put_none, eval_tmp, Act.get_put_ne, Act.get_put_eq]
  · simp only [Act.size_put]; exact pN
  · simp only [Act.defers_put]; exact pd
  clear p2 p3 pN pd
  rintro a2 ⟨p2, p3, pg, pN, pd⟩
  refine wl_gval (k := 5) (d := 12) (b := false) rfl (by kernel_rfl) ?_ (x_fieldAddr (o := 2) (by kernel_rfl) (b := b) (o0 := 0) ?_) ?_
  · simp (disch := (first | omega | (simp only [Act.size_put]; omega))) only [Act.put_none, eval_tmp, Act.get_put_ne, Act.get_put_eq, pg]
  · simp (disch := (first | omega | (simp only [Act.size_put]; omega))) only [Act.put_none, eval_tmp, Act.get_put_ne, Act.get_put_eq, p2]
  refine wl_gval (k := 5) (d := 12) (b := false) rfl (by kernel_rfl) ?_ (x_load1 (by kernel_rfl) (b := b) (o := 0 + 2) (v := cA 2) ?_ ?_) ?_
  · simp (disch := (first | omega | (simp only [Act.size_put]; omega))) only [Act.put_none, eval_tmp, Act.get_put_ne, Act.get_put_eq, pg]
  · simp (disch := (first | omega | (simp only [Act.size_put]; omega))) only [Act.put_none, eval_tmp, Act.get_put_ne, Act.get_put_eq]
  · rw [cell_of_heap w1b, Nat.zero_add]; exact hca 2 (by omega)
  refine wl_gval (k := 5) (d := 12) (b := false) rfl (by kernel_rfl) ?_ (x_fieldAddr (o := 2) (by kernel_rfl) (b := (b + 1)) (o0 := 0) ?_) ?_
  · simp (disch := (first | omega | (simp only [Act.size_put]; omega))) only [Act.put_none, eval_tmp, Act.get_put_ne, Act.get_put_eq, pg]
  · simp (disch := (first | omega | (simp only [Act.size_put]; omega))) only [Act.put_none, eval_tmp, Act.get_put_ne, Act.get_put_eq, p3]
  refine wl_gval (k := 5) (d := 12) (b := false) rfl (by kernel_rfl) ?_ (x_load1 (by kernel_rfl) (b := (b + 1)) (o := 0 + 2) (v := cB 2) ?_ ?_) ?_
  · simp (disch := (first | omega | (simp only [Act.size_put]; omega))) only [Act.put_none, eval_tmp, Act.get_put_ne, Act.get_put_eq, pg]
  · simp (disch := (first | omega | (simp only [Act.size_put]; omega))) only [Act.put_none, eval_tmp, Act.get_put_ne, Act.get_put_eq]
  · rw [cell_of_heap w1z, Nat.zero_add]; exact hcb 2 (by omega)
  refine wl_gval (k := 5) (d := 12) (b := false) rfl (by kernel_rfl) ?_ (x_neqBs (b := null) (by kernel_rfl) ?_ ?_) ?_
  · simp (disch := (first | omega | (simp only [Act.size_put]; omega))) only [Act.put_none, eval_tmp, Act.get_put_ne, Act.get_put_eq, pg]
  · simp (disch := (first | omega | (simp only [Act.size_put]; omega))) only [Act.put_none, eval_tmp, Act.get_put_ne, Act.get_put_eq, A2]
  · simp (disch := (first | omega | (simp only [Act.size_put]; omega))) only [Act.put_none, eval_tmp, Act.get_put_ne, Act.get_put_eq, B2]
  refine wl_val rfl (x_pickF (v := .bool false) ?_ ?_) ?_
  · simp (disch := (first | omega | (simp only [Act.size_put]; omega))) only [Act.put_none, eval_tmp, Act.get_put_ne, Act.get_put_eq, pg]
  · simp (disch := (first | omega | (simp only [Act.size_put]; omega))) only [Act.put_none, eval_tmp, Act.get_put_ne, Act.get_put_eq]
  refine wl_val rfl (x_moveV (v := .bool false) ?_) ?_
  · simp (disch := (first | omega | (simp only [Act.size_put]; omega))) only [Act.put_none, eval_tmp, Act.get_put_ne, Act.get_put_eq]
  refine wl_act (fun a : Act => Act.get a 2 = .pointer (some ⟨b, 0, none⟩) ∧ Act.get a 3 = .pointer (some ⟨b + 1, 0, none⟩) ∧ Act.get a 19 = .bool false ∧ a.tmps.size = 100 ∧ a.defers = []) ⟨?_, ?_, ?_, ?_, ?_⟩ ?_
  · simp (disch := (first | omega | (simp only [Act.size_put]; omega))) only [Act.put_none, eval_tmp, Act.get_put_ne, Act.get_put_eq, p2]
  · simp (disch := (first | omega | (simp only [Act.size_put]; omega))) only [Act.put_none, eval_tmp, Act.get_put_ne, Act.get_put_eq, p3]
  · simp (disch := (first | omega | (simp only [Act.size_put]; omega))) only [Act.put_none, eval_tmp, Act.get_put_ne, Act.get_put_eq]
  · simp only [Act.size_put]; exact pN
  · simp only [Act.defers_put]; exact pd
  clear p2 p3 pN pd pg
  rintro a2 ⟨p2, p3, pg, pN, pd⟩
  refine wl_gval (k := 12) (d := 19) (b := false) rfl (by kernel_rfl) ?_ (x_fieldAddr (o := 1) (by kernel_rfl) (b := b) (o0 := 0) ?_) ?_
  · simp (disch := (first | omega | (simp only [Act.size_put]; omega))) only [Act.put_none, eval_tmp, Act.get_put_ne, Act.get_put_eq, pg]
  · simp (disch := (first | omega | (simp only [Act.size_put]; omega))) only [Act.put_none, eval_tmp, Act.get_put_ne, Act.get_put_eq, p2]
  refine wl_gval (k := 12) (d := 19) (b := false) rfl (by kernel_rfl) ?_ (x_load1 (by kernel_rfl) (b := b) (o := 0 + 1) (v := cA 1) ?_ ?_) ?_
  · simp (disch := (first | omega | (simp only [Act.size_put]; omega))) only [Act.put_none, eval_tmp, Act.get_put_ne, Act.get_put_eq, pg]
  · simp (disch := (first | omega | (simp only [Act.size_put]; omega))) only [Act.put_none, eval_tmp, Act.get_put_ne, Act.get_put_eq]
  · rw [cell_of_heap w1b, Nat.zero_add]; exact hca 1 (by omega)
  refine wl_gval (k := 12) (d := 19) (b := false) rfl (by kernel_rfl) ?_ (x_fieldAddr (o := 1) (by kernel_rfl) (b := (b + 1)) (o0 := 0) ?_) ?_
  · simp (disch := (first | omega | (simp only [Act.size_put]; omega))) only [Act.put_none, eval_tmp, Act.get_put_ne, Act.get_put_eq, pg]
  · simp (disch := (first | omega | (simp only [Act.size_put]; omega))) only [Act.put_none, eval_tmp, Act.get_put_ne, Act.get_put_eq, p3]
  refine wl_gval (k := 12) (d := 19) (b := false) rfl (by kernel_rfl) ?_ (x_load1 (by kernel_rfl) (b := (b + 1)) (o := 0 + 1) (v := cB 1) ?_ ?_) ?_
  · simp (disch := (first | omega | (simp only [Act.size_put]; omega))) only [Act.put_none, eval_tmp, Act.get_put_ne, Act.get_put_eq, pg]
  · simp (disch := (first | omega | (simp only [Act.size_put]; omega))) only [Act.put_none, eval_tmp, Act.get_put_ne, Act.get_put_eq]
  · rw [cell_of_heap w1z, Nat.zero_add]; exact hcb 1 (by omega)
  refine wl_gcall (k := 12) (d := 19) (b := false) rfl (by kernel_rfl) ?_ (x_callf (by kernel_rfl) rfl) (R := fun e w' => e = .returned (.bool true) ∧ Mod none' w1 w') ?_ ?_
  · simp (disch := (first | omega | (simp only [Act.size_put]; omega))) only [Act.put_none, eval_tmp, Act.get_put_ne, Act.get_put_eq, pg]
  · rw [show ∀ a : Act, (#[Operand.tmp 21, Operand.tmp 23] : Array Operand).map a.eval = #[Act.get a 21, Act.get a 23] from fun a => by simp [eval_tmp]]
    simp (disch := (first | omega | (simp only [Act.size_put]; omega))) only [Act.put_none, eval_tmp, Act.get_put_ne, Act.get_put_eq]
    exact same_spec (A1.mod (S := none') w1m (fun _ _ f => f) (fun _ h => h)) (B1.mod (S := none') w1m (fun _ _ f => f) (fun _ h => h))
  rintro e w2 ⟨rfl, w2m⟩
  refine ⟨_, rfl, ?_⟩
  replace w1b := w2m.some w1b (fun f => f)
  replace w1z := w2m.some w1z (fun f => f)
  replace w1m := w1m.trans w2m
  clear w2m
  refine wl_gval (k := 12) (d := 19) (b := false) rfl (by kernel_rfl) ?_ (x_notV (b := true) (c := false) ?_ rfl) ?_
  · simp (disch := (first | omega | (simp only [Act.size_put]; omega))) only [Act.put_none, eval_tmp, Act.get_put_ne, Act.get_put_eq, pg]
  · simp (disch := (first | omega | (simp only [Act.size_put]; omega))) only [Act.put_none, eval_tmp, Act.get_put_ne, Act.get_put_eq]
  refine wl_val rfl (x_pickF (v := .bool false) ?_ ?_) ?_
  · simp (disch := (first | omega | (simp only [Act.size_put]; omega))) only [Act.put_none, eval_tmp, Act.get_put_ne, Act.get_put_eq, pg]
  · simp (disch := (first | omega | (simp only [Act.size_put]; omega))) only [Act.put_none, eval_tmp, Act.get_put_ne, Act.get_put_eq]
  refine wl_val rfl (x_moveV (v := .bool false) ?_) ?_
  · simp (disch := (first | omega | (simp only [Act.size_put]; omega))) only [Act.put_none, eval_tmp, Act.get_put_ne, Act.get_put_eq]
  refine wl_act (fun a : Act => Act.get a 2 = .pointer (some ⟨b, 0, none⟩) ∧ Act.get a 3 = .pointer (some ⟨b + 1, 0, none⟩) ∧ Act.get a 27 = .bool false ∧ a.tmps.size = 100 ∧ a.defers = []) ⟨?_, ?_, ?_, ?_, ?_⟩ ?_
  · simp (disch := (first | omega | (simp only [Act.size_put]; omega))) only [Act.put_none, eval_tmp, Act.get_put_ne, Act.get_put_eq, p2]
  · simp (disch := (first | omega | (simp only [Act.size_put]; omega))) only [Act.put_none, eval_tmp, Act.get_put_ne, Act.get_put_eq, p3]
  · simp (disch := (first | omega | (simp only [Act.size_put]; omega))) only [Act.put_none, eval_tmp, Act.get_put_ne, Act.get_put_eq]
  · simp only [Act.size_put]; exact pN
  · simp only [Act.defers_put]; exact pd
  clear p2 p3 pN pd pg
  rintro a2 ⟨p2, p3, pg, pN, pd⟩
  refine wl_gval (k := 20) (d := 27) (b := false) rfl (by kernel_rfl) ?_ (x_fieldAddr (o := 3) (by kernel_rfl) (b := b) (o0 := 0) ?_) ?_
  · simp (disch := (first | omega | (simp only [Act.size_put]; omega))) only [Act.put_none, eval_tmp, Act.get_put_ne, Act.get_put_eq, pg]
  · simp (disch := (first | omega | (simp only [Act.size_put]; omega))) only [Act.put_none, eval_tmp, Act.get_put_ne, Act.get_put_eq, p2]
  refine wl_gval (k := 20) (d := 27) (b := false) rfl (by kernel_rfl) ?_ (x_load1 (by kernel_rfl) (b := b) (o := 0 + 3) (v := cA 3) ?_ ?_) ?_
  · simp (disch := (first | omega | (simp only [Act.size_put]; omega))) only [Act.put_none, eval_tmp, Act.get_put_ne, Act.get_put_eq, pg]
  · simp (disch := (first | omega | (simp only [Act.size_put]; omega))) only [Act.put_none, eval_tmp, Act.get_put_ne, Act.get_put_eq]
  · rw [cell_of_heap w1b, Nat.zero_add]; exact hca 3 (by omega)
  refine wl_gval (k := 20) (d := 27) (b := false) rfl (by kernel_rfl) ?_ (x_len (by kernel_rfl) rfl (ao := aoA3) (cap := capA3) (n := l.length) ?_) ?_
  · simp (disch := (first | omega | (simp only [Act.size_put]; omega))) only [Act.put_none, eval_tmp, Act.get_put_ne, Act.get_put_eq, pg]
  · rw [eval_tmp, ← hA3]; simp (disch := (first | omega | (simp only [Act.size_put]; omega))) only [Act.put_none, eval_tmp, Act.get_put_ne, Act.get_put_eq]
  refine wl_gval (k := 20) (d := 27) (b := false) rfl (by kernel_rfl) ?_ (x_fieldAddr (o := 3) (by kernel_rfl) (b := (b + 1)) (o0 := 0) ?_) ?_
  · simp (disch := (first | omega | (simp only [Act.size_put]; omega))) only [Act.put_none, eval_tmp, Act.get_put_ne, Act.get_put_eq, pg]
  · simp (disch := (first | omega | (simp only [Act.size_put]; omega))) only [Act.put_none, eval_tmp, Act.get_put_ne, Act.get_put_eq, p3]
  refine wl_gval (k := 20) (d := 27) (b := false) rfl (by kernel_rfl) ?_ (x_load1 (by kernel_rfl) (b := (b + 1)) (o := 0 + 3) (v := cB 3) ?_ ?_) ?_
  · simp (disch := (first | omega | (simp only [Act.size_put]; omega))) only [Act.put_none, eval_tmp, Act.get_put_ne, Act.get_put_eq, pg]
  · simp (disch := (first | omega | (simp only [Act.size_put]; omega))) only [Act.put_none, eval_tmp, Act.get_put_ne, Act.get_put_eq]
  · rw [cell_of_heap w1z, Nat.zero_add]; exact hcb 3 (by omega)
  refine wl_gval (k := 20) (d := 27) (b := false) rfl (by kernel_rfl) ?_ (x_len (by kernel_rfl) rfl (ao := aoB3) (cap := capB3) (n := l.length) ?_) ?_
  · simp (disch := (first | omega | (simp only [Act.size_put]; omega))) only [Act.put_none, eval_tmp, Act.get_put_ne, Act.get_put_eq, pg]
  · rw [eval_tmp, ← hB3]; simp (disch := (first | omega | (simp only [Act.size_put]; omega))) only [Act.put_none, eval_tmp, Act.get_put_ne, Act.get_put_eq]
  refine wl_gval (k := 20) (d := 27) (b := false) rfl (by kernel_rfl) ?_ (x_neqIs (k := .i64) (m := l.length) ?_ ?_) ?_
  · simp (disch := (first | omega | (simp only [Act.size_put]; omega))) only [Act.put_none, eval_tmp, Act.get_put_ne, Act.get_put_eq, pg]
  · simp (disch := (first | omega | (simp only [Act.size_put]; omega))) only [Act.put_none, eval_tmp, Act.get_put_ne, Act.get_put_eq]
  · simp (disch := (first | omega | (simp only [Act.size_put]; omega))) only [Act.put_none, eval_tmp, Act.get_put_ne, Act.get_put_eq]
  refine wl_val rfl (x_pickF (v := .bool false) ?_ ?_) ?_
  · simp (disch := (first | omega | (simp only [Act.size_put]; omega))) only [Act.put_none, eval_tmp, Act.get_put_ne, Act.get_put_eq, pg]
  · simp (disch := (first | omega | (simp only [Act.size_put]; omega))) only [Act.put_none, eval_tmp, Act.get_put_ne, Act.get_put_eq]
  refine wl_val rfl (x_moveV (v := .bool false) ?_) ?_
  · simp (disch := (first | omega | (simp only [Act.size_put]; omega))) only [Act.put_none, eval_tmp, Act.get_put_ne, Act.get_put_eq]
  refine wl_act (fun a : Act => Act.get a 2 = .pointer (some ⟨b, 0, none⟩) ∧ Act.get a 3 = .pointer (some ⟨b + 1, 0, none⟩) ∧ Act.get a 36 = .bool false ∧ a.tmps.size = 100 ∧ a.defers = []) ⟨?_, ?_, ?_, ?_, ?_⟩ ?_
  · simp (disch := (first | omega | (simp only [Act.size_put]; omega))) only [Act.put_none, eval_tmp, Act.get_put_ne, Act.get_put_eq, p2]
  · simp (disch := (first | omega | (simp only [Act.size_put]; omega))) only [Act.put_none, eval_tmp, Act.get_put_ne, Act.get_put_eq, p3]
  · simp (disch := (first | omega | (simp only [Act.size_put]; omega))) only [Act.put_none, eval_tmp, Act.get_put_ne, Act.get_put_eq]
  · simp only [Act.size_put]; exact pN
  · simp only [Act.defers_put]; exact pd
  clear p2 p3 pN pd pg
  rintro a2 ⟨p2, p3, pg, pN, pd⟩
  refine wl_gval (k := 29) (d := 36) (b := false) rfl (by kernel_rfl) ?_ (x_fieldAddr (o := 4) (by kernel_rfl) (b := b) (o0 := 0) ?_) ?_
  · simp (disch := (first | omega | (simp only [Act.size_put]; omega))) only [Act.put_none, eval_tmp, Act.get_put_ne, Act.get_put_eq, pg]
  · simp (disch := (first | omega | (simp only [Act.size_put]; omega))) only [Act.put_none, eval_tmp, Act.get_put_ne, Act.get_put_eq, p2]
  refine wl_gval (k := 29) (d := 36) (b := false) rfl (by kernel_rfl) ?_ (x_load1 (by kernel_rfl) (b := b) (o := 0 + 4) (v := cA 4) ?_ ?_) ?_
  · simp (disch := (first | omega | (simp only [Act.size_put]; omega))) only [Act.put_none, eval_tmp, Act.get_put_ne, Act.get_put_eq, pg]
  · simp (disch := (first | omega | (simp only [Act.size_put]; omega))) only [Act.put_none, eval_tmp, Act.get_put_ne, Act.get_put_eq]
  · rw [cell_of_heap w1b, Nat.zero_add]; exact hca 4 (by omega)
  refine wl_gval (k := 29) (d := 36) (b := false) rfl (by kernel_rfl) ?_ (x_len (by kernel_rfl) rfl (ao := aoA4) (cap := capA4) (n := u.length) ?_) ?_
  · simp (disch := (first | omega | (simp only [Act.size_put]; omega))) only [Act.put_none, eval_tmp, Act.get_put_ne, Act.get_put_eq, pg]
  · rw [eval_tmp, ← hA4]; simp (disch := (first | omega | (simp only [Act.size_put]; omega))) only [Act.put_none, eval_tmp, Act.get_put_ne, Act.get_put_eq]
  refine wl_gval (k := 29) (d := 36) (b := false) rfl (by kernel_rfl) ?_ (x_fieldAddr (o := 4) (by kernel_rfl) (b := (b + 1)) (o0 := 0) ?_) ?_
  · simp (disch := (first | omega | (simp only [Act.size_put]; omega))) only [Act.put_none, eval_tmp, Act.get_put_ne, Act.get_put_eq, pg]
  · simp (disch := (first | omega | (simp only [Act.size_put]; omega))) only [Act.put_none, eval_tmp, Act.get_put_ne, Act.get_put_eq, p3]
  refine wl_gval (k := 29) (d := 36) (b := false) rfl (by kernel_rfl) ?_ (x_load1 (by kernel_rfl) (b := (b + 1)) (o := 0 + 4) (v := cB 4) ?_ ?_) ?_
  · simp (disch := (first | omega | (simp only [Act.size_put]; omega))) only [Act.put_none, eval_tmp, Act.get_put_ne, Act.get_put_eq, pg]
  · simp (disch := (first | omega | (simp only [Act.size_put]; omega))) only [Act.put_none, eval_tmp, Act.get_put_ne, Act.get_put_eq]
  · rw [cell_of_heap w1z, Nat.zero_add]; exact hcb 4 (by omega)
  refine wl_gval (k := 29) (d := 36) (b := false) rfl (by kernel_rfl) ?_ (x_len (by kernel_rfl) rfl (ao := aoB4) (cap := capB4) (n := u.length) ?_) ?_
  · simp (disch := (first | omega | (simp only [Act.size_put]; omega))) only [Act.put_none, eval_tmp, Act.get_put_ne, Act.get_put_eq, pg]
  · rw [eval_tmp, ← hB4]; simp (disch := (first | omega | (simp only [Act.size_put]; omega))) only [Act.put_none, eval_tmp, Act.get_put_ne, Act.get_put_eq]
  refine wl_gval (k := 29) (d := 36) (b := false) rfl (by kernel_rfl) ?_ (x_neqIs (k := .i64) (m := u.length) ?_ ?_) ?_
  · simp (disch := (first | omega | (simp only [Act.size_put]; omega))) only [Act.put_none, eval_tmp, Act.get_put_ne, Act.get_put_eq, pg]
  · simp (disch := (first | omega | (simp only [Act.size_put]; omega))) only [Act.put_none, eval_tmp, Act.get_put_ne, Act.get_put_eq]
  · simp (disch := (first | omega | (simp only [Act.size_put]; omega))) only [Act.put_none, eval_tmp, Act.get_put_ne, Act.get_put_eq]
  refine wl_val rfl (x_pickF (v := .bool false) ?_ ?_) (wl_nil ?_)
  · simp (disch := (first | omega | (simp only [Act.size_put]; omega))) only [Act.put_none, eval_tmp, Act.get_put_ne, Act.get_put_eq, pg]
  · simp (disch := (first | omega | (simp only [Act.size_put]; omega))) only [Act.put_none, eval_tmp, Act.get_put_ne, Act.get_put_eq]
  refine wp_cond_false ?_ (wp_skip ?_)
  · simp (disch := (first | omega | (simp only [Act.size_put]; omega))) only [Act.put_none, eval_tmp, Act.get_put_ne, Act.get_put_eq]
  refine wp_act (fun a : Act => Act.get a 2 = .pointer (some ⟨b, 0, none⟩) ∧ Act.get a 3 = .pointer (some ⟨b + 1, 0, none⟩) ∧ a.tmps.size = 100 ∧ a.defers = []) ⟨?_, ?_, ?_, ?_⟩ ?_
  · simp (disch := (first | omega | (simp only [Act.size_put]; omega))) only [Act.put_none, eval_tmp, Act.get_put_ne, Act.get_put_eq, p2]
  · simp (disch := (first | omega | (simp only [Act.size_put]; omega))) only [Act.put_none, eval_tmp, Act.get_put_ne, Act.get_put_eq, p3]
  · simp only [Act.size_put]; exact pN
  · simp only [Act.defers_put]; exact pd
  clear p2 p3 pg pN pd
  rintro a3 ⟨p2, p3, pN, pd⟩
  -- region 3 and the loop over the parts
  refine wp_seq (wp_seq (wp_region_lit ?_))
  refine wpl_val rfl (x_fieldAddr (o := 3) (by kernel_rfl) (b := b) (o0 := 0) ?_) ?_
  · simp (disch := (first | omega | (simp only [Act.size_put]; omega))) only [Act.put_none, eval_tmp, Act.get_put_ne, Act.get_put_eq, p2]
  refine wpl_val rfl (x_load1 (by kernel_rfl) (b := b) (o := 0 + 3) (v := cA 3) ?_ ?_) ?_
  · simp (disch := (first | omega | (simp only [Act.size_put]; omega))) only [Act.put_none, eval_tmp, Act.get_put_ne, Act.get_put_eq]
  · rw [cell_of_heap w1b, Nat.zero_add]; exact hca 3 (by omega)
  refine wpl_val rfl (x_len (by kernel_rfl) rfl (ao := aoA3) (cap := capA3) (n := l.length) ?_) ?_
  · rw [eval_tmp, ← hA3]; simp (disch := (first | omega | (simp only [Act.size_put]; omega))) only [Act.put_none, eval_tmp, Act.get_put_ne, Act.get_put_eq]
  refine wpl_val rfl x_move (wpList_nil ?_)
  refine wp_block ?_
  refine wp_loop (fun a w' => a.tmps.size = 100 ∧ a.defers = [] ∧ Act.get a 2 = .pointer (some ⟨b, 0, none⟩) ∧ Act.get a 3 = .pointer (some ⟨b + 1, 0, none⟩) ∧ Act.get a 47 = .int .i64 l.length ∧ Mod none' w2 w' ∧ ∃ i, i ≤ l.length ∧ Act.get a 48 = .int .i64 (i : Nat)) (fun a _ => lenN l.length (Act.get a 48)) ⟨?_, ?_, ?_, ?_, ?_, .refl _, 0, Nat.zero_le _, ?_⟩ ?_
  · simp only [Act.size_put]; exact pN
  · simp only [Act.defers_put]; exact pd
  · simp (disch := (first | omega | (simp only [Act.size_put]; omega))) only [Act.put_none, eval_tmp, Act.get_put_ne, Act.get_put_eq, p2]
  · simp (disch := (first | omega | (simp only [Act.size_put]; omega))) only [Act.put_none, eval_tmp, Act.get_put_ne, Act.get_put_eq, p3]
  · simp (disch := (first | omega | (simp only [Act.size_put]; omega))) only [Act.put_none, eval_tmp, Act.get_put_ne, Act.get_put_eq]
  · simp (disch := (first | omega | (simp only [Act.size_put]; omega))) only [Act.put_none, eval_tmp, Act.get_put_ne, Act.get_put_eq]
    rfl
  clear p2 p3 pN pd
  rintro a w' ⟨aN, ad, p2, p3, p47, hm, i, hi, p48⟩
  refine wp_seq (wp_region_lit (wpl_val rfl (x_lss (k := .i64) (m := (i : Nat)) (n := (l.length : Nat)) ?_ ?_) (wpList_nil ?_)))
  · exact p48
  · exact p47
  by_cases hil : i < l.length
  case pos =>
    refine wp_seq (wp_cond_true ?_ (wp_skip ?_))
    · rw [eval_tmp, Act.get_put_eq (by omega)]; simp; omega
    obtain ⟨kA, oA, CA, tA, frA, eA, hhA, heA⟩ := hA3e (by omega)
    obtain ⟨kB, oB, CB, tB, frB, eB, hhB, heB⟩ := hB3e (by omega)
    have hhA' := (w1m.trans hm).some hhA (fun f => f)
    have hhB' := (w1m.trans hm).some hhB (fun f => f)
    refine wp_seq (wp_block (wp_seq (wp_region_lit (wpl_val rfl x_move (wpl_val rfl x_assign (wpList_nil ?_))))))
    refine wp_act (fun a : Act => Act.get a 2 = .pointer (some ⟨b, 0, none⟩) ∧ Act.get a 3 = .pointer (some ⟨b + 1, 0, none⟩) ∧ Act.get a 47 = .int .i64 l.length ∧ Act.get a 48 = .int .i64 (i : Nat) ∧ Act.get a 5 = .int .i64 (i : Nat) ∧ a.tmps.size = 100 ∧ a.defers = []) ⟨?_, ?_, ?_, ?_, ?_, ?_, ?_⟩ ?_
    · simp (disch := (first | omega | (simp only [Act.size_put]; omega))) only [Act.put_none, eval_tmp, Act.get_put_ne, Act.get_put_eq, p2]
    · simp (disch := (first | omega | (simp only [Act.size_put]; omega))) only [Act.put_none, eval_tmp, Act.get_put_ne, Act.get_put_eq, p3]
    · simp (disch := (first | omega | (simp only [Act.size_put]; omega))) only [Act.put_none, eval_tmp, Act.get_put_ne, Act.get_put_eq, p47]
    · simp (disch := (first | omega | (simp only [Act.size_put]; omega))) only [Act.put_none, eval_tmp, Act.get_put_ne, Act.get_put_eq, p48]
    · simp (disch := (first | omega | (simp only [Act.size_put]; omega))) only [Act.put_none, eval_tmp, Act.get_put_ne, Act.get_put_eq, p48]
    · simp only [Act.size_put]; exact aN
    · simp only [Act.defers_put]; exact ad
    rintro a1 ⟨q2, q3, q47, q48, q5, qN, qd⟩
    have p48' := p48
    clear aN ad p2 p3 p47 p48
    refine wp_seq (region_vals (l := [_, _, _, _, _, _, _, _, _, _, _]) (tl := [_]) rfl [51, 52, 53, 54, 55, 56, 57, 58, 59, 60, 61]
      [.pointer (some ⟨b, 0 + 3, none⟩), cA 3, .int .i64 (i : Nat), .pointer (some ⟨kA, oA + i * 5, none⟩), .agg #[fA i 0, fA i 1, fA i 2, fA i 3, fA i 4],
       .pointer (some ⟨b + 1, 0 + 3, none⟩), cB 3, .int .i64 (i : Nat), .pointer (some ⟨kB, oB + i * 5, none⟩), .agg #[fB i 0, fB i 1, fB i 2, fB i 3, fB i 4], .bool true] rfl rfl (by decide) (by simp [qN]) (by simp) (by kernel_rfl) ⟨?_, ?_, ?_, ?_, ?_, ?_, ?_, ?_, ?_, ?_, ?_, trivial⟩ ?_)
    · intro a2 v2 hr hs hd
      exact vstep_val rfl rfl (x_fieldAddr (o := 3) (by kernel_rfl) (b := b) (o0 := 0) ((hs.get 2 (by decide)).trans q2))
    · intro a2 v2 hr hs hd
      have d0 : Act.get a2 51 = .pointer (some ⟨b, 0 + 3, none⟩) := hd ⟨0, .data⟩ (by simp) rfl
      exact vstep_val rfl rfl (x_load1 (by kernel_rfl) (b := b) (o := 0 + 3) d0 (by rw [cell_of_heap ((hm.trans hr).some w1b (fun f => f)), Nat.zero_add]; exact hca 3 (by omega)))
    · intro a2 v2 hr hs hd
      exact vstep_val rfl rfl (by rw [show Value.int .i64 (i : Nat) = a2.eval (.tmp 5) from ((hs.get 5 (by decide)).trans q5).symm]; exact x_move)
    · intro a2 v2 hr hs hd
      have d0 : Act.get a2 52 = cA 3 := hd ⟨1, .data⟩ (by simp) rfl
      have d1 : Act.get a2 53 = .int .i64 (i : Nat) := hd ⟨2, .data⟩ (by simp) rfl
      exact vstep_val rfl rfl (x_indexAddr (sz := 5) (i := i) (b := kA) (o := oA) (n := l.length) (cap := capA3) (k := .i64) (by kernel_rfl) (d0.trans (hA3.trans (by rw [eA]))) d1 hil)
    · intro a2 v2 hr hs hd
      have d2 : Act.get a2 54 = .pointer (some ⟨kA, oA + i * 5, none⟩) := hd ⟨3, .data⟩ (by simp) rfl
      exact vstep_val rfl rfl (x_loadN (cs := [fA i 0, fA i 1, fA i 2, fA i 3, fA i 4]) (b := kA) (o := oA + i * 5) (by kernel_rfl) d2 (range5 fun j hj => by rw [cell_of_heap (hr.some hhA' (fun f => f))]; exact heA i hil j hj))
    · intro a2 v2 hr hs hd
      exact vstep_val rfl rfl (x_fieldAddr (o := 3) (by kernel_rfl) (b := b + 1) (o0 := 0) ((hs.get 3 (by decide)).trans q3))
    · intro a2 v2 hr hs hd
      have d0 : Act.get a2 56 = .pointer (some ⟨b + 1, 0 + 3, none⟩) := hd ⟨5, .data⟩ (by simp) rfl
      exact vstep_val rfl rfl (x_load1 (by kernel_rfl) (b := b + 1) (o := 0 + 3) d0 (by rw [cell_of_heap ((hm.trans hr).some w1z (fun f => f)), Nat.zero_add]; exact hcb 3 (by omega)))
    · intro a2 v2 hr hs hd
      exact vstep_val rfl rfl (by rw [show Value.int .i64 (i : Nat) = a2.eval (.tmp 5) from ((hs.get 5 (by decide)).trans q5).symm]; exact x_move)
    · intro a2 v2 hr hs hd
      have d0 : Act.get a2 57 = cB 3 := hd ⟨6, .data⟩ (by simp) rfl
      have d1 : Act.get a2 58 = .int .i64 (i : Nat) := hd ⟨7, .data⟩ (by simp) rfl
      exact vstep_val rfl rfl (x_indexAddr (sz := 5) (i := i) (b := kB) (o := oB) (n := l.length) (cap := capB3) (k := .i64) (by kernel_rfl) (d0.trans (hB3.trans (by rw [eB]))) d1 hil)
    · intro a2 v2 hr hs hd
      have d2 : Act.get a2 59 = .pointer (some ⟨kB, oB + i * 5, none⟩) := hd ⟨8, .data⟩ (by simp) rfl
      exact vstep_val rfl rfl (x_loadN (cs := [fB i 0, fB i 1, fB i 2, fB i 3, fB i 4]) (b := kB) (o := oB + i * 5) (by kernel_rfl) d2 (range5 fun j hj => by rw [cell_of_heap (hr.some hhB' (fun f => f))]; exact heB i hil j hj))
    · intro a2 v2 hr hs hd
      have d4 : Act.get a2 55 = .agg #[fA i 0, fA i 1, fA i 2, fA i 3, fA i 4] := hd ⟨4, .data⟩ (by simp) rfl
      have d9 : Act.get a2 60 = .agg #[fB i 0, fB i 1, fB i 2, fB i 3, fB i 4] := hd ⟨9, .data⟩ (by simp) rfl
      have hmm := (w1m.trans hm).trans hr
      refine ⟨rfl, owp_call (x_callf (by kernel_rfl) rfl) (R := fun e w' => e = .returned (.bool true) ∧ Mod none' v2 w') ?_ ?_⟩
      · rw [show ∀ a : Act, (#[Operand.tmp 55, Operand.tmp 60] : Array Operand).map a.eval = #[Act.get a 55, Act.get a 60] from fun a => by simp [eval_tmp], d4, d9]
        exact ihN l[i] (by have := List.sizeOf_lt_of_mem (List.getElem_mem hil); simp only [Tr.mk.sizeOf_spec] at ht; omega) _ _ v2 F F' rfl rfl (((A3' i hil).mod hmm (fun _ _ f => f) (fun _ h => h)).congr (from5 (fA i))) (((B3' i hil).mod hmm (fun _ _ f => f) (fun _ h => h)).congr (from5 (fB i)))
      · rintro e w3 ⟨rfl, h3⟩
        exact ⟨_, rfl, rfl, h3⟩
    intro a2 v2 hr hs hh
    have d3 : Act.get a2 61 = .bool true := hh 10 (by decide)
    have zN : a2.tmps.size = 100 := hs.size.trans qN
    refine wpl_val rfl (x_not d3) (wpList_nil ?_)
    refine wp_cond_false ?_ (wp_skip ?_)
    · simp (disch := (first | omega | (simp only [Act.size_put]; omega))) only [Act.put_none, eval_tmp, Act.get_put_ne, Act.get_put_eq]
      simp
    simp only [Exit.then, Exit.inBlock]
    have hbz : ∀ t, t ∉ [51, 52, 53, 54, 55, 56, 57, 58, 59, 60, 61] → Act.get a2 t = Act.get a1 t := fun t ht => hs.get t ht
    refine wp_region_lit (wpl_val rfl (x_add (k := .i64) (m := (i : Nat)) (n := 1) ?_ rfl) (wpl_val rfl x_move (wpList_nil ?_)))
    · simp (disch := (first | omega | (simp only [Act.size_put]; omega))) only [Act.put_none, eval_tmp, Act.get_put_ne, Act.get_put_eq, hbz 48 (by decide)]
      exact q48
    have hwrap : IntKind.i64.wrap ((i : Int) + 1) = ((i + 1 : Nat) : Int) := by rw [IntKind.wrap_i64]; omega
    refine ⟨⟨?_, ?_, ?_, ?_, ?_, hm.trans hr, i + 1, by omega, ?_⟩, ?_⟩
    · simp only [Act.size_put]; exact zN
    · simp only [Act.defers_put]; exact hs.defers.trans qd
    · simp (disch := (first | omega | (simp only [Act.size_put]; omega))) only [Act.put_none, eval_tmp, Act.get_put_ne, Act.get_put_eq, hbz 2 (by decide), q2]
    · simp (disch := (first | omega | (simp only [Act.size_put]; omega))) only [Act.put_none, eval_tmp, Act.get_put_ne, Act.get_put_eq, hbz 3 (by decide), q3]
    · simp (disch := (first | omega | (simp only [Act.size_put]; omega))) only [Act.put_none, eval_tmp, Act.get_put_ne, Act.get_put_eq, hbz 47 (by decide), q47]
    · simp (disch := (first | omega | (simp only [Act.size_put]; omega))) only [Act.put_none, eval_tmp, Act.get_put_ne, Act.get_put_eq]
      rw [hwrap]
    · simp (disch := (first | omega | (simp only [Act.size_put]; omega))) only [Act.put_none, eval_tmp, Act.get_put_ne, Act.get_put_eq]
      rw [hwrap, p48']
      simp only [lenN, Int.toNat_natCast]
      omega
  case neg =>
  refine wp_seq (wp_cond_false ?_ (wp_exit ?_))
  · rw [eval_tmp, Act.get_put_eq (by omega)]; simp; omega
  simp only [Exit.then, Exit.inBlock, if_true]
  refine wp_act (fun a : Act => Act.get a 2 = .pointer (some ⟨b, 0, none⟩) ∧ Act.get a 3 = .pointer (some ⟨b + 1, 0, none⟩) ∧ a.tmps.size = 100 ∧ a.defers = []) ⟨?_, ?_, ?_, ?_⟩ ?_
  · simp (disch := (first | omega | (simp only [Act.size_put]; omega))) only [Act.put_none, eval_tmp, Act.get_put_ne, Act.get_put_eq, p2]
  · simp (disch := (first | omega | (simp only [Act.size_put]; omega))) only [Act.put_none, eval_tmp, Act.get_put_ne, Act.get_put_eq, p3]
  · simp only [Act.size_put]; exact aN
  · simp only [Act.defers_put]; exact ad
  clear p2 p3 aN ad p47 p48 hil hi
  replace w1b := hm.some w1b (fun f => f)
  replace w1z := hm.some w1z (fun f => f)
  replace w1m := w1m.trans hm
  clear hm i
  rintro a3 ⟨p2, p3, pN, pd⟩
  refine wp_seq (wp_seq (wp_region_lit ?_))
  refine wpl_val rfl (x_fieldAddr (o := 4) (by kernel_rfl) (b := b) (o0 := 0) ?_) ?_
  · simp (disch := (first | omega | (simp only [Act.size_put]; omega))) only [Act.put_none, eval_tmp, Act.get_put_ne, Act.get_put_eq, p2]
  refine wpl_val rfl (x_load1 (by kernel_rfl) (b := b) (o := 0 + 4) (v := cA 4) ?_ ?_) ?_
  · simp (disch := (first | omega | (simp only [Act.size_put]; omega))) only [Act.put_none, eval_tmp, Act.get_put_ne, Act.get_put_eq]
  · rw [cell_of_heap w1b, Nat.zero_add]; exact hca 4 (by omega)
  refine wpl_val rfl (x_len (by kernel_rfl) rfl (ao := aoA4) (cap := capA4) (n := u.length) ?_) ?_
  · rw [eval_tmp, ← hA4]; simp (disch := (first | omega | (simp only [Act.size_put]; omega))) only [Act.put_none, eval_tmp, Act.get_put_ne, Act.get_put_eq]
  refine wpl_val rfl x_move (wpList_nil ?_)
  refine wp_block ?_
  refine wp_loop (fun a w1 => a.tmps.size = 100 ∧ a.defers = [] ∧ Act.get a 2 = .pointer (some ⟨b, 0, none⟩) ∧ Act.get a 3 = .pointer (some ⟨b + 1, 0, none⟩) ∧ Act.get a 66 = .int .i64 u.length ∧ Mod none' w' w1 ∧ ∃ i, i ≤ u.length ∧ Act.get a 67 = .int .i64 (i : Nat)) (fun a _ => lenN u.length (Act.get a 67)) ⟨?_, ?_, ?_, ?_, ?_, .refl _, 0, Nat.zero_le _, ?_⟩ ?_
  · simp only [Act.size_put]; exact pN
  · simp only [Act.defers_put]; exact pd
  · simp (disch := (first | omega | (simp only [Act.size_put]; omega))) only [Act.put_none, eval_tmp, Act.get_put_ne, Act.get_put_eq, p2]
  · simp (disch := (first | omega | (simp only [Act.size_put]; omega))) only [Act.put_none, eval_tmp, Act.get_put_ne, Act.get_put_eq, p3]
  · simp (disch := (first | omega | (simp only [Act.size_put]; omega))) only [Act.put_none, eval_tmp, Act.get_put_ne, Act.get_put_eq]
  · simp (disch := (first | omega | (simp only [Act.size_put]; omega))) only [Act.put_none, eval_tmp, Act.get_put_ne, Act.get_put_eq]
    rfl
  clear p2 p3 pN pd
  rintro a w4 ⟨aN, ad, p2, p3, p66, hm, i, hi, p67⟩
  refine wp_seq (wp_region_lit (wpl_val rfl (x_lss (k := .i64) (m := (i : Nat)) (n := (u.length : Nat)) ?_ ?_) (wpList_nil ?_)))
  · exact p67
  · exact p66
  by_cases hil : i < u.length
  case neg =>
    refine wp_seq (wp_cond_false ?_ (wp_exit ?_))
    · rw [eval_tmp, Act.get_put_eq (by omega)]; simp; omega
    simp only [Exit.then, Exit.inBlock, if_true]
    refine wp_seq (wp_region_lit (wpl_val rfl x_assign (wpList_nil (wp_ret (bodyPost_ret (results_tmp rfl _ _ _) ?_ ⟨?_, w1m.trans hm⟩)))))
    · simp only [Act.defers_put]; exact ad
    · show Ending.returned (Act.get _ 4) = _
      simp (disch := (first | omega | (simp only [Act.size_put]; omega))) only [Act.put_none, eval_tmp, Act.get_put_ne, Act.get_put_eq]
      rfl
  case pos =>
    refine wp_seq (wp_cond_true ?_ (wp_skip ?_))
    · rw [eval_tmp, Act.get_put_eq (by omega)]; simp; omega
    obtain ⟨kA, oA, CA, tA, frA, eA, hhA, heA⟩ := hA4e (by omega)
    obtain ⟨kB, oB, CB, tB, frB, eB, hhB, heB⟩ := hB4e (by omega)
    have hhA' := (w1m.trans hm).some hhA (fun f => f)
    have hhB' := (w1m.trans hm).some hhB (fun f => f)
    obtain ⟨tA0, tA1, nA, tA2⟩ := A4' i hil
    obtain ⟨tB0, tB1, nB, tB2⟩ := B4' i hil
    refine wp_seq (wp_block (wp_seq (wp_region_lit (wpl_val rfl x_move (wpl_val rfl x_assign (wpList_nil ?_))))))
    refine wp_act (fun a : Act => Act.get a 2 = .pointer (some ⟨b, 0, none⟩) ∧ Act.get a 3 = .pointer (some ⟨b + 1, 0, none⟩) ∧ Act.get a 66 = .int .i64 u.length ∧ Act.get a 67 = .int .i64 (i : Nat) ∧ Act.get a 6 = .int .i64 (i : Nat) ∧ a.tmps.size = 100 ∧ a.defers = []) ⟨?_, ?_, ?_, ?_, ?_, ?_, ?_⟩ ?_
    · simp (disch := (first | omega | (simp only [Act.size_put]; omega))) only [Act.put_none, eval_tmp, Act.get_put_ne, Act.get_put_eq, p2]
    · simp (disch := (first | omega | (simp only [Act.size_put]; omega))) only [Act.put_none, eval_tmp, Act.get_put_ne, Act.get_put_eq, p3]
    · simp (disch := (first | omega | (simp only [Act.size_put]; omega))) only [Act.put_none, eval_tmp, Act.get_put_ne, Act.get_put_eq, p66]
    · simp (disch := (first | omega | (simp only [Act.size_put]; omega))) only [Act.put_none, eval_tmp, Act.get_put_ne, Act.get_put_eq, p67]
    · simp (disch := (first | omega | (simp only [Act.size_put]; omega))) only [Act.put_none, eval_tmp, Act.get_put_ne, Act.get_put_eq, p67]
    · simp only [Act.size_put]; exact aN
    · simp only [Act.defers_put]; exact ad
    rintro a1 ⟨q2, q3, q66, q67, q6, qN, qd⟩
    have p67' := p67
    clear aN ad p2 p3 p66 p67
    refine wp_seq (region_vals (l := [_, _, _, _, _, _, _, _, _, _, _, _, _, _, _, _, _, _, _, _, _, _, _, _, _, _, _, _]) (tl := [_]) rfl [70, 71, 72, 73, 74, 75, 76, 77, 78, 79, 80, 81, 82, 83, 84, 85, 86, 87, 88, 89, 90, 91, 92, 93, 94, 95, 96, 97]
      [.pointer (some ⟨b, 0 + 4, none⟩), cA 4, .int .i64 (i : Nat), .pointer (some ⟨kA, oA + i * 2, none⟩), .pointer (some ⟨kA, oA + i * 2 + 0, none⟩), gA i 0, .pointer (some ⟨b + 1, 0 + 4, none⟩), cB 4, .int .i64 (i : Nat), .pointer (some ⟨kB, oB + i * 2, none⟩), .pointer (some ⟨kB, oB + i * 2 + 0, none⟩), gB i 0, .bool false, .bool false, .pointer (some ⟨b, 0 + 4, none⟩), cA 4, .int .i64 (i : Nat), .pointer (some ⟨kA, oA + i * 2, none⟩), .pointer (some ⟨kA, oA + i * 2 + 1, none⟩), gA i 1, .pointer (some ⟨b + 1, 0 + 4, none⟩), cB 4, .int .i64 (i : Nat), .pointer (some ⟨kB, oB + i * 2, none⟩), .pointer (some ⟨kB, oB + i * 2 + 1, none⟩), gB i 1, .bool true, .bool false] rfl rfl (by decide) (by simp [qN]) (by simp) (by kernel_rfl) ⟨?_, ?_, ?_, ?_, ?_, ?_, ?_, ?_, ?_, ?_, ?_, ?_, ?_, ?_, ?_, ?_, ?_, ?_, ?_, ?_, ?_, ?_, ?_, ?_, ?_, ?_, ?_, ?_, trivial⟩ ?_)
    · intro a2 v2 hr hs hd
      exact vstep_val (rfl) rfl (x_fieldAddr (o := 4) (by kernel_rfl) (b := b) (o0 := 0) ((hs.get 2 (by decide)).trans q2))
    · intro a2 v2 hr hs hd
      have d0 : Act.get a2 70 = .pointer (some ⟨b, 0 + 4, none⟩) := hd ⟨0, .data⟩ (by simp) rfl
      exact vstep_val (rfl) rfl (x_load1 (by kernel_rfl) (b := b) (o := 0 + 4) d0 (by rw [cell_of_heap ((hm.trans hr).some w1b (fun f => f)), Nat.zero_add]; exact hca 4 (by omega)))
    · intro a2 v2 hr hs hd
      exact vstep_val (rfl) rfl (by rw [show Value.int .i64 (i : Nat) = a2.eval (.tmp 6) from ((hs.get 6 (by decide)).trans q6).symm]; exact x_move)
    · intro a2 v2 hr hs hd
      have d0 : Act.get a2 71 = cA 4 := hd ⟨1, .data⟩ (by simp) rfl
      have d1 : Act.get a2 72 = .int .i64 (i : Nat) := hd ⟨2, .data⟩ (by simp) rfl
      exact vstep_val (rfl) rfl (x_indexAddr (sz := 2) (i := i) (b := kA) (o := oA) (n := u.length) (cap := capA4) (k := .i64) (by kernel_rfl) (d0.trans (hA4.trans (by rw [eA]))) d1 hil)
    · intro a2 v2 hr hs hd
      have d0 : Act.get a2 73 = .pointer (some ⟨kA, oA + i * 2, none⟩) := hd ⟨3, .data⟩ (by simp) rfl
      exact vstep_val (rfl) rfl (x_fieldAddr (o := 0) (by kernel_rfl) (b := kA) (o0 := oA + i * 2) d0)
    · intro a2 v2 hr hs hd
      have d0 : Act.get a2 74 = .pointer (some ⟨kA, oA + i * 2 + 0, none⟩) := hd ⟨4, .data⟩ (by simp) rfl
      exact vstep_val (rfl) rfl (x_load1 (by kernel_rfl) (b := kA) (o := oA + i * 2 + 0) d0 (by rw [cell_of_heap (hr.some hhA' (fun f => f))]; exact heA i hil 0 (by omega)))
    · intro a2 v2 hr hs hd
      exact vstep_val (rfl) rfl (x_fieldAddr (o := 4) (by kernel_rfl) (b := b + 1) (o0 := 0) ((hs.get 3 (by decide)).trans q3))
    · intro a2 v2 hr hs hd
      have d0 : Act.get a2 76 = .pointer (some ⟨b + 1, 0 + 4, none⟩) := hd ⟨6, .data⟩ (by simp) rfl
      exact vstep_val (rfl) rfl (x_load1 (by kernel_rfl) (b := b + 1) (o := 0 + 4) d0 (by rw [cell_of_heap ((hm.trans hr).some w1z (fun f => f)), Nat.zero_add]; exact hcb 4 (by omega)))
    · intro a2 v2 hr hs hd
      exact vstep_val (rfl) rfl (by rw [show Value.int .i64 (i : Nat) = a2.eval (.tmp 6) from ((hs.get 6 (by decide)).trans q6).symm]; exact x_move)
    · intro a2 v2 hr hs hd
      have d0 : Act.get a2 77 = cB 4 := hd ⟨7, .data⟩ (by simp) rfl
      have d1 : Act.get a2 78 = .int .i64 (i : Nat) := hd ⟨8, .data⟩ (by simp) rfl
      exact vstep_val (rfl) rfl (x_indexAddr (sz := 2) (i := i) (b := kB) (o := oB) (n := u.length) (cap := capB4) (k := .i64) (by kernel_rfl) (d0.trans (hB4.trans (by rw [eB]))) d1 hil)
    · intro a2 v2 hr hs hd
      have d0 : Act.get a2 79 = .pointer (some ⟨kB, oB + i * 2, none⟩) := hd ⟨9, .data⟩ (by simp) rfl
      exact vstep_val (rfl) rfl (x_fieldAddr (o := 0) (by kernel_rfl) (b := kB) (o0 := oB + i * 2) d0)
    · intro a2 v2 hr hs hd
      have d0 : Act.get a2 80 = .pointer (some ⟨kB, oB + i * 2 + 0, none⟩) := hd ⟨10, .data⟩ (by simp) rfl
      exact vstep_val (rfl) rfl (x_load1 (by kernel_rfl) (b := kB) (o := oB + i * 2 + 0) d0 (by rw [cell_of_heap (hr.some hhB' (fun f => f))]; exact heB i hil 0 (by omega)))
    · intro a2 v2 hr hs hd
      have d0 : Act.get a2 75 = gA i 0 := hd ⟨5, .data⟩ (by simp) rfl
      have d1 : Act.get a2 81 = gB i 0 := hd ⟨11, .data⟩ (by simp) rfl
      exact vstep_val rfl rfl (x_neqIs (k := .u32) (d0.trans tA0) (d1.trans tB0))
    · intro a2 v2 hr hs hd
      have d0 : Act.get a2 82 = .bool false := hd ⟨12, .data⟩ (by simp) rfl
      exact vstep_val rfl rfl (x_moveV d0)
    · intro a2 v2 hr hs hd
      exact vstep_val (⟨by decide, false, hd ⟨13, .guard⟩ (by simp) rfl, rfl⟩) rfl (x_fieldAddr (o := 4) (by kernel_rfl) (b := b) (o0 := 0) ((hs.get 2 (by decide)).trans q2))
    · intro a2 v2 hr hs hd
      have d0 : Act.get a2 84 = .pointer (some ⟨b, 0 + 4, none⟩) := hd ⟨14, .data⟩ (by simp) rfl
      exact vstep_val (⟨by decide, false, hd ⟨13, .guard⟩ (by simp) rfl, rfl⟩) rfl (x_load1 (by kernel_rfl) (b := b) (o := 0 + 4) d0 (by rw [cell_of_heap ((hm.trans hr).some w1b (fun f => f)), Nat.zero_add]; exact hca 4 (by omega)))
    · intro a2 v2 hr hs hd
      exact vstep_val (⟨by decide, false, hd ⟨13, .guard⟩ (by simp) rfl, rfl⟩) rfl (by rw [show Value.int .i64 (i : Nat) = a2.eval (.tmp 6) from ((hs.get 6 (by decide)).trans q6).symm]; exact x_move)
    · intro a2 v2 hr hs hd
      have d0 : Act.get a2 85 = cA 4 := hd ⟨15, .data⟩ (by simp) rfl
      have d1 : Act.get a2 86 = .int .i64 (i : Nat) := hd ⟨16, .data⟩ (by simp) rfl
      exact vstep_val (⟨by decide, false, hd ⟨13, .guard⟩ (by simp) rfl, rfl⟩) rfl (x_indexAddr (sz := 2) (i := i) (b := kA) (o := oA) (n := u.length) (cap := capA4) (k := .i64) (by kernel_rfl) (d0.trans (hA4.trans (by rw [eA]))) d1 hil)
    · intro a2 v2 hr hs hd
      have d0 : Act.get a2 87 = .pointer (some ⟨kA, oA + i * 2, none⟩) := hd ⟨17, .data⟩ (by simp) rfl
      exact vstep_val (⟨by decide, false, hd ⟨13, .guard⟩ (by simp) rfl, rfl⟩) rfl (x_fieldAddr (o := 1) (by kernel_rfl) (b := kA) (o0 := oA + i * 2) d0)
    · intro a2 v2 hr hs hd
      have d0 : Act.get a2 88 = .pointer (some ⟨kA, oA + i * 2 + 1, none⟩) := hd ⟨18, .data⟩ (by simp) rfl
      exact vstep_val (⟨by decide, false, hd ⟨13, .guard⟩ (by simp) rfl, rfl⟩) rfl (x_load1 (by kernel_rfl) (b := kA) (o := oA + i * 2 + 1) d0 (by rw [cell_of_heap (hr.some hhA' (fun f => f))]; exact heA i hil 1 (by omega)))
    · intro a2 v2 hr hs hd
      exact vstep_val (⟨by decide, false, hd ⟨13, .guard⟩ (by simp) rfl, rfl⟩) rfl (x_fieldAddr (o := 4) (by kernel_rfl) (b := b + 1) (o0 := 0) ((hs.get 3 (by decide)).trans q3))
    · intro a2 v2 hr hs hd
      have d0 : Act.get a2 90 = .pointer (some ⟨b + 1, 0 + 4, none⟩) := hd ⟨20, .data⟩ (by simp) rfl
      exact vstep_val (⟨by decide, false, hd ⟨13, .guard⟩ (by simp) rfl, rfl⟩) rfl (x_load1 (by kernel_rfl) (b := b + 1) (o := 0 + 4) d0 (by rw [cell_of_heap ((hm.trans hr).some w1z (fun f => f)), Nat.zero_add]; exact hcb 4 (by omega)))
    · intro a2 v2 hr hs hd
      exact vstep_val (⟨by decide, false, hd ⟨13, .guard⟩ (by simp) rfl, rfl⟩) rfl (by rw [show Value.int .i64 (i : Nat) = a2.eval (.tmp 6) from ((hs.get 6 (by decide)).trans q6).symm]; exact x_move)
    · intro a2 v2 hr hs hd
      have d0 : Act.get a2 91 = cB 4 := hd ⟨21, .data⟩ (by simp) rfl
      have d1 : Act.get a2 92 = .int .i64 (i : Nat) := hd ⟨22, .data⟩ (by simp) rfl
      exact vstep_val (⟨by decide, false, hd ⟨13, .guard⟩ (by simp) rfl, rfl⟩) rfl (x_indexAddr (sz := 2) (i := i) (b := kB) (o := oB) (n := u.length) (cap := capB4) (k := .i64) (by kernel_rfl) (d0.trans (hB4.trans (by rw [eB]))) d1 hil)
    · intro a2 v2 hr hs hd
      have d0 : Act.get a2 93 = .pointer (some ⟨kB, oB + i * 2, none⟩) := hd ⟨23, .data⟩ (by simp) rfl
      exact vstep_val (⟨by decide, false, hd ⟨13, .guard⟩ (by simp) rfl, rfl⟩) rfl (x_fieldAddr (o := 1) (by kernel_rfl) (b := kB) (o0 := oB + i * 2) d0)
    · intro a2 v2 hr hs hd
      have d0 : Act.get a2 94 = .pointer (some ⟨kB, oB + i * 2 + 1, none⟩) := hd ⟨24, .data⟩ (by simp) rfl
      exact vstep_val (⟨by decide, false, hd ⟨13, .guard⟩ (by simp) rfl, rfl⟩) rfl (x_load1 (by kernel_rfl) (b := kB) (o := oB + i * 2 + 1) d0 (by rw [cell_of_heap (hr.some hhB' (fun f => f))]; exact heB i hil 1 (by omega)))
    · intro a2 v2 hr hs hd
      have d0 : Act.get a2 89 = gA i 1 := hd ⟨19, .data⟩ (by simp) rfl
      have d1 : Act.get a2 95 = gB i 1 := hd ⟨25, .data⟩ (by simp) rfl
      have hmm := (w1m.trans hm).trans hr
      refine ⟨⟨by decide, false, hd ⟨13, .guard⟩ (by simp) rfl, rfl⟩, owp_call (x_callf (by kernel_rfl) rfl) (R := fun e w' => e = .returned (.bool true) ∧ Mod none' v2 w') ?_ ?_⟩
      · rw [show ∀ a : Act, (#[Operand.tmp 89, Operand.tmp 95] : Array Operand).map a.eval = #[Act.get a 89, Act.get a 95] from fun a => by simp [eval_tmp], d0, d1]
        exact same_spec (tA2.mod hmm (fun _ _ f => f) (fun _ h => h)) (tB2.mod hmm (fun _ _ f => f) (fun _ h => h))
      · rintro e w3 ⟨rfl, h3⟩
        exact ⟨_, rfl, rfl, h3⟩
    · intro a2 v2 hr hs hd
      have d0 : Act.get a2 96 = .bool true := hd ⟨26, .data⟩ (by simp) rfl
      exact vstep_val (⟨by decide, false, hd ⟨13, .guard⟩ (by simp) rfl, rfl⟩) rfl (x_notV d0 rfl)
    intro a2 v2 hr hs hh
    have d3 : Act.get a2 83 = .bool false := hh 13 (by decide)
    have d7 : Act.get a2 97 = .bool false := hh 27 (by decide)
    have zN : a2.tmps.size = 100 := hs.size.trans qN
    refine wpl_val rfl (x_pickF d3 d7) (wpList_nil ?_)
    refine wp_cond_false ?_ (wp_skip ?_)
    · simp (disch := (first | omega | (simp only [Act.size_put]; omega))) only [Act.put_none, eval_tmp, Act.get_put_ne, Act.get_put_eq]
    simp only [Exit.then, Exit.inBlock]
    have hbz : ∀ t, t ∉ [70, 71, 72, 73, 74, 75, 76, 77, 78, 79, 80, 81, 82, 83, 84, 85, 86, 87, 88, 89, 90, 91, 92, 93, 94, 95, 96, 97] → Act.get a2 t = Act.get a1 t := fun t ht => hs.get t ht
    refine wp_region_lit (wpl_val rfl (x_add (k := .i64) (m := (i : Nat)) (n := 1) ?_ rfl) (wpl_val rfl x_move (wpList_nil ?_)))
    · simp (disch := (first | omega | (simp only [Act.size_put]; omega))) only [Act.put_none, eval_tmp, Act.get_put_ne, Act.get_put_eq, hbz 67 (by decide)]
      exact q67
    have hwrap : IntKind.i64.wrap ((i : Int) + 1) = ((i + 1 : Nat) : Int) := by rw [IntKind.wrap_i64]; omega
    refine ⟨⟨?_, ?_, ?_, ?_, ?_, hm.trans hr, i + 1, by omega, ?_⟩, ?_⟩
    · simp only [Act.size_put]; exact zN
    · simp only [Act.defers_put]; exact hs.defers.trans qd
    · simp (disch := (first | omega | (simp only [Act.size_put]; omega))) only [Act.put_none, eval_tmp, Act.get_put_ne, Act.get_put_eq, hbz 2 (by decide), q2]
    · simp (disch := (first | omega | (simp only [Act.size_put]; omega))) only [Act.put_none, eval_tmp, Act.get_put_ne, Act.get_put_eq, hbz 3 (by decide), q3]
    · simp (disch := (first | omega | (simp only [Act.size_put]; omega))) only [Act.put_none, eval_tmp, Act.get_put_ne, Act.get_put_eq, hbz 66 (by decide), q66]
    · simp (disch := (first | omega | (simp only [Act.size_put]; omega))) only [Act.put_none, eval_tmp, Act.get_put_ne, Act.get_put_eq]
      rw [hwrap]
    · simp (disch := (first | omega | (simp only [Act.size_put]; omega))) only [Act.put_none, eval_tmp, Act.get_put_ne, Act.get_put_eq]
      rw [hwrap, p67']
      simp only [lenN, Int.toNat_natCast]
      omega
end Go.Proofs.YtjjpiacdamibjaaDoor
