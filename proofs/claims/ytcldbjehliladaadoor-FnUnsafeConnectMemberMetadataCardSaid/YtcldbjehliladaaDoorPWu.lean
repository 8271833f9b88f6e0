/-
  The writer of package spec: the unknown tags, by rising numbers.
-/
import Derived.Test.YtcldbjehliladaaDoorPWy
set_option linter.unusedSimpArgs false
set_option linter.unusedVariables false
namespace Go.Proofs.YtcldbjehliladaaDoor
open Go Go.RowKit
/-- tags in memory of one's own -/
def TagRow (w : World) (base : Nat) (v : Value) (n : Nat) (f : Nat -> Value × Value) : Prop := ∃ xs, w.ownsRow base 60 2 v n xs /\ ∀ i, i < n -> xs[i * 2]? = some (f i).1 /\ xs[i * 2 + 1]? = some (f i).2
theorem TagRow.mod {w w' : World} {base : Nat} {v : Value} {n : Nat} {f : Nat -> Value × Value} {S : Nat -> Prop} (h : TagRow w base v n f) (hm : Mod S w w') (hs : ∀ k, base <= k -> ¬ S k) : TagRow w' base v n f := by
 obtain ⟨xs, h1, h2⟩ := h
 exact ⟨xs, ownsRow_mod h1 hm fun k hk => hs k (World.ownsRow.lt h1 k hk).1, h2⟩
theorem TagRow.lt {w : World} {base : Nat} {v : Value} {n : Nat} {f : Nat -> Value × Value} (h : TagRow w base v n f) : ∀ k, v.ownBlock = some k -> base <= k /\ k < w.heap.size := by
 obtain ⟨xs, h1, h2⟩ := h
 exact World.ownsRow.lt h1
theorem TagRow.slice {w : World} {base : Nat} {v : Value} {n : Nat} {f : Nat -> Value × Value} (h : TagRow w base v n f) : ∃ ao cap, v = .slice ao n cap := by
 obtain ⟨xs, h1, h2⟩ := h
 exact owns_slice h1
theorem TagRow.congr {w : World} {base : Nat} {v : Value} {n : Nat} {f f' : Nat -> Value × Value} (h : TagRow w base v n f) (he : ∀ i, i < n -> f' i = f i) : TagRow w base v n f' := by
 obtain ⟨xs, h1, h2⟩ := h
 exact ⟨xs, h1, fun i hi => by rw [he i hi]; exact h2 i hi⟩
theorem TagRow.nil (w : World) (base : Nat) (f : Nat -> Value × Value) : TagRow w base (.slice none 0 0) 0 f := ⟨[], World.ownsRow_nil _ _ _ _, fun i hi => by omega⟩
theorem TagRow.cells {w : World} {base : Nat} {v : Value} {n : Nat} {f : Nat -> Value × Value} (h : TagRow w base v n f) (hn : 0 < n) : ∃ g cap cur, v = .slice (some ⟨g, 0, none⟩) n cap /\ base <= g /\ w.heap[g]? = some (.cells cur 60 (0, 0)) /\ n <= cap /\ cap <= maxLen /\ cur.size = cap * 2 /\
  (∀ i, i < n -> cur[i * 2]? = some (f i).1 /\ cur[i * 2 + 1]? = some (f i).2) := by
 obtain ⟨xs, ⟨h1, h3⟩, h2⟩ := h
 rcases h3 with ⟨_, h0⟩ | ⟨g, cap, cur, rfl, q1, q2, q3, q4, q5, q6⟩
 ·omega
 refine ⟨g, cap, cur, rfl, q1, q2, q3, q4, q5, fun i hi => ?_⟩
 obtain ⟨e1, e2⟩ := h2 i hi
 rw [<- q6, List.getElem?_take, if_pos (by omega)] at e1 e2
 exact ⟨by simpa using e1, by simpa using e2⟩
/-- a tag is set -/
theorem TagRow.set {w : World} {base g n cap i : Nat} {f : Nat -> Value × Value} {x y : Value} (h : TagRow w base (.slice (some ⟨g, 0, none⟩) n cap) n f) (hi : i < n) : TagRow (w.setCells g (i * 2) [x, y]) base (.slice (some ⟨g, 0, none⟩) n cap) n (fun j => if j = i then (x, y) else f j) := by
 obtain ⟨g', cap', cur, hv, q1, q2, q3, q4, q5, q6⟩ := h.cells (by omega)
 obtain ⟨rfl, rfl⟩ : g = g' /\ cap = cap' := by simpa using hv
 obtain ⟨C', k1, k2, k3, k4⟩ := heap_setCells [x, y] (i * 2) cur q2
 have hw : ∀ j, j < n -> C'[j * 2]? = some (if j = i then (x, y) else f j).1 /\ C'[j * 2 + 1]? = some (if j = i then (x, y) else f j).2 := by
  intro j hj
  by_cases hji : j = i
  ·subst hji
   rw [if_pos rfl]
   exact ⟨k3 0 (by simp) (by omega), k3 1 (by simp) (by omega)⟩
  ·rw [if_neg hji]
   obtain ⟨e1, e2⟩ := q6 j hj
   refine ⟨(k4 _ ?_).trans e1, (k4 _ ?_).trans e2⟩
   ·simp; omega
   ·simp; omega
 refine ⟨C'.toList.take (n * 2), ⟨?_, .inr ⟨g, cap, C', rfl, q1, k1, q3, q4, by omega, rfl⟩⟩, fun j hj => ?_⟩
 ·simp; omega
 ·obtain ⟨e1, e2⟩ := hw j hj
  rw [List.getElem?_take, if_pos (by omega), List.getElem?_take, if_pos (by omega)]
  exact ⟨by simpa using e1, by simpa using e2⟩
/-- tags of one's own, read -/
theorem TagRow.elems {w : World} {base : Nat} {v : Value} {n : Nat} {f : Nat -> Value × Value} (h : TagRow w base v n f) : ElemsI w v n 2 (fun i j => if j = 0 then (f i).1 else (f i).2) := by
 by_cases hn : n = 0
 ·obtain ⟨ao, cap, hv⟩ := h.slice
  exact .inl ⟨hn, ao, cap, by rw [hv, hn]⟩
 obtain ⟨g, cap, cur, hv, q1, q2, q3, q4, q5, q6⟩ := h.cells (by omega)
 refine .inr ⟨g, 0, cap, cur, _, (0, 0), hv, q3, q4, q2, fun i hi j hj => ?_⟩
 rw [Nat.zero_add]
 rcases (by omega : j = 0 \/ j = 1) with rfl | rfl
 ·exact (q6 i hi).1
 ·exact (q6 i hi).2
theorem insTag_append : ∀ (A B : Tags) (p : Int × List UInt8), (∀ q ∈ A, q.1 < p.1) -> insTag (A ++ B) p = A ++ insTag B p
 | [], B, p, _ => rfl
 | q :: A, B, p, h => by
  have hq := h q (by simp)
  simp only [List.cons_append]
  rw [insTag, if_pos hq, insTag_append A B p (fun x hx => h x (by simp [hx]))]
/-- it is there already -/
theorem insTag_there {u : Tags} {p : Int × List UInt8} {i : Nat} (hi : i < u.length) (hlt : ∀ j (h : j < i), (u[j]'(by omega)).1 < p.1) (he : (u[i]).1 = p.1) : insTag u p = u := by
 have h1 : u = u.take i ++ u.drop i := (List.take_append_drop i u).symm
 have h2 : u.drop i = u[i] :: u.drop (i + 1) := List.drop_eq_getElem_cons hi
 have h3 : insTag (u.drop i) p = u.drop i := by
  rw [h2, insTag, if_neg (by omega), if_pos he]
 conv => lhs; rw [h1]
 rw [insTag_append _ _ _ (fun q hq => by
  obtain ⟨j, hj, rfl⟩ := List.getElem_of_mem hq
  have hj' : j < i := by simp at hj; omega
  rw [List.getElem_take]
  exact hlt j hj'), h3, <- h1]
/-- it goes in -/
theorem insTag_at {u : Tags} {p : Int × List UInt8} {i : Nat} (hi : i <= u.length) (hlt : ∀ j (h : j < i), (u[j]'(by omega)).1 < p.1) (hge : ∀ h : i < u.length, p.1 < (u[i]).1) : insTag u p = u.take i ++ p :: u.drop i := by
 have h1 : u = u.take i ++ u.drop i := (List.take_append_drop i u).symm
 have h3 : insTag (u.drop i) p = p :: u.drop i := by
  by_cases hl : i < u.length
  ·have h2 : u.drop i = u[i] :: u.drop (i + 1) := List.drop_eq_getElem_cons hl
   have := hge hl
   rw [h2, insTag, if_neg (by omega), if_neg (by omega)]
  ·have : u.drop i = [] := List.drop_eq_nil_of_le (by omega)
   rw [this]; rfl
 conv => lhs; rw [h1]
 rw [insTag_append _ _ _ (fun q hq => by
  obtain ⟨j, hj, rfl⟩ := List.getElem_of_mem hq
  have hj' : j < i := by simp at hj; omega
  rw [List.getElem_take]
  exact hlt j hj'), h3]
/-- tags in memory of one's own, with what they say -/
def TagsO (w0 w : World) (base : Nat) (v : Value) (u : Tags) : Prop := ∃ f, TagRow w base v u.length f /\ ∀ i (h : i < u.length), (f i).1 = .int .u32 (u[i]).1 /\ OctI w0 (f i).2 (u[i]).2
theorem unkTypes : elemInfo Tryd.prog 35 60 2 = true /\ fieldOff Tryd.prog 60 0 = some 0 /\ one Tryd.prog 58 = true /\ Tryd.prog.follows .mixedOrders = true := ⟨by kernel_rfl, by kernel_rfl, by kernel_rfl, rfl⟩
theorem zTag : Tryd.prog.built 60 [] = some #[.int .u32 0, .slice none 0 0] := by kernel_rfl
theorem ins_get {u : Tags} {p : Int × List UInt8} {i : Nat} (hi : i <= u.length) {j : Nat} (h : j < (u.take i ++ p :: u.drop i).length) : (u.take i ++ p :: u.drop i)[j]? = if j = i then some p else if j < i then u[j]? else u[j - 1]? := by
 have hl : (u.take i).length = i := by simp; omega
 rcases Nat.lt_trichotomy j i with h1 | h1 | h1
 ·rw [if_neg (by omega), if_pos h1, List.getElem?_append_left (by omega), List.getElem?_take, if_pos h1]
 ·rw [if_pos h1, List.getElem?_append_right (by omega), hl, h1, Nat.sub_self]; rfl
 ·rw [if_neg (by omega), if_neg (by omega), List.getElem?_append_right (by omega), hl, show j - i = (j - i - 1) + 1 by omega, List.getElem?_cons_succ, List.getElem?_drop, show i + (j - i - 1) = j - 1 by omega]
/-- a zero tag is put behind tags -/
theorem TagRow.push {w' : World} {base : Nat} {v' : Value} {n : Nat} {f : Nat -> Value × Value} {xs : List Value} (hf : ∀ i, i < n -> xs[i * 2]? = some (f i).1 /\ xs[i * 2 + 1]? = some (f i).2) (hxl : xs.length = n * 2) {x y : Value} (h : w'.ownsRow base 60 2 v' (n + 1) (xs ++ [x, y])) :
  TagRow w' base v' (n + 1) (fun i => if i < n then f i else (x, y)) := by
 refine ⟨_, h, fun i hi => ?_⟩
 by_cases hin : i < n
 ·simp only [if_pos hin]
  rw [List.getElem?_append_left (by omega), List.getElem?_append_left (by omega)]
  exact hf i hin
 ·have : i = n := by omega
  subst this
  simp only [if_neg (Nat.lt_irrefl i)]
  rw [List.getElem?_append_right (by omega), List.getElem?_append_right (by omega), hxl, Nat.sub_self, show i * 2 + 1 - i * 2 = 1 by omega]
  exact ⟨rfl, rfl⟩
set_option maxRecDepth 100000 in
set_option maxHeartbeats 4000000 in
theorem unknown_c {w0 : World} {v uv : Value} {fs : List FD} {U : Tags} {g : Nat -> Nat -> Value} (hf : FdsI w0 v fs) (hno : ∀ f ∈ fs, f.tag < 0) (hE : ElemsI w0 uv U.length 2 g) (hg : ∀ i (h : i < U.length), g i 0 = .int .u32 (U[i]).1 /\ 0 <= (U[i]).1 /\ (U[i]).1 < 4294967296 /\ OctI w0 (g i 1) (U[i]).2) :
  UnkC Tryd.prog 67 v uv w0 (unkW U) := by
 obtain ⟨hI, hF0, h1U, hord⟩ := unkTypes
 obtain ⟨ao, cap, rfl⟩ := hf.slice
 obtain ⟨ua, uc, rfl⟩ := hE.slice
 refine calls_of_wp Tryd.func67 rfl ?_
 rw [Tryd.ntmps67]
 refine wp_act (fun a : Act => Act.get a 0 = .slice ao fs.length cap /\ Act.get a 1 = .slice ua U.length uc /\ a.tmps.size = 85 /\ a.defers = []) ⟨by rw [Zj _ _ _ (by simp)]; rfl, by rw [Zj _ _ _ (by simp)]; rfl, by simp, rfl⟩ ?_
 rintro a ⟨a0, a1, aN, ad⟩
 refine wp_seq (wp_region_lit (Zv rfl Zi (wpList_nil (wp_seq (wp_region_lit (Zv rfl Zm (wpl_call rfl (Zy (by kernel_rfl) rfl) (R := fun e w' => e = .returned (.int .u32 0) /\ Mod none' w0 w') ?_ ?_)))))))
 ·have e1 : ∀ b : Act, Act.get b 11 = .slice ao fs.length cap -> (#[Operand.tmp 11] : Array Operand).map b.eval = #[.slice ao fs.length cap] := fun b h => by simp [Ze, h]
  rw [e1 _ (by simp (disch := first | omega | simp only [Zs]; omega) only [Zo, Ze, Zn, Zq, a0])]
  exact known_c hf hno
 rintro e w1 ⟨rfl, hm1⟩
 refine ⟨_, rfl, Zv rfl Zi (wpList_nil (wp_seq (wp_region_lit (Zv rfl Zi (wpList_nil ?_)))))⟩
 have hwl : (U.take 32767).length = min U.length 32767 := by simp; omega
 have hmin : (if (32767 : Int) < (U.length : Int) then (32767 : Int) else (U.length : Int)) = ((U.take 32767).length : Nat) := by rw [hwl]; split <;> omega
 have hucap : (U.take 32767).length <= uc := by
  rcases hE with ⟨h0, _, _, h1⟩ | ⟨k, off, cap', C, T, fr, q1, q2, q3, q4, q5⟩
  ·omega
  ·obtain ⟨_, rfl⟩ : ua = some ⟨k, off, none⟩ /\ uc = cap' := by simpa using q1
   omega
 refine wp_seq (wp_seq (wp_region_lit (Zv rfl Zm (Zv rfl Zm (Zv rfl (x_len (by kernel_rfl) rfl (ao := ua) (cap := uc) (n := U.length) ?_) (Zv rfl (x_min (k := .i64) (k' := .i64) (m := (U.length : Nat)) (n := 32767) ?_ rfl)
  (Zv rfl (x_sliceH (e := 60) (sz := 2) (ao := ua) (n := U.length) (cap := uc) (k := .i64) (m := (U.take 32767).length) hI ?_ ?_ hucap) (Zv rfl (x_len (by kernel_rfl) rfl (ao := ua) (cap := uc) (n := (U.take 32767).length) ?_) (Zv rfl Zm (wpList_nil ?_))))))))))
 ·simp (disch := first | omega | simp only [Zs]; omega) only [Zo, Ze, Zn, Zq, a1]
 ·simp (disch := first | omega | simp only [Zs]; omega) only [Zo, Ze, Zn, Zq]
 ·simp (disch := first | omega | simp only [Zs]; omega) only [Zo, Ze, Zn, Zq, a1]
 ·simp (disch := first | omega | simp only [Zs]; omega) only [Zo, Ze, Zn, Zq]
  rw [hmin]
 ·simp (disch := first | omega | simp only [Zs]; omega) only [Zo, Ze, Zn, Zq]
 obtain ⟨V, hV⟩ : ∃ V, V = U.take 32767 := ⟨_, rfl⟩
 have hVl : V.length <= 32767 := by rw [hV, hwl]; omega
 have hEV : ElemsI w0 (.slice ua V.length uc) V.length 2 g := by
  rcases hE with ⟨h0, _, _, h1⟩ | ⟨k, off, cap', C, T, fr, q1, q2, q3, q4, q5⟩
  ·have : V = [] := List.eq_nil_of_length_eq_zero (by rw [hV, hwl]; omega)
   subst this
   exact .inl ⟨rfl, ua, uc, rfl⟩
  ·obtain ⟨rfl, rfl⟩ : ua = some ⟨k, off, none⟩ /\ uc = cap' := by simpa using q1
   exact .inr ⟨k, off, uc, C, T, fr, rfl, by rw [hV, hwl]; omega, q3, q4, fun i hi j hj => q5 i (by rw [hV, hwl] at hi; omega) j hj⟩
 have hgV : ∀ i (h : i < V.length), g i 0 = .int .u32 (V[i]).1 /\ 0 <= (V[i]).1 /\ (V[i]).1 < 4294967296 /\ OctI w0 (g i 1) (V[i]).2 := by
  subst hV
  intro i h
  rw [List.getElem_take]
  exact hg i (by rw [hwl] at h; omega)
 have hU : unkW U = V.foldl insTag [] := by rw [hV]; rfl
 rw [hU, <- hV]
 clear hU hE hg hmin hwl hucap hV
 refine wp_block ?_
 refine wp_loop_ghost (fun (m : Nat) (c : Act) (w' : World) => c.tmps.size = 85 /\ c.defers = [] /\ Act.get c 5 = .int .u32 0 /\ Act.get c 17 = .slice ua V.length uc /\ Act.get c 18 = .int .i64 (V.length : Nat) /\ m <= V.length /\ Act.get c 19 = .int .i64 ((V.length - m : Nat) : Int) /\ Mod none' w0 w' /\ TagsO w0 w' w0.heap.size (Act.get c 6) ((V.take (V.length - m)).foldl insTag [])) V.length ⟨?_, ?_, ?_, ?_, ?_, Nat.le_refl _, ?_, hm1, ?_⟩ ?_
 ·simp only [Zs]; exact aN
 ·simp only [Zd]; exact ad
 ·simp (disch := first | omega | simp only [Zs]; omega) only [Zo, Ze, Zn, Zq]
 ·simp (disch := first | omega | simp only [Zs]; omega) only [Zo, Ze, Zn, Zq]
 ·simp (disch := first | omega | simp only [Zs]; omega) only [Zo, Ze, Zn, Zq]
 ·simp (disch := first | omega | simp only [Zs]; omega) only [Zo, Ze, Zn, Zq]
  rw [Nat.sub_self]; rfl
 ·simp (disch := first | omega | simp only [Zs]; omega) only [Zo, Ze, Zn, Zq]
  rw [Nat.sub_self]
  exact ⟨fun _ => (undef, undef), TagRow.nil _ _ _, fun i hi => by simp at hi⟩
 clear a0 a1 aN ad a hm1 w1
 rintro m a w1 ⟨aN, ad, a5, a17, a18, hmV, a19, hmod, hrow⟩
 refine wp_seq (wp_region_lit (Zv rfl (x_lss (k := .i64) (m := ((V.length - m : Nat) : Int)) (n := (V.length : Nat)) (by rw [Ze, a19]) (by rw [Ze, a18])) (wpList_nil ?_)))
 by_cases hpos : 0 < m
 ·refine wp_seq (wp_cond_true ?_ (wp_skip ?_))
  ·rw [Ze, Zq (by omega)]; simp; omega
  have hi : V.length - m < V.length := by omega
  have hwm : IntKind.i64.wrap (((V.length - m : Nat) : Int) + 1) = ((V.length - (m - 1) : Nat) : Int) := by rw [IntKind.wrap_i64]; omega
  have hVm : V.length - (m - 1) = V.length - m + 1 := by omega
  have hm1l : m - 1 < m := by omega
  have hm1V : m - 1 <= V.length := by omega
  have hfold : (V.take (V.length - m + 1)).foldl insTag [] = insTag ((V.take (V.length - m)).foldl insTag []) V[V.length - m] := by
   rw [List.take_succ_eq_append_getElem hi, List.foldl_append]; rfl
  have hulen : ((V.take (V.length - m)).foldl insTag []).length <= 32767 := by
   have H : ∀ (l u : Tags), (l.foldl insTag u).length <= u.length + l.length := by
    intro l
    induction l with
    | nil => intro u; simp
    | cons p l ih => intro u; have h2 := ih (insTag u p); have h3 := insTag_length u p; simp only [List.foldl_cons, List.length_cons]; omega
   have h2 := H (V.take (V.length - m)) []
   have h3 : (V.take (V.length - m)).length <= V.length := by rw [List.length_take]; omega
   simp only [List.length_nil] at h2
   omega
  obtain ⟨hk0, hk1, hk2, hkv⟩ := hgV (V.length - m) hi
  rcases hEV with ⟨h0, _⟩ | ⟨k, off, cap', C, T, fr, q1, q2, q3, q4, q5⟩
  ·omega
  obtain ⟨rfl, rfl⟩ : ua = some ⟨k, off, none⟩ /\ uc = cap' := by simpa using q1
  have e0 := q5 _ hi 0 (by omega)
  have e1 := q5 _ hi 1 (by omega)
  rw [hk0] at e0
  generalize hkvd : V[V.length - m] = kv at *
  generalize hud : (V.take (V.length - m)).foldl insTag [] = u at *
  generalize g (V.length - m) 1 = vv at *
  have hqk := hmod.some q4 (fun f => f)
  refine wp_seq (wp_block (wp_seq (wp_region_lit (Zv rfl (Zx (sz := 2) (i := V.length - m) (b := k) (o := off) (n := V.length) (cap := uc) (k := .i64) (by kernel_rfl) ?_ ?_ hi) (Zv rfl (x_loadN (cs := [.int .u32 kv.1, vv]) (b := k) (o := off + (V.length - m) * 2) (by kernel_rfl) ?_ (fun j v hv => ?_)) (Zv rfl (x_alloc zeroTag) ?_))))))
  ·simp (disch := first | omega | simp only [Zs]; omega) only [Zo, Ze, Zn, Zq, a17]
  ·simp (disch := first | omega | simp only [Zs]; omega) only [Zo, Ze, Zn, Zq, a19]
  ·simp (disch := first | omega | simp only [Zs]; omega) only [Zo, Ze, Zn, Zq]
  ·rw [Zc hqk]
   rcases j with _ | _ | j
   ·rw [<- hv]; exact e0
   ·rw [<- hv]; exact e1
   ·simp at hv
  have k1 := Zh w1 (.cells (Value.agg #[.int .u32 0, .slice none 0 0]).cells 60)
  have m2 : Mod none' w1 (w1.alloc (.cells (Value.agg #[.int .u32 0, .slice none 0 0]).cells 60)) := (Mod.refl w1).alloc _
  have s2 : (w1.alloc (.cells (Value.agg #[.int .u32 0, .slice none 0 0]).cells 60)).heap.size = w1.heap.size + 1 := by simp
  generalize w1.alloc (.cells (Value.agg #[.int .u32 0, .slice none 0 0]).cells 60) = w2 at *
  obtain ⟨b8, hb8d⟩ : ∃ b, b = w1.heap.size := ⟨_, rfl⟩
  rw [<- hb8d] at k1 s2 ⊢
  obtain ⟨va, vc, hvv, _⟩ := hkv.slice
  refine wpl_skip rfl (x_storeN (cs := #[.int .u32 kv.1, vv]) (b := b8) (o := 0) (by kernel_rfl) ?_ ?_ (by rw [hvv]; simp [Value.oneCell']) ?_) (wpList_nil ?_)
  ·simp (disch := first | omega | simp only [Zs]; omega) only [Zo, Ze, Zn, Zq]
  ·simp (disch := first | omega | simp only [Zs]; omega) only [Zo, Ze, Zn, Zq]
  ·intro j hj
   have hj2 : j < 2 := hj
   rw [Zc k1, Zz k1, Nat.zero_add]
   rcases (by omega : j = 0 \/ j = 1) with rfl | rfl <;> exact ⟨rfl, rfl⟩
  have hb8 := put_tree (cs := #[.int .u32 kv.1, vv]) k1 rfl
  have m3 := mod_setCells b8 w2 0 (#[.int .u32 kv.1, vv] : Array Value).toList
  have hm13 : Mod none' w1 (w2.setCells b8 0 (#[.int .u32 kv.1, vv] : Array Value).toList) := m2.trans' m3 (fun _ _ f => f) (fun i hi e => by have e' : i = b8 := e; omega)
  generalize w2.setCells b8 0 (#[.int .u32 kv.1, vv] : Array Value).toList = w3 at *
  have hm03 : Mod none' w0 w3 := hmod.trans hm13
  have hs0 := hmod.size
  obtain ⟨f, hrow1, hff⟩ := hrow
  have hrow3 := hrow1.mod hm13 (fun _ _ f => f)
  have h6lt := hrow1.lt
  obtain ⟨oa, oc, h6⟩ := hrow1.slice
  rw [h6] at hrow3 h6lt
  refine wp_act (fun c : Act => c.tmps.size = 85 /\ c.defers = [] /\ (∀ t ∈ [5, 17, 18, 19], Act.get c t = Act.get a t) /\ Act.get c 6 = .slice oa u.length oc /\ Act.get c 8 = .pointer (some ⟨b8, 0, none⟩)) ⟨?_, ?_, ?_, ?_, ?_⟩ ?_
  ·simp only [Zs]; exact aN
  ·simp only [Zd]; exact ad
  ·intro t ht
   simp only [List.mem_cons, List.not_mem_nil, or_false] at ht
   rcases ht with rfl | rfl | rfl | rfl <;> (simp (disch := first | omega | simp only [Zs]; omega) only [Zo, Ze, Zn, Zq])
  ·simp (disch := first | omega | simp only [Zs]; omega) only [Zo, Ze, Zn, Zq, h6]
  ·simp (disch := first | omega | simp only [Zs]; omega) only [Zo, Ze, Zn, Zq]
  rintro c ⟨cN, cd, ck, c6, c8⟩
  refine wp_seq (wp_region_lit (Zv rfl Zi (wpList_nil ?_)))
  refine wp_seq (wp_block ?_)
  -- where it belongs
  refine wp_loop_ghost (fun (j : Nat) (d : Act) (w' : World) => d.tmps.size = 85 /\ d.defers = [] /\ (∀ t ∈ [5, 17, 18, 19], Act.get d t = Act.get a t) /\ Act.get d 6 = .slice oa u.length oc /\ Act.get d 8 = .pointer (some ⟨b8, 0, none⟩) /\ (∃ i : Nat, i + j = u.length /\ Act.get d 9 = .int .i64 (i : Nat) /\ ∀ q (h : q < u.length), q < i -> (u[q]).1 < kv.1) /\ Mod none' w3 w') u.length ⟨?_, ?_, ?_, ?_, ?_, ⟨0, by omega, ?_, fun q _ h => by omega⟩, .refl w3⟩ ?_
  ·simp only [Zs]; exact cN
  ·simp only [Zd]; exact cd
  ·intro t ht
   rw [Zn (by simp only [List.mem_cons, List.not_mem_nil, or_false] at ht; omega)]
   exact ck t ht
  ·simp (disch := first | omega | simp only [Zs]; omega) only [Zo, Ze, Zn, Zq, c6]
  ·simp (disch := first | omega | simp only [Zs]; omega) only [Zo, Ze, Zn, Zq, c8]
  ·simp (disch := first | omega | simp only [Zs]; omega) only [Zo, Ze, Zn, Zq]
   rfl
  clear c8 c6 ck cd cN c
  rintro j c w4 ⟨cN, cd, ck, c6, c8, ⟨i, hij, c9, hlt⟩, hm34⟩
  have c5 : Act.get c 5 = .int .u32 0 := (ck 5 (by decide)).trans a5
  have hb84 := hm34.some hb8 (fun f => f)
  have hrow4 := hrow3.mod hm34 (fun _ _ f => f)
  refine wp_seq (wp_seq (wp_mono (Q := fun e d w' => e = .normal /\ SameBut (fun t => t ∈ [23, 24, 25, 26, 27, 28, 29, 30, 31, 32, 33, 34, 35] \/ t = 36) c d /\ Mod none' w4 w' /\ ∃ b : Bool, Act.get d 36 = .bool b /\ (b = true ↔ ∃ h : i < u.length, (u[i]).1 < kv.1)) ?_ ?_))
  ·by_cases hin : i < u.length
   ·obtain ⟨gb, ocap, cur, hov, g1, hgb, g3, g4, g5, g6⟩ := hrow4.cells (by omega)
    obtain ⟨hoa, rfl⟩ : oa = some ⟨gb, 0, none⟩ /\ oc = ocap := by simpa using hov
    have hcu : cur[i * 2]? = some (.int .u32 (u[i]).1) := (g6 i hin).1.trans (congrArg some (hff i hin).1)
    have hb8 := hb84
    ·refine region_vals2 (l := [_, _, _, _, _, _, _, _, _, _, _, _, _]) (tl := [_]) hord [23, 24, 25, 26, 27, 28, 29, 30, 31, 32, 33, 34, 35] [(.int .i64 (i : Nat)), (.slice oa u.length oc), (.int .i64 (u.length : Nat)), (.bool true), (.bool true), (.slice oa u.length oc), (.int .i64 (i : Nat)), (.pointer (some ⟨gb, 0 + i * 2, none⟩)), (.pointer (some ⟨gb, 0 + i * 2 + 0, none⟩)), (.int .u32 (u[i]).1), (.pointer (some ⟨b8, 0 + 0, none⟩)), (.int .u32 kv.1), (.bool (decide ((u[i]).1 < kv.1)))] rfl (by rfl) (by decide) (fun d hd => by rw [cN]; simp at hd; omega) (by simp) (by kernel_rfl) ⟨?_, ?_, ?_, ?_, ?_, ?_, ?_, ?_, ?_, ?_, ?_, ?_, ?_, trivial⟩ ?_
     ·intro a1 w2 hr hs hd
      have t0 := (hs.get 9 (by simp)).trans c9
      exact Zt rfl rfl (x_moveV t0)
     ·intro a1 w2 hr hs hd
      have t0 := (hs.get 6 (by simp)).trans c6
      exact Zt rfl rfl (x_moveV t0)
     ·intro a1 w2 hr hs hd
      have e1 : Act.get a1 24 = .slice oa u.length oc := hd ⟨1, .data⟩ (by simp) rfl
      exact Zt rfl rfl (x_len (by kernel_rfl) rfl e1)
     ·intro a1 w2 hr hs hd
      have e0 : Act.get a1 23 = .int .i64 (i : Nat) := hd ⟨0, .data⟩ (by simp) rfl
      have e2 : Act.get a1 25 = .int .i64 (u.length : Nat) := hd ⟨2, .data⟩ (by simp) rfl
      exact Zt rfl rfl ((x_lss (k := .i64) (m := (i : Nat)) (n := (u.length : Nat)) e0 e2).trans (by rw [show decide (((i : Nat) : Int) < (u.length : Nat)) = true from by first | exact decide_eq_true (by omega) | exact decide_eq_false (by omega)]; first | done | rfl))
     ·intro a1 w2 hr hs hd
      have e3 : Act.get a1 26 = .bool true := hd ⟨3, .data⟩ (by simp) rfl
      exact Zt rfl rfl (x_moveV e3)
     ·intro a1 w2 hr hs hd
      have t0 := (hs.get 6 (by simp)).trans c6
      exact Zt ⟨by simp, true, hd ⟨4, .guard⟩ (by simp) rfl, rfl⟩ rfl (x_moveV t0)
     ·intro a1 w2 hr hs hd
      have t0 := (hs.get 9 (by simp)).trans c9
      exact Zt ⟨by simp, true, hd ⟨4, .guard⟩ (by simp) rfl, rfl⟩ rfl (x_moveV t0)
     ·intro a1 w2 hr hs hd
      have e5 : Act.get a1 28 = .slice oa u.length oc := hd ⟨5, .data⟩ (by simp) rfl
      have e6 : Act.get a1 29 = .int .i64 (i : Nat) := hd ⟨6, .data⟩ (by simp) rfl
      exact Zt ⟨by simp, true, hd ⟨4, .guard⟩ (by simp) rfl, rfl⟩ rfl (Zx (b := gb) (o := 0) (n := u.length) (cap := oc) (i := i) (sz := 2) (k := .i64) (by kernel_rfl) (by rw [<- hoa]; exact e5) e6 hin)
     ·intro a1 w2 hr hs hd
      have e7 : Act.get a1 30 = .pointer (some ⟨gb, 0 + i * 2, none⟩) := hd ⟨7, .data⟩ (by simp) rfl
      exact Zt ⟨by simp, true, hd ⟨4, .guard⟩ (by simp) rfl, rfl⟩ rfl (Za hF0 e7)
     ·intro a1 w2 hr hs hd
      have e8 : Act.get a1 31 = .pointer (some ⟨gb, 0 + i * 2 + 0, none⟩) := hd ⟨8, .data⟩ (by simp) rfl
      exact Zt ⟨by simp, true, hd ⟨4, .guard⟩ (by simp) rfl, rfl⟩ rfl (Zl h1U e8 ((Zc (hr.some hgb (fun f => f))).trans (by rw [show 0 + i * 2 + 0 = i * 2 by omega]; exact hcu)))
     ·intro a1 w2 hr hs hd
      have t8 := (hs.get 8 (by simp)).trans c8
      exact Zt ⟨by simp, true, hd ⟨4, .guard⟩ (by simp) rfl, rfl⟩ rfl (Za hF0 t8)
     ·intro a1 w2 hr hs hd
      have e10 : Act.get a1 33 = .pointer (some ⟨b8, 0 + 0, none⟩) := hd ⟨10, .data⟩ (by simp) rfl
      exact Zt ⟨by simp, true, hd ⟨4, .guard⟩ (by simp) rfl, rfl⟩ rfl (Zl h1U e10 ((Zc (hr.some hb8 (fun f => f))).trans rfl))
     ·intro a1 w2 hr hs hd
      have e9 : Act.get a1 32 = .int .u32 (u[i]).1 := hd ⟨9, .data⟩ (by simp) rfl
      have e11 : Act.get a1 34 = .int .u32 kv.1 := hd ⟨11, .data⟩ (by simp) rfl
      exact Zt ⟨by simp, true, hd ⟨4, .guard⟩ (by simp) rfl, rfl⟩ rfl (x_lss (k := .u32) (m := (u[i]).1) (n := kv.1) e9 e11)
     ·intro a1 w2 hr hs hh
      have e4 : Act.get a1 27 = .bool true := hh 4 (by simp)
      have e12 : Act.get a1 35 = .bool (decide ((u[i]).1 < kv.1)) := hh 12 (by simp)
      refine Zv rfl (x_pickT (v := .bool (decide ((u[i]).1 < kv.1))) e4 e12) (wpList_nil ⟨rfl, (hs.mono fun t ht => .inl ht).put (.inr rfl) _, hr, decide ((u[i]).1 < kv.1), ?_, ?_⟩)
      ·rw [Zq (by rw [hs.size, cN]; decide)]
      ·rw [decide_eq_true_iff]; exact ⟨fun h => ⟨hin, h⟩, fun ⟨_, h⟩ => h⟩
   ·have hb8 := hb84
    ·refine region_vals2 (l := [_, _, _, _, _, _, _, _, _, _, _, _, _]) (tl := [_]) hord [23, 24, 25, 26, 27, 28, 29, 30, 31, 32, 33, 34, 35] [(.int .i64 (i : Nat)), (.slice oa u.length oc), (.int .i64 (u.length : Nat)), (.bool false), (.bool false), (undef), (undef), (undef), (undef), (undef), (undef), (undef), (undef)] rfl (by rfl) (by decide) (fun d hd => by rw [cN]; simp at hd; omega) (by simp) (by kernel_rfl) ⟨?_, ?_, ?_, ?_, ?_, ?_, ?_, ?_, ?_, ?_, ?_, ?_, ?_, trivial⟩ ?_
     ·intro a1 w2 hr hs hd
      have t0 := (hs.get 9 (by simp)).trans c9
      exact Zt rfl rfl (x_moveV t0)
     ·intro a1 w2 hr hs hd
      have t0 := (hs.get 6 (by simp)).trans c6
      exact Zt rfl rfl (x_moveV t0)
     ·intro a1 w2 hr hs hd
      have e1 : Act.get a1 24 = .slice oa u.length oc := hd ⟨1, .data⟩ (by simp) rfl
      exact Zt rfl rfl (x_len (by kernel_rfl) rfl e1)
     ·intro a1 w2 hr hs hd
      have e0 : Act.get a1 23 = .int .i64 (i : Nat) := hd ⟨0, .data⟩ (by simp) rfl
      have e2 : Act.get a1 25 = .int .i64 (u.length : Nat) := hd ⟨2, .data⟩ (by simp) rfl
      exact Zt rfl rfl ((x_lss (k := .i64) (m := (i : Nat)) (n := (u.length : Nat)) e0 e2).trans (by rw [show decide (((i : Nat) : Int) < (u.length : Nat)) = false from by first | exact decide_eq_true (by omega) | exact decide_eq_false (by omega)]; first | done | rfl))
     ·intro a1 w2 hr hs hd
      have e3 : Act.get a1 26 = .bool false := hd ⟨3, .data⟩ (by simp) rfl
      exact Zt rfl rfl (x_moveV e3)
     ·intro a1 w2 hr hs hd
      exact .inr ⟨⟨by simp, false, hd ⟨4, .guard⟩ (by simp) rfl, rfl⟩, rfl⟩
     ·intro a1 w2 hr hs hd
      exact .inr ⟨⟨by simp, false, hd ⟨4, .guard⟩ (by simp) rfl, rfl⟩, rfl⟩
     ·intro a1 w2 hr hs hd
      exact .inr ⟨⟨by simp, false, hd ⟨4, .guard⟩ (by simp) rfl, rfl⟩, rfl⟩
     ·intro a1 w2 hr hs hd
      exact .inr ⟨⟨by simp, false, hd ⟨4, .guard⟩ (by simp) rfl, rfl⟩, rfl⟩
     ·intro a1 w2 hr hs hd
      exact .inr ⟨⟨by simp, false, hd ⟨4, .guard⟩ (by simp) rfl, rfl⟩, rfl⟩
     ·intro a1 w2 hr hs hd
      exact .inr ⟨⟨by simp, false, hd ⟨4, .guard⟩ (by simp) rfl, rfl⟩, rfl⟩
     ·intro a1 w2 hr hs hd
      exact .inr ⟨⟨by simp, false, hd ⟨4, .guard⟩ (by simp) rfl, rfl⟩, rfl⟩
     ·intro a1 w2 hr hs hd
      exact .inr ⟨⟨by simp, false, hd ⟨4, .guard⟩ (by simp) rfl, rfl⟩, rfl⟩
     ·intro a1 w2 hr hs hh
      have e4 : Act.get a1 27 = .bool false := hh 4 (by simp)
      refine Zv rfl (x_pickF (v := .bool false) e4 rfl) (wpList_nil ⟨rfl, (hs.mono fun t ht => .inl ht).put (.inr rfl) _, hr, false, ?_, ?_⟩)
      ·rw [Zq (by rw [hs.size, cN]; decide)]
      ·exact ⟨(fun h => by cases h), (fun ⟨h, _⟩ => (hin h).elim)⟩
  rintro e d w5 ⟨rfl, hsd, hm45, b, d36, hb⟩
  have dN := hsd.size.trans cN
  have dd := hsd.defers.trans cd
  have dk : ∀ t ∈ [5, 6, 8, 9, 17, 18, 19], Act.get d t = Act.get c t := fun t ht => hsd.get t (by
   simp only [List.mem_cons, List.not_mem_nil, or_false] at ht ⊢
   omega)
  cases b with
  | true =>
   obtain ⟨hin, hlt1⟩ := hb.1 rfl
   refine wp_cond_true (by rw [Ze]; exact d36) (wp_skip ?_)
   refine wp_block (wp_region_lit (Zv rfl Zm (Zv rfl (x_add (k := .i64) (m := (i : Nat)) (n := 1) ?_ rfl) (Zv rfl Zi (wpList_nil ?_)))))
   ·simp (disch := first | omega | simp only [Zs]; omega) only [Zo, Ze, Zn, Zq, dk 9 (by decide), c9]
   refine ⟨j - 1, by omega, ?_, ?_, ?_, ?_, ?_, ⟨i + 1, by omega, ?_, fun q h hq => ?_⟩, hm34.trans hm45⟩
   ·simp only [Zs]; exact dN
   ·simp only [Zd]; exact dd
   ·intro t ht
    simp only [List.mem_cons, List.not_mem_nil, or_false] at ht
    rcases ht with rfl | rfl | rfl | rfl <;> (simp (disch := first | omega | simp only [Zs]; omega) only [Zo, Ze, Zn, Zq, dk 5 (by decide), dk 17 (by decide), dk 18 (by decide), dk 19 (by decide), ck 5 (by decide), ck 17 (by decide), ck 18 (by decide), ck 19 (by decide)])
   ·simp (disch := first | omega | simp only [Zs]; omega) only [Zo, Ze, Zn, Zq, dk 6 (by decide), c6]
   ·simp (disch := first | omega | simp only [Zs]; omega) only [Zo, Ze, Zn, Zq, dk 8 (by decide), c8]
   ·simp (disch := first | omega | simp only [Zs]; omega) only [Zo, Ze, Zn, Zq]
    congr 1
    rw [IntKind.wrap_i64]; omega
   ·rcases (by omega : q < i \/ q = i) with h1 | h1
    ·exact hlt q h h1
    ·subst h1; exact hlt1
  | false =>
   refine wp_cond_false (by rw [Ze]; exact d36) (wp_exit ?_)
   simp only [Exit.then, Exit.inBlock, if_true]
   have hge : ∀ h : i < u.length, ¬ (u[i]).1 < kv.1 := fun h h' => by have := hb.2 ⟨h, h'⟩; cases this
   have hm35 := hm34.trans hm45
   have dk' : ∀ t ∈ [5, 17, 18, 19], Act.get d t = Act.get a t := fun t ht => (dk t (by
    simp only [List.mem_cons, List.not_mem_nil, or_false] at ht ⊢
    omega)).trans (ck t ht)
   have d6 := (dk 6 (by decide)).trans c6
   have d8 := (dk 8 (by decide)).trans c8
   have d9 := (dk 9 (by decide)).trans c9
   clear hb d36 hsd hb84 hrow4 hm34 c9 c8 c6 c5 ck cd cN dk hm45
   refine wp_act (fun c : Act => c.tmps.size = 85 /\ c.defers = [] /\ (∀ t ∈ [5, 17, 18, 19], Act.get c t = Act.get a t) /\ Act.get c 6 = .slice oa u.length oc /\ Act.get c 8 = .pointer (some ⟨b8, 0, none⟩) /\ Act.get c 9 = .int .i64 (i : Nat)) ⟨dN, dd, dk', d6, d8, d9⟩ ?_
   clear d9 d8 d6 dk' dd dN d c w4
   rintro c ⟨cN, cd, ck, c6, c8, c9⟩
   have c5 : Act.get c 5 = .int .u32 0 := (ck 5 (by decide)).trans a5
   have c19 := (ck 19 (by decide)).trans a19
   have hb85 := hm35.some hb8 (fun f => f)
   have hrow5 := hrow3.mod hm35 (fun _ _ f => f)
   refine wp_seq (wp_seq (wp_mono (Q := fun e d w' => e = .normal /\ SameBut (fun t => t ∈ [39, 40, 41, 42, 43, 44, 45, 46, 47, 48, 49, 50, 51, 52, 53, 54, 55, 56, 57] \/ t = 58) c d /\ Mod none' w5 w' /\ ∃ b : Bool, Act.get d 58 = .bool b /\ (b = true ↔ ∃ h : i < u.length, (u[i]).1 = kv.1)) ?_ ?_))
   ·by_cases hin : i < u.length
    ·obtain ⟨gb, ocap, cur, hov, g1, hgb, g3, g4, g5, g6⟩ := hrow5.cells (by omega)
     obtain ⟨hoa, rfl⟩ : oa = some ⟨gb, 0, none⟩ /\ oc = ocap := by simpa using hov
     have hcu : cur[i * 2]? = some (.int .u32 (u[i]).1) := (g6 i hin).1.trans (congrArg some (hff i hin).1)
     have hb8 := hb85
     refine region_vals2 (l := [_, _, _, _, _, _, _, _, _, _, _, _, _, _, _, _, _, _, _]) (tl := [_]) hord [39, 40, 41, 42, 43, 44, 45, 46, 47, 48, 49, 50, 51, 52, 53, 54, 55, 56, 57] [(.pointer (some ⟨b8, 0 + 0, none⟩)), (.int .u32 kv.1), (.int .u32 0), (.bool false), (.bool false), (.int .i64 (i : Nat)), (.slice oa u.length oc), (.int .i64 (u.length : Nat)), (.bool true), (.bool true), (.slice oa u.length oc), (.int .i64 (i : Nat)), (.pointer (some ⟨gb, 0 + i * 2, none⟩)), (.pointer (some ⟨gb, 0 + i * 2 + 0, none⟩)), (.int .u32 (u[i]).1), (.pointer (some ⟨b8, 0 + 0, none⟩)), (.int .u32 kv.1), (.bool ((u[i]).1 == kv.1)), (.bool ((u[i]).1 == kv.1))] rfl (by rfl) (by decide) (fun d hd => by rw [cN]; simp at hd; omega) (by simp) (by kernel_rfl) ⟨?_, ?_, ?_, ?_, ?_, ?_, ?_, ?_, ?_, ?_, ?_, ?_, ?_, ?_, ?_, ?_, ?_, ?_, ?_, trivial⟩ ?_
     ·intro a1 w2 hr hs hd
      have t8 := (hs.get 8 (by simp)).trans c8
      exact Zt rfl rfl (Za hF0 t8)
     ·intro a1 w2 hr hs hd
      have e10 : Act.get a1 39 = .pointer (some ⟨b8, 0 + 0, none⟩) := hd ⟨0, .data⟩ (by simp) rfl
      exact Zt rfl rfl (Zl h1U e10 ((Zc (hr.some hb8 (fun f => f))).trans rfl))
     ·intro a1 w2 hr hs hd
      have t0 := (hs.get 5 (by simp)).trans c5
      exact Zt rfl rfl (x_moveV t0)
     ·intro a1 w2 hr hs hd
      have e1 : Act.get a1 40 = .int .u32 kv.1 := hd ⟨1, .data⟩ (by simp) rfl
      have e2 : Act.get a1 41 = .int .u32 0 := hd ⟨2, .data⟩ (by simp) rfl
      exact Zt rfl rfl ((x_lss (k := .u32) (m := kv.1) (n := 0) e1 e2).trans (by rw [show decide (kv.1 < 0) = false from decide_eq_false (by omega)]; first | done | rfl))
     ·intro a1 w2 hr hs hd
      have e3 : Act.get a1 42 = .bool false := hd ⟨3, .data⟩ (by simp) rfl
      exact Zt rfl rfl (x_moveV e3)
     ·intro a1 w2 hr hs hd
      have t0 := (hs.get 9 (by simp)).trans c9
      exact Zt ⟨by simp, false, hd ⟨4, .guard⟩ (by simp) rfl, rfl⟩ rfl (x_moveV t0)
     ·intro a1 w2 hr hs hd
      have t0 := (hs.get 6 (by simp)).trans c6
      exact Zt ⟨by simp, false, hd ⟨4, .guard⟩ (by simp) rfl, rfl⟩ rfl (x_moveV t0)
     ·intro a1 w2 hr hs hd
      have e1 : Act.get a1 45 = .slice oa u.length oc := hd ⟨6, .data⟩ (by simp) rfl
      exact Zt ⟨by simp, false, hd ⟨4, .guard⟩ (by simp) rfl, rfl⟩ rfl (x_len (by kernel_rfl) rfl e1)
     ·intro a1 w2 hr hs hd
      have e0 : Act.get a1 44 = .int .i64 (i : Nat) := hd ⟨5, .data⟩ (by simp) rfl
      have e2 : Act.get a1 46 = .int .i64 (u.length : Nat) := hd ⟨7, .data⟩ (by simp) rfl
      exact Zt ⟨by simp, false, hd ⟨4, .guard⟩ (by simp) rfl, rfl⟩ rfl ((x_lss (k := .i64) (m := (i : Nat)) (n := (u.length : Nat)) e0 e2).trans (by rw [show decide (((i : Nat) : Int) < (u.length : Nat)) = true from by first | exact decide_eq_true (by omega) | exact decide_eq_false (by omega)]; first | done | rfl))
     ·intro a1 w2 hr hs hd
      have e3 : Act.get a1 47 = .bool true := hd ⟨8, .data⟩ (by simp) rfl
      exact Zt ⟨by simp, false, hd ⟨4, .guard⟩ (by simp) rfl, rfl⟩ rfl (x_moveV e3)
     ·intro a1 w2 hr hs hd
      have t0 := (hs.get 6 (by simp)).trans c6
      exact Zt ⟨by simp, true, hd ⟨9, .guard⟩ (by simp) rfl, rfl⟩ rfl (x_moveV t0)
     ·intro a1 w2 hr hs hd
      have t0 := (hs.get 9 (by simp)).trans c9
      exact Zt ⟨by simp, true, hd ⟨9, .guard⟩ (by simp) rfl, rfl⟩ rfl (x_moveV t0)
     ·intro a1 w2 hr hs hd
      have e5 : Act.get a1 49 = .slice oa u.length oc := hd ⟨10, .data⟩ (by simp) rfl
      have e6 : Act.get a1 50 = .int .i64 (i : Nat) := hd ⟨11, .data⟩ (by simp) rfl
      exact Zt ⟨by simp, true, hd ⟨9, .guard⟩ (by simp) rfl, rfl⟩ rfl (Zx (b := gb) (o := 0) (n := u.length) (cap := oc) (i := i) (sz := 2) (k := .i64) (by kernel_rfl) (by rw [<- hoa]; exact e5) e6 hin)
     ·intro a1 w2 hr hs hd
      have e7 : Act.get a1 51 = .pointer (some ⟨gb, 0 + i * 2, none⟩) := hd ⟨12, .data⟩ (by simp) rfl
      exact Zt ⟨by simp, true, hd ⟨9, .guard⟩ (by simp) rfl, rfl⟩ rfl (Za hF0 e7)
     ·intro a1 w2 hr hs hd
      have e8 : Act.get a1 52 = .pointer (some ⟨gb, 0 + i * 2 + 0, none⟩) := hd ⟨13, .data⟩ (by simp) rfl
      exact Zt ⟨by simp, true, hd ⟨9, .guard⟩ (by simp) rfl, rfl⟩ rfl (Zl h1U e8 ((Zc (hr.some hgb (fun f => f))).trans (by rw [show 0 + i * 2 + 0 = i * 2 by omega]; exact hcu)))
     ·intro a1 w2 hr hs hd
      have t8 := (hs.get 8 (by simp)).trans c8
      exact Zt ⟨by simp, true, hd ⟨9, .guard⟩ (by simp) rfl, rfl⟩ rfl (Za hF0 t8)
     ·intro a1 w2 hr hs hd
      have e10 : Act.get a1 54 = .pointer (some ⟨b8, 0 + 0, none⟩) := hd ⟨15, .data⟩ (by simp) rfl
      exact Zt ⟨by simp, true, hd ⟨9, .guard⟩ (by simp) rfl, rfl⟩ rfl (Zl h1U e10 ((Zc (hr.some hb8 (fun f => f))).trans rfl))
     ·intro a1 w2 hr hs hd
      have e9 : Act.get a1 53 = .int .u32 (u[i]).1 := hd ⟨14, .data⟩ (by simp) rfl
      have e11 : Act.get a1 55 = .int .u32 kv.1 := hd ⟨16, .data⟩ (by simp) rfl
      exact Zt ⟨by simp, true, hd ⟨9, .guard⟩ (by simp) rfl, rfl⟩ rfl (x_eqlI (k := .u32) (m := (u[i]).1) (n := kv.1) e9 e11)
     ·intro a1 w2 hr hs hd
      have e9 : Act.get a1 48 = .bool true := hd ⟨9, .data⟩ (by simp) rfl
      have e11 : Act.get a1 56 = .bool ((u[i]).1 == kv.1) := hd ⟨17, .data⟩ (by simp) rfl
      exact Zt ⟨by simp, false, hd ⟨4, .guard⟩ (by simp) rfl, rfl⟩ rfl (x_pickT (v := .bool ((u[i]).1 == kv.1)) e9 e11)
     ·intro a1 w2 hr hs hh
      have e4 : Act.get a1 43 = .bool false := hh 4 (by simp)
      have e12 : Act.get a1 57 = .bool ((u[i]).1 == kv.1) := hh 18 (by simp)
      refine Zv rfl (x_pickF (v := .bool ((u[i]).1 == kv.1)) e4 e12) (wpList_nil ⟨rfl, (hs.mono fun t ht => .inl ht).put (.inr rfl) _, hr, ((u[i]).1 == kv.1), ?_, ?_⟩)
      ·rw [Zq (by rw [hs.size, cN]; decide)]
      ·rw [beq_iff_eq]; exact ⟨fun h => ⟨hin, h⟩, fun ⟨_, h⟩ => h⟩
    ·have hb8 := hb85
     refine region_vals2 (l := [_, _, _, _, _, _, _, _, _, _, _, _, _, _, _, _, _, _, _]) (tl := [_]) hord [39, 40, 41, 42, 43, 44, 45, 46, 47, 48, 49, 50, 51, 52, 53, 54, 55, 56, 57] [(.pointer (some ⟨b8, 0 + 0, none⟩)), (.int .u32 kv.1), (.int .u32 0), (.bool false), (.bool false), (.int .i64 (i : Nat)), (.slice oa u.length oc), (.int .i64 (u.length : Nat)), (.bool false), (.bool false), (undef), (undef), (undef), (undef), (undef), (undef), (undef), (undef), (.bool false)] rfl (by rfl) (by decide) (fun d hd => by rw [cN]; simp at hd; omega) (by simp) (by kernel_rfl) ⟨?_, ?_, ?_, ?_, ?_, ?_, ?_, ?_, ?_, ?_, ?_, ?_, ?_, ?_, ?_, ?_, ?_, ?_, ?_, trivial⟩ ?_
     ·intro a1 w2 hr hs hd
      have t8 := (hs.get 8 (by simp)).trans c8
      exact Zt rfl rfl (Za hF0 t8)
     ·intro a1 w2 hr hs hd
      have e10 : Act.get a1 39 = .pointer (some ⟨b8, 0 + 0, none⟩) := hd ⟨0, .data⟩ (by simp) rfl
      exact Zt rfl rfl (Zl h1U e10 ((Zc (hr.some hb8 (fun f => f))).trans rfl))
     ·intro a1 w2 hr hs hd
      have t0 := (hs.get 5 (by simp)).trans c5
      exact Zt rfl rfl (x_moveV t0)
     ·intro a1 w2 hr hs hd
      have e1 : Act.get a1 40 = .int .u32 kv.1 := hd ⟨1, .data⟩ (by simp) rfl
      have e2 : Act.get a1 41 = .int .u32 0 := hd ⟨2, .data⟩ (by simp) rfl
      exact Zt rfl rfl ((x_lss (k := .u32) (m := kv.1) (n := 0) e1 e2).trans (by rw [show decide (kv.1 < 0) = false from decide_eq_false (by omega)]; first | done | rfl))
     ·intro a1 w2 hr hs hd
      have e3 : Act.get a1 42 = .bool false := hd ⟨3, .data⟩ (by simp) rfl
      exact Zt rfl rfl (x_moveV e3)
     ·intro a1 w2 hr hs hd
      have t0 := (hs.get 9 (by simp)).trans c9
      exact Zt ⟨by simp, false, hd ⟨4, .guard⟩ (by simp) rfl, rfl⟩ rfl (x_moveV t0)
     ·intro a1 w2 hr hs hd
      have t0 := (hs.get 6 (by simp)).trans c6
      exact Zt ⟨by simp, false, hd ⟨4, .guard⟩ (by simp) rfl, rfl⟩ rfl (x_moveV t0)
     ·intro a1 w2 hr hs hd
      have e1 : Act.get a1 45 = .slice oa u.length oc := hd ⟨6, .data⟩ (by simp) rfl
      exact Zt ⟨by simp, false, hd ⟨4, .guard⟩ (by simp) rfl, rfl⟩ rfl (x_len (by kernel_rfl) rfl e1)
     ·intro a1 w2 hr hs hd
      have e0 : Act.get a1 44 = .int .i64 (i : Nat) := hd ⟨5, .data⟩ (by simp) rfl
      have e2 : Act.get a1 46 = .int .i64 (u.length : Nat) := hd ⟨7, .data⟩ (by simp) rfl
      exact Zt ⟨by simp, false, hd ⟨4, .guard⟩ (by simp) rfl, rfl⟩ rfl ((x_lss (k := .i64) (m := (i : Nat)) (n := (u.length : Nat)) e0 e2).trans (by rw [show decide (((i : Nat) : Int) < (u.length : Nat)) = false from by first | exact decide_eq_true (by omega) | exact decide_eq_false (by omega)]; first | done | rfl))
     ·intro a1 w2 hr hs hd
      have e3 : Act.get a1 47 = .bool false := hd ⟨8, .data⟩ (by simp) rfl
      exact Zt ⟨by simp, false, hd ⟨4, .guard⟩ (by simp) rfl, rfl⟩ rfl (x_moveV e3)
     ·intro a1 w2 hr hs hd
      exact .inr ⟨⟨by simp, false, hd ⟨9, .guard⟩ (by simp) rfl, rfl⟩, rfl⟩
     ·intro a1 w2 hr hs hd
      exact .inr ⟨⟨by simp, false, hd ⟨9, .guard⟩ (by simp) rfl, rfl⟩, rfl⟩
     ·intro a1 w2 hr hs hd
      exact .inr ⟨⟨by simp, false, hd ⟨9, .guard⟩ (by simp) rfl, rfl⟩, rfl⟩
     ·intro a1 w2 hr hs hd
      exact .inr ⟨⟨by simp, false, hd ⟨9, .guard⟩ (by simp) rfl, rfl⟩, rfl⟩
     ·intro a1 w2 hr hs hd
      exact .inr ⟨⟨by simp, false, hd ⟨9, .guard⟩ (by simp) rfl, rfl⟩, rfl⟩
     ·intro a1 w2 hr hs hd
      exact .inr ⟨⟨by simp, false, hd ⟨9, .guard⟩ (by simp) rfl, rfl⟩, rfl⟩
     ·intro a1 w2 hr hs hd
      exact .inr ⟨⟨by simp, false, hd ⟨9, .guard⟩ (by simp) rfl, rfl⟩, rfl⟩
     ·intro a1 w2 hr hs hd
      exact .inr ⟨⟨by simp, false, hd ⟨9, .guard⟩ (by simp) rfl, rfl⟩, rfl⟩
     ·intro a1 w2 hr hs hd
      have e9 : Act.get a1 48 = .bool false := hd ⟨9, .data⟩ (by simp) rfl
      exact Zt ⟨by simp, false, hd ⟨4, .guard⟩ (by simp) rfl, rfl⟩ rfl (x_pickF (v := .bool false) e9 rfl)
     ·intro a1 w2 hr hs hh
      have e4 : Act.get a1 43 = .bool false := hh 4 (by simp)
      have e12 : Act.get a1 57 = .bool false := hh 18 (by simp)
      refine Zv rfl (x_pickF (v := .bool false) e4 e12) (wpList_nil ⟨rfl, (hs.mono fun t ht => .inl ht).put (.inr rfl) _, hr, false, ?_, ?_⟩)
      ·rw [Zq (by rw [hs.size, cN]; decide)]
      ·exact ⟨(fun h => by cases h), (fun ⟨h, _⟩ => (hin h).elim)⟩
   rintro e d w6 ⟨rfl, hsd, hm56, b, d58, hb⟩
   have dN := hsd.size.trans cN
   have dd := hsd.defers.trans cd
   have dk : ∀ t ∈ [5, 6, 8, 9, 17, 18, 19], Act.get d t = Act.get c t := fun t ht => hsd.get t (by
    simp only [List.mem_cons, List.not_mem_nil, or_false] at ht ⊢
    omega)
   have hm36 := hm35.trans hm56
   have hm06 := hm03.trans hm36
   have hs03 := hm03.size
   have hs13 := hm13.size
   have hs36 := hm36.size
   cases b with
   | true =>
    obtain ⟨hin, heq⟩ := hb.1 rfl
    have hins : insTag u kv = u := insTag_there (i := i) hin (fun q hq => hlt q (by omega) hq) heq
    refine wp_cond_true (by rw [Ze]; exact d58) (wp_exit ?_)
    simp only [Exit.then, Exit.inBlock, if_true]
    refine wp_region_lit (Zv rfl (x_add (k := .i64) (m := ((V.length - m : Nat) : Int)) (n := 1) ?_ rfl) (Zv rfl Zm (wpList_nil ?_)))
    ·simp (disch := first | omega | simp only [Zs]; omega) only [Zo, Ze, Zn, Zq, dk 19 (by decide), c19]
    refine ⟨m - 1, hm1l, ?_, ?_, ?_, ?_, ?_, hm1V, ?_, hm06, ?_⟩
    ·simp only [Zs]; exact dN
    ·simp only [Zd]; exact dd
    ·simp (disch := first | omega | simp only [Zs]; omega) only [Zo, Ze, Zn, Zq, dk 5 (by decide), c5]
    ·simp (disch := first | omega | simp only [Zs]; omega) only [Zo, Ze, Zn, Zq, dk 17 (by decide), ck 17 (by decide), a17]
    ·simp (disch := first | omega | simp only [Zs]; omega) only [Zo, Ze, Zn, Zq, dk 18 (by decide), ck 18 (by decide), a18]
    ·simp (disch := first | omega | simp only [Zs]; omega) only [Zo, Ze, Zn, Zq]
     rw [hwm]
    ·simp (disch := first | omega | simp only [Zs]; omega) only [Zo, Ze, Zn, Zq, dk 6 (by decide), c6]
     rw [hVm, hfold, hins]
     exact ⟨f, hrow3.mod hm36 (fun _ _ f => f), hff⟩
   | false =>
    have hins : insTag u kv = u.take i ++ kv :: u.drop i := insTag_at (by omega) (fun q hq => hlt q (by omega) hq) (fun h => by
     have h1 := hge h
     have h2 : ¬ (u[i]).1 = kv.1 := fun h' => by have := hb.2 ⟨h, h'⟩; cases this
     omega)
    refine wp_cond_false (by rw [Ze]; exact d58) (wp_skip ?_)
    obtain ⟨xs, hown6, hxs⟩ := hrow3.mod hm36 (fun _ _ f => f)
    have hxl : xs.length = u.length * 2 := hown6.1
    have k7 := Zh w6 (.cells (Value.agg #[.int .u32 0, .slice none 0 0]).cells 60)
    have m7 : Mod none' w6 (w6.alloc (.cells (Value.agg #[.int .u32 0, .slice none 0 0]).cells 60)) := (Mod.refl w6).alloc _
    have s7 : (w6.alloc (.cells (Value.agg #[.int .u32 0, .slice none 0 0]).cells 60)).heap.size = w6.heap.size + 1 := by simp
    refine wp_seq (wp_region_lit (Zv rfl Zm (Zv rfl (x_build (cells := #[.int .u32 0, .slice none 0 0]) (by simpa using zTag)) (Zv rfl (x_buildSlice1 (v := .agg #[.int .u32 0, .slice none 0 0]) hI ?_ rfl) ?_))))
    ·simp (disch := first | omega | simp only [Zs]; omega) only [Zo, Ze, Zn, Zq]
    generalize w6.alloc (.cells (Value.agg #[.int .u32 0, .slice none 0 0]).cells 60) = w7 at *
    refine wpl_append (base := w0.heap.size) (v := .slice oa u.length oc) (n := u.length) (xs := xs) (ad := ⟨w6.heap.size, 0, none⟩) (m := 1) (c := 1) (news := [.int .u32 0, .slice none 0 0]) hI ?_ ?_ (ownsRow_mod hown6 m7 (fun _ _ f => f)) rfl (fun j z hz => ?_) (fun z hz => ?_) (by omega) (by omega) ?_
    ·simp (disch := first | omega | simp only [Zs]; omega) only [Zo, Ze, Zn, Zq, dk 6 (by decide), c6]
    ·simp (disch := first | omega | simp only [Zs]; omega) only [Zo, Ze, Zn, Zq]
    ·rw [Addr.add_mid, Zc k7, Nat.zero_add]
     rcases j with _ | _ | j
     ·rw [<- hz]; rfl
     ·rw [<- hz]; rfl
     ·simp at hz
    ·simp only [List.mem_cons, List.not_mem_nil, or_false] at hz
     rcases hz with rfl | rfl <;> rfl
    intro v8 w8 hown8 hm78 _ hob8
    have hrow8 : TagRow w8 w0.heap.size v8 (u.length + 1) (fun i => if i < u.length then f i else (.int .u32 0, .slice none 0 0)) := TagRow.push hxs hxl hown8
    obtain ⟨gb, gc, cur, rfl, g1, g2, g3, g4, g5, g6⟩ := hrow8.cells (by omega)
    have hm37 := hm36.trans m7
    have hb87 := hm37.some hb8 (fun f => f)
    have hb88 : w8.heap[b8]? = some (.cells #[.int .u32 kv.1, vv] 60 (0, 0)) := hm78.some hb87 (fun e => by have := h6lt b8 e; omega)
    have hgb8 : gb ≠ b8 := fun e => by
     rcases hob8 gb rfl with h | h
     ·have := h6lt gb h; omega
     ·have := hm37.size; omega
    have hm08 : Mod none' w0 w8 := (hm06.trans m7).fresh (hm78.mono fun k hk e => (h6lt k e).1)
    refine Zv rfl Zi (wpList_nil ?_)
    refine wp_seq (wp_seq (wp_region_lit (Zv rfl Zm (Zv rfl (x_len (by kernel_rfl) rfl (ao := some ⟨gb, 0, none⟩) (cap := gc) (n := u.length + 1) ?_) (Zv rfl (x_sub (k := .i64) (m := ((u.length + 1 : Nat) : Int)) (n := 1) ?_ rfl) (Zv rfl Zi (wpList_nil ?_)))))))
    ·simp (disch := first | omega | simp only [Zs]; omega) only [Zo, Ze, Zn, Zq]
    ·simp (disch := first | omega | simp only [Zs]; omega) only [Zo, Ze, Zn, Zq]
    rw [show IntKind.i64.wrap (((u.length + 1 : Nat) : Int) - 1) = ((u.length : Nat) : Int) by rw [IntKind.wrap_i64]; omega]
    obtain ⟨X, hX⟩ : ∃ X : Nat -> Value × Value, X = fun i => if i < u.length then f i else (.int .u32 0, .slice none 0 0) := ⟨_, rfl⟩
    rw [<- hX] at hrow8
    have hone : ∀ t, t < u.length + 1 -> (X t).1.oneCell' = true /\ (X t).2.oneCell' = true := by
     intro t ht
     rw [hX]
     by_cases h : t < u.length
     ·simp only [if_pos h]
      obtain ⟨h1, h2⟩ := hff t h
      obtain ⟨_, _, h3, _⟩ := h2.slice
      rw [h1, h3]; exact ⟨rfl, rfl⟩
     ·simp only [if_neg h]; exact ⟨rfl, rfl⟩
    refine wp_block ?_
    refine wp_loop_ghost (fun (q : Nat) (d : Act) (w' : World) => d.tmps.size = 85 /\ d.defers = [] /\ (∀ t ∈ [5, 17, 18, 19], Act.get d t = Act.get a t) /\ Act.get d 6 = .slice (some ⟨gb, 0, none⟩) (u.length + 1) gc /\ Act.get d 8 = .pointer (some ⟨b8, 0, none⟩) /\ Act.get d 9 = .int .i64 (i : Nat) /\ Act.get d 10 = .int .i64 ((i + q : Nat) : Int) /\ i + q <= u.length /\
     TagRow w' w0.heap.size (.slice (some ⟨gb, 0, none⟩) (u.length + 1) gc) (u.length + 1) (fun t => if t <= i + q then X t else X (t - 1)) /\ w'.heap[b8]? = some (.cells #[.int .u32 kv.1, vv] 60 (0, 0)) /\ Mod none' w0 w') (u.length - i) ⟨?_, ?_, ?_, ?_, ?_, ?_, ?_, by omega, hrow8.congr (fun t ht => if_pos (by omega)), hb88, hm08⟩ ?_
    ·simp only [Zs]; exact dN
    ·simp only [Zd]; exact dd
    ·intro t ht
     simp only [List.mem_cons, List.not_mem_nil, or_false] at ht
     rcases ht with rfl | rfl | rfl | rfl <;> (simp (disch := first | omega | simp only [Zs]; omega) only [Zo, Ze, Zn, Zq, dk 5 (by decide), dk 17 (by decide), dk 18 (by decide), dk 19 (by decide), ck 5 (by decide), ck 17 (by decide), ck 18 (by decide), ck 19 (by decide)])
    ·simp (disch := first | omega | simp only [Zs]; omega) only [Zo, Ze, Zn, Zq]
    ·simp (disch := first | omega | simp only [Zs]; omega) only [Zo, Ze, Zn, Zq, dk 8 (by decide), c8]
    ·simp (disch := first | omega | simp only [Zs]; omega) only [Zo, Ze, Zn, Zq, dk 9 (by decide), c9]
    ·simp (disch := first | omega | simp only [Zs]; omega) only [Zo, Ze, Zn, Zq]
     congr 1
     omega
    clear c8 c6 c5 ck cd cN c9 c19 dk dd dN d58 hsd d c
    rintro q c w9 ⟨cN, cd, ck, c6, c8, c9, c10, hiq, hrow9, hb89, hm09⟩
    have c19 := (ck 19 (by decide)).trans a19
    refine wp_seq (wp_seq (wp_region_lit (Zv rfl Zm (Zv rfl Zm (Zv rfl (x_gtr (k := .i64) (m := ((i + q : Nat) : Int)) (n := (i : Nat)) ?_ ?_) (wpList_nil ?_))))))
    ·simp (disch := first | omega | simp only [Zs]; omega) only [Zo, Ze, Zn, Zq, c10]
    ·simp (disch := first | omega | simp only [Zs]; omega) only [Zo, Ze, Zn, Zq, c9]
    obtain ⟨gb', gc', cur9, hv9, _, k9, p3, p4, p5, p6⟩ := hrow9.cells (by omega)
    obtain ⟨rfl, rfl⟩ : gb = gb' /\ gc = gc' := by simpa using hv9
    by_cases hq0 : 0 < q
    ·refine wp_cond_true ?_ (wp_skip ?_)
     ·rw [Ze, Zq (by simp only [Zs]; omega)]; simp; omega
     have pj := p6 (i + q - 1) (by omega)
     simp only [if_pos (show i + q - 1 <= i + q by omega)] at pj
     have hoj := hone (i + q - 1) (by omega)
     refine wp_seq (wp_block (wp_region_lit (Zv rfl Zm (Zv rfl Zm (Zv rfl Zm (Zv rfl Zm (Zv rfl (x_sub (k := .i64) (m := ((i + q : Nat) : Int)) (n := 1) ?_ rfl) (Zv rfl (Zx (sz := 2) (i := i + q - 1) (b := gb) (o := 0) (n := u.length + 1) (cap := gc) (k := .i64) (by kernel_rfl) ?_ ?_ (by omega))
      (Zv rfl (x_loadN (cs := [(X (i + q - 1)).1, (X (i + q - 1)).2]) (b := gb) (o := 0 + (i + q - 1) * 2) (by kernel_rfl) ?_ (fun j v hv => ?_)) (Zv rfl (Zx (sz := 2) (i := i + q) (b := gb) (o := 0) (n := u.length + 1) (cap := gc) (k := .i64) (by kernel_rfl) ?_ ?_ (by omega)) (wpl_skip rfl (x_storeN (cs := #[(X (i + q - 1)).1, (X (i + q - 1)).2]) (b := gb) (o := 0 + (i + q) * 2) (by kernel_rfl) ?_ ?_ ?_ ?_) (wpList_nil ?_))))))))))))
     ·simp (disch := first | omega | simp only [Zs]; omega) only [Zo, Ze, Zn, Zq, c10]
     ·simp (disch := first | omega | simp only [Zs]; omega) only [Zo, Ze, Zn, Zq, c6]
     ·simp (disch := first | omega | simp only [Zs]; omega) only [Zo, Ze, Zn, Zq]
      congr 1
      rw [IntKind.wrap_i64]; omega
     ·simp (disch := first | omega | simp only [Zs]; omega) only [Zo, Ze, Zn, Zq]
     ·rw [Zc k9]
      rcases j with _ | _ | j
      ·rw [<- hv, Nat.zero_add]; exact pj.1
      ·rw [<- hv, Nat.zero_add]; exact pj.2
      ·simp at hv
     ·simp (disch := first | omega | simp only [Zs]; omega) only [Zo, Ze, Zn, Zq, c6]
     ·simp (disch := first | omega | simp only [Zs]; omega) only [Zo, Ze, Zn, Zq, c10]
     ·simp (disch := first | omega | simp only [Zs]; omega) only [Zo, Ze, Zn, Zq]
     ·simp (disch := first | omega | simp only [Zs]; omega) only [Zo, Ze, Zn, Zq]
     ·simp [hoj.1, hoj.2]
     ·intro j hj
      have hj2 : j < 2 := hj
      rw [Zc k9, Zz k9, Nat.zero_add]
      exact ⟨by rw [Array.getElem?_eq_getElem (by omega)]; rfl, rfl⟩
     rw [Nat.zero_add ((i + q) * 2)]
     have hrow10 := (hrow9.set (i := i + q) (x := (X (i + q - 1)).1) (y := (X (i + q - 1)).2) (by omega)).congr (f' := fun t => if t <= i + (q - 1) then X t else X (t - 1)) (fun t ht => by
      by_cases h1 : t = i + q
      ·subst h1
       simp only [if_true]
       rw [if_neg (by omega)]
      ·rw [if_neg h1]
       by_cases h2 : t <= i + q
       ·rw [if_pos h2, if_pos (by omega)]
       ·rw [if_neg h2, if_neg (by omega)])
     have m10 := mod_setCells gb w9 ((i + q) * 2) [(X (i + q - 1)).1, (X (i + q - 1)).2]
     have hb810 := m10.some hb89 (fun e => hgb8 e.symm)
     have hm010 : Mod none' w0 (w9.setCells gb ((i + q) * 2) [(X (i + q - 1)).1, (X (i + q - 1)).2]) := hm09.fresh (m10.mono fun k hk e => by have e' : k = gb := e; omega)
     generalize w9.setCells gb ((i + q) * 2) [(X (i + q - 1)).1, (X (i + q - 1)).2] = w10 at *
     simp only [Exit.then, Exit.inBlock]
     refine wp_region_lit (Zv rfl Zm (Zv rfl (x_sub (k := .i64) (m := ((i + q : Nat) : Int)) (n := 1) ?_ rfl) (Zv rfl Zi (wpList_nil ?_))))
     ·simp (disch := first | omega | simp only [Zs]; omega) only [Zo, Ze, Zn, Zq, c10]
     refine ⟨q - 1, by omega, ?_, ?_, ?_, ?_, ?_, ?_, ?_, by omega, hrow10, hb810, hm010⟩
     ·simp only [Zs]; exact cN
     ·simp only [Zd]; exact cd
     ·intro t ht
      simp only [List.mem_cons, List.not_mem_nil, or_false] at ht
      rcases ht with rfl | rfl | rfl | rfl <;> (simp (disch := first | omega | simp only [Zs]; omega) only [Zo, Ze, Zn, Zq, ck 5 (by decide), ck 17 (by decide), ck 18 (by decide), ck 19 (by decide)])
     ·simp (disch := first | omega | simp only [Zs]; omega) only [Zo, Ze, Zn, Zq, c6]
     ·simp (disch := first | omega | simp only [Zs]; omega) only [Zo, Ze, Zn, Zq, c8]
     ·simp (disch := first | omega | simp only [Zs]; omega) only [Zo, Ze, Zn, Zq, c9]
     ·simp (disch := first | omega | simp only [Zs]; omega) only [Zo, Ze, Zn, Zq]
      congr 1
      rw [IntKind.wrap_i64]; omega
    ·refine wp_cond_false ?_ (wp_exit ?_)
     ·rw [Ze, Zq (by simp only [Zs]; omega)]; simp; omega
     simp only [Exit.then, Exit.inBlock, if_true]
     have hq : q = 0 := by omega
     subst hq
     refine wp_region_lit (Zv rfl Zm (Zv rfl Zm (Zv rfl (x_loadN (cs := [.int .u32 kv.1, vv]) (b := b8) (o := 0) (by kernel_rfl) ?_ (fun j v hv => ?_)) (Zv rfl (Zx (sz := 2) (i := i) (b := gb) (o := 0) (n := u.length + 1) (cap := gc) (k := .i64) (by kernel_rfl) ?_ ?_ (by omega)) (wpl_skip rfl (x_storeN (cs := #[.int .u32 kv.1, vv]) (b := gb) (o := 0 + i * 2) (by kernel_rfl) ?_ ?_ ?_ ?_) (wpList_nil ?_))))))
     ·simp (disch := first | omega | simp only [Zs]; omega) only [Zo, Ze, Zn, Zq, c8]
     ·rw [Zc hb89, Nat.zero_add]
      rcases j with _ | _ | j
      ·rw [<- hv]; rfl
      ·rw [<- hv]; rfl
      ·simp at hv
     ·simp (disch := first | omega | simp only [Zs]; omega) only [Zo, Ze, Zn, Zq, c6]
     ·simp (disch := first | omega | simp only [Zs]; omega) only [Zo, Ze, Zn, Zq, c9]
     ·simp (disch := first | omega | simp only [Zs]; omega) only [Zo, Ze, Zn, Zq]
     ·simp (disch := first | omega | simp only [Zs]; omega) only [Zo, Ze, Zn, Zq]
     ·rw [hvv]; simp [Value.oneCell']
     ·intro j hj
      have hj2 : j < 2 := hj
      rw [Zc k9, Zz k9, Nat.zero_add]
      exact ⟨by rw [Array.getElem?_eq_getElem (by omega)]; rfl, rfl⟩
     rw [Nat.zero_add (i * 2)]
     have hrow10 := hrow9.set (i := i) (x := .int .u32 kv.1) (y := vv) (by omega)
     have m10 := mod_setCells gb w9 (i * 2) [.int .u32 kv.1, vv]
     have hm010 : Mod none' w0 (w9.setCells gb (i * 2) [.int .u32 kv.1, vv]) := hm09.fresh (m10.mono fun k hk e => by have e' : k = gb := e; omega)
     generalize w9.setCells gb (i * 2) [.int .u32 kv.1, vv] = w10 at *
     simp only [Exit.then, Exit.inBlock]
     refine wp_region_lit (Zv rfl (x_add (k := .i64) (m := ((V.length - m : Nat) : Int)) (n := 1) ?_ rfl) (Zv rfl Zm (wpList_nil ?_)))
     ·simp (disch := first | omega | simp only [Zs]; omega) only [Zo, Ze, Zn, Zq, c19]
     refine ⟨m - 1, hm1l, ?_, ?_, ?_, ?_, ?_, hm1V, ?_, hm010, ?_⟩
     ·simp only [Zs]; exact cN
     ·simp only [Zd]; exact cd
     ·simp (disch := first | omega | simp only [Zs]; omega) only [Zo, Ze, Zn, Zq, ck 5 (by decide), a5]
     ·simp (disch := first | omega | simp only [Zs]; omega) only [Zo, Ze, Zn, Zq, ck 17 (by decide), a17]
     ·simp (disch := first | omega | simp only [Zs]; omega) only [Zo, Ze, Zn, Zq, ck 18 (by decide), a18]
     ·simp (disch := first | omega | simp only [Zs]; omega) only [Zo, Ze, Zn, Zq]
      rw [hwm]
     ·simp (disch := first | omega | simp only [Zs]; omega) only [Zo, Ze, Zn, Zq, c6]
      rw [hVm, hfold, hins]
      have hnl : (u.take i ++ kv :: u.drop i).length = u.length + 1 := by simp; omega
      refine ⟨_, by rw [hnl]; exact hrow10, fun t ht => ?_⟩
      have hti := ins_get (p := kv) (show i <= u.length by omega) ht
      rw [List.getElem?_eq_getElem ht] at hti
      by_cases h1 : t = i
      ·rw [if_pos h1] at hti
       have hti' := Option.some.inj hti
       rw [hti']
       simp only [if_pos h1]
       exact ⟨by first | trivial | rfl, hkv⟩
      ·rw [if_neg h1] at hti
       simp only [if_neg h1]
       by_cases h2 : t < i
       ·rw [if_pos h2, List.getElem?_eq_getElem (by omega)] at hti
        have hti' := Option.some.inj hti
        rw [hti', if_pos (by omega), hX]
        simp only [if_pos (show t < u.length by omega)]
        exact hff t _
       ·rw [if_neg h2, List.getElem?_eq_getElem (by omega)] at hti
        have hti' := Option.some.inj hti
        rw [hti', if_neg (by omega), hX]
        simp only [if_pos (show t - 1 < u.length by omega)]
        exact hff (t - 1) _
 ·refine wp_seq (wp_cond_false ?_ (wp_exit ?_))
  ·rw [Ze, Zq (by omega)]; simp; omega
  simp only [Exit.then, Exit.inBlock, if_true]
  have hm0 : m = 0 := by omega
  subst hm0
  rw [Nat.sub_zero, List.take_length] at hrow
  refine wp_seq (wp_region_lit (Zv rfl Zm (Zv rfl Zi (wpList_nil ?_))))
  refine wp_act (c := .ret) (fun b : Act => Act.get b 4 = Act.get a 6 /\ b.defers = []) ⟨?_, ?_⟩ ?_
  ·simp (disch := first | omega | simp only [Zs]; omega) only [Zo, Ze, Zn, Zq]
  ·simp only [Zd]; exact ad
  rintro b ⟨z0, zd⟩
  obtain ⟨f, hrow1, hff⟩ := hrow
  refine wp_ret (bodyPost_ret (results_tmp rfl _ _ _) zd ⟨_, _, congrArg Ending.returned z0, hmod, hrow1.elems, fun i hi => ?_⟩)
  obtain ⟨h1, h2⟩ := hff i hi
  have hb := (unk_fold V [] List.Pairwise.nil (fun p hp => by
   obtain ⟨j, hj, rfl⟩ := List.getElem_of_mem (show p ∈ V by simpa using hp)
   exact ⟨(hgV j hj).2.1, (hgV j hj).2.2.1⟩)).2.2 _ (List.getElem_mem hi)
  exact ⟨h1, hb.1, hb.2, h2.mod hmod⟩
end Go.Proofs.YtcldbjehliladaaDoor
