/-
  The row's tree: what reads as a value of type spec.Tree is a tree in memory, of no more bulk.
-/
import Derived.Test.YtmehfgiadapekaaGreatRows
import Derived.ProofKit
import Derived.ChangeSlices
import Derived.ReadAgain
import Derived.OpenShut
import Derived.Test.YtmehfgiadapekaaGreatPWl
import Derived.Test.YtmehfgiadapekaaGreatPWt
set_option linter.unusedSimpArgs false
set_option linter.unusedVariables false
namespace Go.Proofs.YtmehfgiadapekaaGreat
open Go Go.RowKit Go.ChangeShapes Go.WideShapes
section
variable {H : Type} {enc : TypeId × Value -> H} {W : World}
theorem uptoBulk_lits (k : IntKind) : ∀ (l : List Int), Rows.uptoBulkAll (lits (H := H) k l) = l.length
 | [] => rfl
 | n :: l => by
  have := uptoBulk_lits k l
  simp only [lits, List.map_cons, Rows.uptoBulkAll, Rows.uptoBulk, List.length_cons] at this ⊢
  omega
theorem spot_none {a : Addr} {v : Value} (h : W.cell? a = some v) : a.spot = none := World.cell?_spot h
theorem block_of {a : Addr} {v : Value} (h : W.cell? a = some v) : ∃ C t fr, W.heap[a.block]? = some (.cells C t fr) := by
 cases hh : W.heap[a.block]? with
 | none => simp [World.cell?, hh] at h
 | some o =>
  cases o with
  | cells C t fr => exact ⟨C, t, fr, rfl⟩
  | _ => simp [World.cell?, hh] at h
theorem cellsU8 : Tryz.prog.cellsOf 5 = 1 := by kernel_rfl
theorem open_octs {fuel : Nat} {cs : List Value} {x : DataW H × List MemPlace} (h : DataW.trod enc Tryz.prog W 0 (fun _ => true) true fuel 22 cs = some x) :
  ∃ v bs, cs = [v] /\ OctI W v bs /\ bs.length + 1 <= Rows.uptoBulk x.1 := by
 rcases open_ints Tryz.underlying22 Tryz.underlying5 cellsU8 h with ⟨rfl, rfl⟩ | ⟨a, len, cap, zs, rfl, _, hl, hmx, hz, rfl, hcell, hw⟩
 ·exact ⟨_, [], rfl, .inl ⟨rfl, _, _, rfl⟩, by simp [Rows.uptoBulk]⟩
 ·simp only [if_true] at hz
  have hbk : len + 1 <= Rows.uptoBulk (H := H) (.slice (lits .u8 (zs.take len)) (lits .u8 (zs.drop len))) := by
   simp only [Rows.uptoBulk, uptoBulk_lits]; simp; omega
  by_cases hc0 : len = 0
  ·subst hc0
   exact ⟨_, [], rfl, .inl ⟨rfl, _, _, rfl⟩, by simpa using hbk⟩
  obtain ⟨ab, ao, spot⟩ := a
  have h0 := hcell 0 (by omega)
  have hspot : spot = none := by simpa [Addr.add] using spot_none h0
  subst hspot
  obtain ⟨C, t, fr, hC⟩ := block_of h0
  have hC' : W.heap[ab]? = some (.cells C t fr) := by rw [block_add] at hC; exact hC
  have hlen : ((zs.take len).map fun n => UInt8.ofNat n.toNat).length = len := by simp; omega
  refine ⟨_, (zs.take len).map fun n => UInt8.ofNat n.toNat, rfl, .inr ⟨ab, ao, cap, C, t, fr, by rw [hlen], by omega, hmx, hC', fun i hi => ?_⟩, by rw [hlen]; exact hbk⟩
  have hil : i < len := by omega
  have hci := hcell i (by omega)
  rw [Addr.add_lit, Zc hC'] at hci
  rw [hci]
  have hb := range_u8 hw i
  simp only [List.getElem_map, List.getElem_take]
  have e : zs.getD i 0 = zs[i]'(by omega) := by simp [List.getD, List.getElem?_eq_getElem (show i < zs.length by omega)]
  rw [List.getD_eq_getElem?_getD] at e
  rw [e] at hb
  rw [List.getD_eq_getElem?_getD, e]
  congr 2
  simp only [UInt8.toNat_ofNat']
  omega
/-- a slice of structs that reads -/
theorem open_rows {t e sz fuel : Nat} {α : Type} {cs : List Value} {x : DataW H × List MemPlace} (ht : Tryz.prog.underlying t = some (.slice e)) (hsz : Tryz.prog.cellsOf e = sz) (hpos : 0 < sz) (wt : α -> Nat) (R : (Nat -> Value) -> α -> Prop)
  (hone : ∀ n cs' y, n < fuel -> DataW.trod enc Tryz.prog W 0 (fun _ => true) true n e cs' = some y -> ∃ z, R (fun j => cs'.getD j undef) z /\ wt z <= Rows.uptoBulk y.1)
  (h : DataW.trod enc Tryz.prog W 0 (fun _ => true) true fuel t cs = some x) :
  ∃ v l f, cs = [v] /\ ElemsI W v (List.length (α := α) l) sz f /\ (∀ i (hi : i < l.length), R (f i) l[i]) /\ (l.map wt).sum + 1 <= Rows.uptoBulk x.1 := by
 rcases DataW.trod_slice ht h with ⟨rfl, rfl⟩ | ⟨a, len, cap, elems, rest, n, rfl, rfl, rfl, _, hl, hm, hlen, hel, -, -⟩
 ·exact ⟨_, [], fun _ _ => undef, rfl, .inl ⟨rfl, _, _, rfl⟩, fun i hi => by simp at hi, by simp [Rows.uptoBulk]⟩
 ·have hbk : ∀ l : List (DataW H), Rows.uptoBulkAll l = (l.map Rows.uptoBulk).sum := fun l => by
   induction l with
   | nil => rfl
   | cons d l ih => simp [Rows.uptoBulkAll, ih]
  have each : ∀ i, i < len -> ∃ cs' z, W.cells? 0 (a.add (i * sz)) sz = some cs' /\ R (fun j => cs'.getD j undef) z /\ ∃ y, elems[i]? = some y /\ wt z <= Rows.uptoBulk y.1 := by
   intro i hi
   have := hel i hi
   rw [List.getElem?_eq_getElem (by omega), Option.bind_eq_some_iff] at this
   obtain ⟨cs', h1, h2⟩ := this
   rw [hsz] at h1
   obtain ⟨z, h3, h4⟩ := hone n cs' _ (by omega) h2
   exact ⟨cs', z, h1, h3, _, by rw [List.getElem?_eq_getElem (by omega)], h4⟩
  have build : ∀ m, m <= len -> ∃ (l : List α) (g : Nat -> List Value), l.length = m /\ (∀ i, i < m -> W.cells? 0 (a.add (i * sz)) sz = some (g i)) /\ (∀ i (hi : i < l.length), R (fun j => (g i).getD j undef) l[i]) /\ (l.map wt).sum <= (((elems.take m).map (·.1)).map Rows.uptoBulk).sum := by
   intro m
   induction m with
   | zero => intro _; exact ⟨[], fun _ => [], rfl, fun i hi => by omega, fun i hi => by simp at hi, by simp⟩
   | succ m ih =>
    intro hm'
    obtain ⟨l, g, h1, h2, h3, h4⟩ := ih (by omega)
    obtain ⟨cs', z, e1, e2, y, e3, e4⟩ := each m (by omega)
    refine ⟨l ++ [z], fun i => if i = m then cs' else g i, by simp [h1], fun i hi => ?_, fun i hi => ?_, ?_⟩
    ·by_cases he : i = m
     ·subst he; simpa using e1
     ·simp only [if_neg he]; exact h2 i (by omega)
    ·by_cases he : i = m
     ·subst he
      have : (l ++ [z])[i]'hi = z := by simp [<- h1]
      rw [this]; simpa using e2
     ·have hi' : i < l.length := by simp at hi; omega
      rw [List.getElem_append_left hi']
      simp only [if_neg he]
      exact h3 i hi'
    ·have hml : m < elems.length := by omega
     have ey : elems[m] = y := by rw [List.getElem?_eq_getElem hml] at e3; exact Option.some.inj e3
     rw [List.take_succ_eq_append_getElem hml, ey]
     simp only [List.map_append, List.map_cons, List.map_nil, List.sum_append, List.sum_cons, List.sum_nil]
     omega
  obtain ⟨l, g, h1, h2, h3, h4⟩ := build len (Nat.le_refl _)
  have hb : (l.map wt).sum + 1 <= Rows.uptoBulk (H := H) (.slice (elems.map (·.1)) (rest.map (·.1))) := by
   rw [List.take_of_length_le (by omega)] at h4
   simp only [Rows.uptoBulk, hbk]; omega
  by_cases hc0 : len = 0
  ·subst hc0
   have : l = [] := List.eq_nil_of_length_eq_zero h1
   subst this
   exact ⟨_, [], fun _ _ => undef, rfl, .inl ⟨rfl, _, _, rfl⟩, fun i hi => by simp at hi, hb⟩
  obtain ⟨ab, ao, spot⟩ := a
  have hall : ∀ i, i < len -> (g i).length = sz /\ ∀ j, j < sz -> W.cell? ((⟨ab, ao, spot⟩ : Addr).add (i * sz) |>.add j) = (g i)[j]? := fun i hi => (World.cells?_some (h2 i hi)).2
  have h0 : ∃ v, W.cell? ((⟨ab, ao, spot⟩ : Addr).add (0 * sz) |>.add 0) = some v := by
   obtain ⟨q1, q2⟩ := hall 0 (by omega)
   exact ⟨_, by rw [q2 0 hpos, List.getElem?_eq_getElem (by omega)]⟩
  obtain ⟨v0, hv0⟩ := h0
  have hspot : spot = none := by
   have := spot_none hv0
   simpa [Addr.add] using this
  subst hspot
  obtain ⟨C, t', fr, hC⟩ := block_of hv0
  have hC' : W.heap[ab]? = some (.cells C t' fr) := by rw [block_add, block_add] at hC; exact hC
  refine ⟨_, l, fun i j => (g i).getD j undef, rfl, .inr ⟨ab, ao, cap, C, t', fr, by rw [h1], by omega, hm, hC', fun i hi j hj => ?_⟩, h3, hb⟩
  obtain ⟨q1, q2⟩ := hall i (by omega)
  have q3 := q2 j hj
  rw [Addr.add_lit, Addr.add_lit, Zc hC'] at q3
  rw [q3]
  simp only []
  rw [List.getD_eq_getElem?_getD, List.getElem?_eq_getElem (by omega)]
  rfl
theorem cellsTag : Tryz.prog.cellsOf 63 = 2 := by kernel_rfl
theorem cellsTree : Tryz.prog.cellsOf 26 = 5 := by kernel_rfl
/-- cells of a struct, one by one -/
theorem cell_at {cs : List Value} {o : Nat} {v : Value} (h : (cs.drop o).take 1 = [v]) : cs.getD o undef = v := by
 have := congrArg (fun l => l[0]?) h
 simp only [List.getElem?_take, List.getElem?_drop, Nat.add_zero] at this
 rw [List.getD_eq_getElem?_getD]
 simp at this
 rw [this]; rfl
theorem cells1u32 : Tryz.prog.cellsOf 61 = 1 := by kernel_rfl
theorem cells1s : Tryz.prog.cellsOf 22 = 1 := by kernel_rfl
theorem cells1int : Tryz.prog.cellsOf 2 = 1 := by kernel_rfl
theorem cells1b : Tryz.prog.cellsOf 4 = 1 := by kernel_rfl
theorem cells1l : Tryz.prog.cellsOf 23 = 1 := by kernel_rfl
theorem cells1g : Tryz.prog.cellsOf 24 = 1 := by kernel_rfl
theorem wf_i64 {n : Int} (h : (Lit.int .i64 n).wf = true) : fits .i64 n := by
 have := bounds_i64 h
 simp [fits, IntKind.min, IntKind.max, IntKind.signed, IntKind.bits]; omega
theorem wf_u32 {n : Int} (h : (Lit.int .u32 n).wf = true) : fits .u32 n := by
 have := bounds_u32 h
 simp [fits, IntKind.min, IntKind.max, IntKind.signed, IntKind.bits]; omega
def TagIn' (W : World) (c : Nat -> Value) (p : Int × List UInt8) : Prop := c 0 = .int .u32 p.1 /\ fits .u32 p.1 /\ OctI W (c 1) p.2
theorem open_tag {fuel : Nat} {cs : List Value} {x : DataW H × List MemPlace} (h : DataW.trod enc Tryz.prog W 0 (fun _ => true) true fuel 63 cs = some x) :
  ∃ p, TagIn' W (fun j => cs.getD j undef) p /\ p.2.length + 3 <= Rows.uptoBulk x.1 := by
 obtain ⟨xs, m, rfl, rfl, hl, hxl, hf⟩ := DataW.trod_struct Tryz.underlying63 h
 have hx2 : xs.length = 2 := hxl
 obtain ⟨y0, y1, rfl⟩ : ∃ y0 y1, xs = [y0, y1] := by
  match xs, hx2 with
  | [y0, y1], _ => exact ⟨y0, y1, rfl⟩
 have f0 : DataW.trod enc Tryz.prog W 0 (fun _ => true) true m 61 ((cs.drop 0).take (Tryz.prog.cellsOf 61)) = some y0 := hf 0 _ rfl
 have f1 : DataW.trod enc Tryz.prog W 0 (fun _ => true) true m 22 ((cs.drop 1).take (Tryz.prog.cellsOf 22)) = some y1 := hf 1 _ rfl
 rw [cells1u32] at f0
 rw [cells1s] at f1
 obtain ⟨n, e0, rfl, hw⟩ := DataW.trod_int Tryz.underlying61 f0
 obtain ⟨v, bs, e1, ho, hb⟩ := open_octs f1
 refine ⟨(n, bs), ⟨cell_at e0, wf_u32 hw, ?_⟩, ?_⟩
 ·show OctI W (cs.getD 1 undef) bs
  rw [cell_at e1]; exact ho
 ·simp only [List.map_cons, List.map_nil, Rows.uptoBulk, Rows.uptoBulkAll]; omega
theorem bulkU_sum : ∀ (u : Tags), (u.map fun p => p.2.length + 3).sum = bulkU u
 | [] => rfl
 | p :: u => by simp only [List.map_cons, List.sum_cons, bulkU, bulkU_sum u]
theorem bulkL_sum : ∀ (l : List Tr), (l.map Tr.bulk).sum = bulkL l
 | [] => rfl
 | p :: u => by simp only [List.map_cons, List.sum_cons, bulkL, bulkL_sum u]
theorem open_tree : ∀ (fuel : Nat) (cs : List Value) (x : DataW H × List MemPlace), DataW.trod enc Tryz.prog W 0 (fun _ => true) true fuel 26 cs = some x ->
  ∃ t, TreeI W (fun j => cs.getD j undef) t /\ t.bulk <= Rows.uptoBulk x.1 := by
 intro fuel
 induction fuel using Nat.strongRecOn with
 | ind fuel ih =>
  intro cs x h
  obtain ⟨xs, m, rfl, rfl, hl, hxl, hf⟩ := DataW.trod_struct Tryz.underlying26 h
  have hx5 : xs.length = 5 := hxl
  obtain ⟨y0, y1, y2, y3, y4, rfl⟩ : ∃ y0 y1 y2 y3 y4, xs = [y0, y1, y2, y3, y4] := by
   match xs, hx5 with
   | [y0, y1, y2, y3, y4], _ => exact ⟨y0, y1, y2, y3, y4, rfl⟩
  have f0 : DataW.trod enc Tryz.prog W 0 (fun _ => true) true m 2 ((cs.drop 0).take (Tryz.prog.cellsOf 2)) = some y0 := hf 0 _ rfl
  have f1 : DataW.trod enc Tryz.prog W 0 (fun _ => true) true m 22 ((cs.drop 1).take (Tryz.prog.cellsOf 22)) = some y1 := hf 1 _ rfl
  have f2 : DataW.trod enc Tryz.prog W 0 (fun _ => true) true m 4 ((cs.drop 2).take (Tryz.prog.cellsOf 4)) = some y2 := hf 2 _ rfl
  have f3 : DataW.trod enc Tryz.prog W 0 (fun _ => true) true m 23 ((cs.drop 3).take (Tryz.prog.cellsOf 23)) = some y3 := hf 3 _ rfl
  have f4 : DataW.trod enc Tryz.prog W 0 (fun _ => true) true m 24 ((cs.drop 4).take (Tryz.prog.cellsOf 24)) = some y4 := hf 4 _ rfl
  rw [cells1int] at f0
  rw [cells1s] at f1
  rw [cells1b] at f2
  rw [cells1l] at f3
  rw [cells1g] at f4
  obtain ⟨n, e0, rfl, hw⟩ := DataW.trod_int Tryz.underlying2 f0
  obtain ⟨v1, bs, e1, ho, hb⟩ := open_octs f1
  obtain ⟨z, e2, rfl⟩ := DataW.trod_bool Tryz.underlying4 f2
  obtain ⟨v3, l, f, e3, hE, hR, hbl⟩ := open_rows (α := Tr) Tryz.underlying23 cellsTree (by decide) Tr.bulk (TreeI W) (fun n' cs' y hn hy => ih n' (by omega) cs' y hy) f3
  obtain ⟨v4, u, g, e4, hEu, hRu, hbu⟩ := open_rows (α := Int × List UInt8) Tryz.underlying24 cellsTag (by decide) (fun p => p.2.length + 3) (TagIn' W) (fun n' cs' y hn hy => open_tag hy) f4
  rw [bulkL_sum] at hbl
  rw [bulkU_sum] at hbu
  refine ⟨.mk n bs z l u, .mk (f := f) (g := g) (cell_at e0) (wf_i64 hw) ?_ (cell_at e2) ?_ hR ?_ hRu, ?_⟩
  ·show OctI W (cs.getD 1 undef) bs
   rw [cell_at e1]; exact ho
  ·show ElemsI W (cs.getD 3 undef) _ _ _
   rw [cell_at e3]; exact hE
  ·show ElemsI W (cs.getD 4 undef) _ _ _
   rw [cell_at e4]; exact hEu
  ·simp only [List.map_cons, List.map_nil, Rows.uptoBulk, Rows.uptoBulkAll, Tr.bulk]; omega
end
theorem TreeI.ok {w : World} {c : Nat -> Value} {t : Tr} (h : TreeI w c t) : TOk t := by
 induction h with
 | mk h0 hn h1 h2 h3 h3' h4 h4' ih =>
  refine .mk ?_ (fun x hx => ?_) (fun p hp => ?_)
  ·simpa [fits, IntKind.min, IntKind.max, IntKind.signed, IntKind.bits] using hn
  ·obtain ⟨i, hi, rfl⟩ := List.getElem_of_mem hx
   exact ih i hi
  ·obtain ⟨i, hi, rfl⟩ := List.getElem_of_mem hp
   have := (h4' i hi).2.1
   simp [fits, IntKind.min, IntKind.max, IntKind.signed, IntKind.bits] at this
   omega
end Go.Proofs.YtmehfgiadapekaaGreat
