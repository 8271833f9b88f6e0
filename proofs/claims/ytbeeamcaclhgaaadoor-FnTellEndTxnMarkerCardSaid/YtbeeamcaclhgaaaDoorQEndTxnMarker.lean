/-
  FnTellEndTxnMarker: what it needs beyond the common texts, its walk, its row and card.
-/
import Derived.Below
import Derived.Deep.Draws
import Derived.OneCell
import Derived.Lib.Hide
import Derived.Test.YtbeeamcaclhgaaaDoorChecked
import Derived.WalkKit
import Derived.ProofKit
import Derived.OpenShut
import Derived.Deep.QuietTactic
import Derived.BigQuiet
import Derived.RegionCalls
import Derived.Deep.RegionWith
import Derived.StillTailTactics
import Derived.ScopeJumps
import Derived.Lib.VarintBits
import Derived.Laws.BytesArg
import Derived.StillTail
import Derived.Deep.MidRow
import Derived.Laws.AppendOwn
import Derived.Laws.IdiomStrings
import Derived.Deep.LoopGhost
import Derived.Lib.AppendZerosOnto
import Derived.MapKept
import Derived.Carry
import Derived.Lib.EndianBits
import Derived.Shelf.GgSortFunc.Whole
import Derived.Shelf.GgSortFunc.Tiny
import Derived.Lib.SortBridge
import Derived.Sort.LotA
import Derived.Lib.RowBridge
import Derived.Maps.RangeRun
import Derived.Test.YtbeeamcaclhgaaaDoorProg
import Derived.Test.YtbeeamcaclhgaaaDoorRows
import Derived.ChangeSlices
import Derived.ReadAgain
import Derived.Laws.IdiomCopy
import Derived.Test.YtbeeamcaclhgaaaDoorCards
import Derived.Test.YtbeeamcaclhgaaaDoorTie
import Derived.ChangeSame
import Derived.Stop.LaidErr
import Derived.Deep.DeepHandedRow
import Derived.Deep.DeepWitnessRowRef
import Derived.Test.YtbeeamcaclhgaaaDoorPWg
import Derived.Test.YtbeeamcaclhgaaaDoorPWr
set_option linter.unusedSimpArgs false
set_option linter.unusedVariables false
namespace Go.Proofs.YtbeeamcaclhgaaaDoor
open Go Go.RowKit
/-- the slots of the code that reads a message -/
def slPlain (N : Nat) : Sl := ⟨N, 7, 8, 2, none, 6⟩
end Go.Proofs.YtbeeamcaclhgaaaDoor
set_option linter.unusedSimpArgs false
set_option linter.unusedVariables false
namespace Go.Proofs.YtbeeamcaclhgaaaDoor
open Go Go.RowKit
theorem R.then_ok {α : Type} (r : R α) : r.then (fun v s => .ok v s) = r := by cases r <;> rfl
end Go.Proofs.YtbeeamcaclhgaaaDoor
set_option linter.unusedSimpArgs false
set_option linter.unusedVariables false
set_option linter.unusedSimpArgs false
set_option linter.unusedVariables false
set_option linter.unusedSimpArgs false
set_option linter.unusedVariables false
set_option linter.unusedSimpArgs false
set_option linter.unusedVariables false
namespace Go.Proofs.YtbeeamcaclhgaaaDoor
open Go Go.RowKit
section
variable {P : Program} {σ : St} {N n TI TL id j : Nat} {g : SV → Tr} {g' : SV → List Tr} {d0 d1 : Nat} {y0 y1 y2 y3 y4 y5 : TypeId} {p0 p1 p2 p3 p4 p5 : String} {e0 e1 e2 e3 e4 e5 : Array Edge}
theorem tree_part {x : TX} {w0 w : World} {ts : List Tr} (hM : TMem x w0 w ts (.slice none 0 0)) {F : Nat → Prop} (hF : ∀ k, w0.heap.size ≤ k → F k) {c : Nat → Value} (hl : ts.length = x.n) (hb : ts.length ≤ 4294967295) (hn : x.n ≤ maxLen)
    (h0 : c 0 = .int .i64 0) (h1 : c 1 = .slice none 0 0) (h2 : c 2 = .bool false) (h3 : c 3 = .slice (some ⟨x.lb, 0, none⟩) x.n x.n) (h4 : c 4 = .slice none 0 0) : TreeR w F c (.part ts []) := by
  obtain ⟨D, T, e1, e2, _, e4, _⟩ := hM.hl
  have e3 := hl
  refine .mk (f := fun i j => from' D (i * 5) j) (g := fun _ _ => undef) h0 (fits_zero _) (by rw [h1]; exact oct_nil) h2 ⟨hb, by simp⟩ ?_ (fun i hi => (e4 i hi).mod (Mod.refl (S := none') w) (fun _ _ f => f) (fun k hk => hF k hk.1)) (by rw [h4]; exact elems_nil) (fun i hi => by simp at hi)
  rw [h3]
  refine .inr ⟨x.lb, 0, x.n, D, T, (0, 0), hF _ hM.new.2.1, by rw [e3], by omega, hn, e1, fun i hi j hj => ?_⟩
  have hij : i * 5 + j < D.size := by rw [e2, ← e3]; have := Nat.mul_le_mul_right 5 (show i + 1 ≤ ts.length by omega); omega
  rw [Nat.zero_add]
  simp [from', hij]
theorem twhole_end (hT : TellT P TI TL) (htg : σ.tg = none) (hok : tellOK N [] [d0] = true) : TWhole P N n σ (.seq (.region id #[⟨some d0, .load TI (.tmp 3), y0, p0, e0, none⟩, ⟨none, .store TI (.tmp 2) (.tmp d0), y1, p1, e1, none⟩] false) .ret) n (fun _ => []) := by
  intro x Fs v ts a w0 w hn hb hts hA hC hM
  rw [List.append_nil]
  obtain ⟨_, _, htl⟩ := tellOK_dl hok
  have hd := htl d0 (by simp)
  obtain ⟨T', hbb⟩ := hM.hb
  obtain ⟨z, Tz, hr, hz⟩ := hM.hr
  obtain ⟨cs, hcs⟩ : ∃ cs : Array Value, cs = #[.int .i64 0, .slice none 0 0, .bool false, .slice (some ⟨x.lb, 0, none⟩) x.n x.n, .slice none 0 0] := ⟨_, rfl⟩
  have hcs5 : cs.size = 5 := by rw [hcs]; rfl
  rw [← hcs] at hbb
  have hall : cs.all (·.oneCell') = true := by rw [hcs]; simp [Value.oneCell']
  have hb' : ts.length ≤ 4294967295 := by omega
  refine wp_seq (wp_region_lit ?_)
  refine wpl_val rfl (x_loadN (cs := cs.toList) (by rw [Array.length_toList, hcs5]; exact hT.many) hA.tree (fun q v hq => by rw [cell_of_heap hbb, Nat.zero_add]; simpa using hq)) ?_
  refine wpl_skip rfl (x_storeN (cs := cs) (b := x.rb) (o := 0) (by rw [hcs5]; exact hT.size) ?_ ?_ hall ?_) (wpList_nil (wp_ret ?_))
  · rw [eval_tmp, Act.get_put_ne hd.2.2.1]; exact hA.res
  · rw [eval_tmp, Act.get_put_eq (by rw [hA.size]; exact hd.1)]
  · intro j hj
    rw [cell_of_heap hr, frozen_of_heap hr, Array.getElem?_eq_getElem (by omega)]
    exact ⟨rfl, rfl⟩
  obtain ⟨C3, k1, k2, k3, k4⟩ := heap_setCells (w := w) cs.toList 0 _ hr
  have hC3 : C3 = cs := by
    apply Array.ext
    · omega
    · intro i h1 h2
      have := k3 i (by simpa using h2) (by omega)
      rw [Nat.zero_add, Array.getElem?_eq_getElem h1] at this
      simpa [h2] using this
  subst hC3
  have hm := mod_setCells x.rb w 0 C3.toList
  have hn3 := hM.new.2.2
  have hm' : Mod none' w0 (w.setCells x.rb 0 C3.toList) := hM.mod.trans' hm (fun _ _ f => f) (fun j hj e => by have : j = x.rb := e; omega)
  have hne := hM.ne
  have hM' : TMem x w0 (w.setCells x.rb 0 C3.toList) ts (.slice none 0 0) := by
    obtain ⟨D, T, e1, e2, e3, e4, e5⟩ := hM.hl
    obtain ⟨T', hbb'⟩ := hM.hb
    refine ⟨hm', hM.new, hM.ne, ⟨T', hm.some hbb' (fun e => hne.2.1 (Eq.symm e))⟩, ⟨D, T, hm.some e1 (fun e => hne.2.2 (Eq.symm e)), e2, e3, fun i hi => (e4 i hi).mod hm (fun k hk e => hk.2.2.2 e) (fun _ h => h), e5⟩, ⟨C3, Tz, k1, hcs5⟩⟩
  refine ⟨rfl, (Act.defers_put _ _ _).trans ((Act.defers_put _ _ _).trans hA.defers), (Act.get_put_ne hd.2.2.1).trans hA.res, hm', C3, Tz, k1, hcs5, hall, ?_⟩
  have hv2 : v.2 = [] := by
    obtain ⟨C, t, _, _, _, h4⟩ := hC.mem
    rw [htg] at h4; exact h4
  rw [hv2]
  refine tree_part hM' (fun k hk => hk) (hts.trans hn.symm) hb' ?_ ?_ ?_ ?_ ?_ ?_
  · simp only [maxLen]; omega
  all_goals (rw [hcs]; rfl)
end
end Go.Proofs.YtbeeamcaclhgaaaDoor
set_option linter.unusedSimpArgs false
set_option linter.unusedVariables false
namespace Go.Proofs.YtbeeamcaclhgaaaDoor
open Go Go.RowKit
section
variable {ok : OkV} {f : FD} {fs : List FD} {gf gf2 : FT} {i j : Nat} {z : Tr} {zs : List Tr} {rd rdl : Int → Bool → RS → Tr × RS} {p : Int → Bool → Bool}
theorem chain_stiff (hf : ∀ v l, ok v l → l = false) : Chain ok idF [] i j [] := by
  intro ver fl t A r ho ht hA
  have e := hf _ _ ho
  subst e
  exact ⟨[], by simp [fieldsW, idF], rfl⟩
/-- the last piece is not followed by tags -/
theorem chain_last (h1 : Piece ok gf f i j z) (hu : usualW f z = true) (hf : ∀ v l, ok v l → l = false) : Chain ok gf [f] i j [z] := by
  have h := chain_cons h1 hu (chain_stiff (i := i + 1) (j := j + 1) hf)
  intro ver fl t A r ho ht hA
  obtain ⟨xs, e1, e2⟩ := h ver fl t A r ho ht hA
  refine ⟨xs, ?_, e2⟩
  rw [← e1]
  exact (R.then_ok _).symm
end
end Go.Proofs.YtbeeamcaclhgaaaDoor
set_option linter.unusedSimpArgs false
set_option linter.unusedVariables false
namespace Go.Proofs.YtbeeamcaclhgaaaDoor
open Go Go.RowKit
/-- the version is read first -/
def kRead (f : FT) (dv : SV) (s : RS) : R SV := f (rdInt16 s).1 false (dv.1.set 0 (.num (rdInt16 s).1), dv.2) (rdInt16 s).2
/-- what reading a kept message does -/
def ReadK (P : Program) (fid : FuncId) (σ : St) (f : FT) (d : SV → SV) : Prop :=
  ∀ vb v uns srcv sb bs nil ev w, ErrIs w ev → vb ≠ gErr → vb ≠ sb → sb < w.heap.size → Cur σ none' vb 0 v w → Src w srcv sb bs nil → kRead f (d v) ⟨bs, nil, false⟩ ≠ .stuck →
    Calls P fid #[.pointer (some ⟨vb, 0, none⟩), srcv, .bool uns] w fun e w' => ∃ r, e = .returned r ∧ Mod (only vb) w w' ∧ match kRead f (d v) ⟨bs, nil, false⟩ with
      | .ok v' s' => r = endErr ev s'.bad ∧ Cur σ (fun k => k = sb ∨ w.heap.size ≤ k) vb 0 v' w'
      | .early => r = ev
      | .stuck => False
theorem cur_ver {σ : St} {blk : Nat} {v : SV} {w : World} {ver : Int} (hC : Cur σ none' blk 0 v w) (hlay : σ.lay.at 0 = some (0, .int .i16)) (hok : σ.lay.ok 0 σ.sz = true) (htg : TagIn σ.tg σ.sz = true) (htg0 : σ.tg ≠ some 0) (hfit : fits .i16 ver) :
    Cur σ none' blk 0 (v.1.set 0 (.num ver), v.2) (w.setCell ⟨blk, 0 + 0, none⟩ (.int .i16 ver)) ∧ ∃ C t, w.heap[blk]? = some (.cells C t (0, 0)) ∧ 0 < C.size := by
  obtain ⟨C, t, h1, h2, h3, h4⟩ := hC.mem
  have hin := Lay.at_in _ _ _ _ _ _ hok hlay
  simp only [Ty.size] at hin
  have h0C : 0 < C.size := by omega
  have hmm : Mod (only blk) w (w.setCell ⟨blk, 0 + 0, none⟩ (.int .i16 ver)) := (Mod.refl w).put _ _
  refine ⟨⟨C.setIfInBounds 0 (.int .i16 ver), t, heap_setCell_same h1 _, by simpa using h2, ?_, ?_⟩, C, t, h1, h0C⟩
  · refine RepL.set σ.lay 0 σ.sz 0 0 (.int .i16) (from' C 0) _ v.1 (.num ver) hok hlay (fun j h1 h2 h3 => ?_) ?_ (h3.mod hmm (fun _ f => f.elim) (fun _ f => f.elim))
    · simp only [Ty.size] at h3
      simp only [from', Nat.zero_add, Array.getD_eq_getD_getElem?]
      rw [Array.getElem?_setIfInBounds_ne (by omega)]
    · refine ⟨ver, ?_, hfit, rfl⟩
      simp [from', h0C]
  · cases hg : σ.tg with
    | none => rw [hg] at h4; exact h4
    | some o =>
      rw [hg] at h4
      have ho : 0 ≠ o := fun e => htg0 (by rw [hg, ← e])
      have e1 : from' (C.setIfInBounds 0 (.int .i16 ver)) 0 o = from' C 0 o := by
        simp only [from', Nat.zero_add, Array.getD_eq_getD_getElem?]
        rw [Array.getElem?_setIfInBounds_ne ho]
      show TagsR _ _ (from' (C.setIfInBounds 0 (.int .i16 ver)) 0 o) v.2
      rw [e1]
      exact TagsR.mod h4 hmm (fun _ f => f.elim) (fun _ f => f.elim)
section
variable {P : Program} {σ : St} {f : FT} {fn : Func} {fid fd fI TR T : Nat} {i0 i1 i2 i3 i4 i7 iv : Nat} {m N : Nat} {d : SV → SV} {rest : Code}
  {ts1 ts2 : Array TypeId} {y00 y10 y11 y20 y21 y22 y23 y30 y31 y32 y33 y34 y40 y70 y71 y0 z0 z1 z2 z3 z4 : TypeId}
  {p00 p10 p11 p20 p21 p22 p23 p30 p31 p32 p33 p34 p40 p70 p71 q0 q1 q2 q3 q4 : String} {e00 e10 e11 e20 e21 e22 e23 e30 e31 e32 e33 e34 e40 e70 e71 c0 c1 c2 c3 c4 : Array Edge}
set_option maxHeartbeats 1000000 in
/-- a message that is kept, and never flexible -/
theorem read_kept (hf : P.funcs[fid]? = some fn) (hN : fn.ntmps = N) (hres : fn.results = #[.tmp 6]) (hR : RdT P TR) (h16 : one P y0 = true) (hver : fieldOff P T 0 = some 0) (hlay : σ.lay.at 0 = some (0, .int .i16)) (hsz : σ.lay.ok 0 σ.sz = true)
    (htg : TagIn σ.tg σ.sz = true) (htg0 : σ.tg ≠ some 0) (hs16 : sized P y0 1 = true)
    (hs : σ.s = 9) (hm : 10 ≤ m) (hmN : m + 14 ≤ N) (hbd : bodied P fd = true) (hd : DfC P fd σ d) (hbI : bodied P fI = true)
    (hI : ∀ w rb sb s, Rd w rb sb s → Calls P fI #[.pointer (some ⟨rb, 0, none⟩)] w fun e w' => e = .returned (.int .i16 (rdInt16 s).1) ∧ Rd w' rb sb (rdInt16 s).2 ∧ Mod (only rb) w w')

    (hbody : fn.body = some (.seq (.region i0 #[⟨some 6, .assign (.const .nilIface), y00, p00, e00, none⟩] false)
      (.seq (.region i1 #[⟨some m, .move (.tmp 0), y10, p10, e10, none⟩, ⟨some (m + 1), .call ⟨.value (.func fd), #[.tmp m], ts1⟩, y11, p11, e11, none⟩] false)
      (.seq (.region i2 #[⟨some (m + 2), .move (.tmp 1), y20, p20, e20, none⟩, ⟨some (m + 3), .build TR #[(0, .tmp (m + 2))], y21, p21, e21, none⟩, ⟨some 7, .alloc TR, y22, p22, e22, none⟩, ⟨none, .store TR (.tmp 7) (.tmp (m + 3)), y23, p23, e23, none⟩] false)
      (.seq (.region iv #[⟨some (m + 4), .move (.tmp 0), z0, q0, c0, none⟩, ⟨some (m + 5), .call ⟨.value (.func fI), #[.tmp 7], ts2⟩, z1, q1, c1, none⟩, ⟨some (m + 6), .nilCheck (.tmp (m + 4)), z2, q2, c2, none⟩, ⟨some (m + 7), .fieldAddr T (.tmp (m + 6)) 0, z3, q3, c3, none⟩, ⟨none, .store y0 (.tmp (m + 7)) (.tmp (m + 5)), z4, q4, c4, none⟩] false)
      (.seq (.region i3 #[⟨some (m + 8), .move (.tmp 0), y30, p30, e30, none⟩, ⟨some (m + 9), .nilCheck (.tmp (m + 8)), y31, p31, e31, none⟩, ⟨some (m + 10), .fieldAddr T (.tmp (m + 9)) 0, y32, p32, e32, none⟩, ⟨some (m + 11), .load y0 (.tmp (m + 10)), y33, p33, e33, none⟩, ⟨some 8, .assign (.tmp (m + 11)), y34, p34, e34, none⟩] false)
      (.seq (.region i4 #[⟨some (m + 12), .move (.tmp 8), y40, p40, e40, none⟩] false)
      (.seq (.region i7 #[⟨some (m + 13), .move (.tmp 0), y70, p70, e70, none⟩, ⟨some 9, .assign (.tmp (m + 13)), y71, p71, e71, none⟩] false) rest))))))))
    (hrest : Whole P (slPlain N) σ rest f) : ReadK P fid σ f d := by
  intro vb v uns srcv sb bs nil ev w hE hg hvs hsb hC hsrc hns0
  obtain ⟨ver, hver0⟩ : ∃ ver, ver = (rdInt16 ⟨bs, nil, false⟩).1 := ⟨_, rfl⟩
  obtain ⟨s1, hs1⟩ : ∃ s1, s1 = (rdInt16 ⟨bs, nil, false⟩).2 := ⟨_, rfl⟩
  obtain ⟨dv, hdv⟩ : ∃ dv : SV, dv = ((d v).1.set 0 (.num ver), (d v).2) := ⟨_, rfl⟩
  have hk : kRead f (d v) ⟨bs, nil, false⟩ = f ver false dv s1 := by rw [hdv, hver0, hs1]; rfl
  rw [hk] at hns0 ⊢
  have hns : f ver false dv s1 ≠ .stuck := hns0
  have hfit : fits .i16 ver := hver0 ▸ rdInt16_fits _
  clear hns0
  refine calls_of_wp hf hbody ?_
  rw [hN]
  obtain ⟨aa, haa⟩ : ∃ aa : Act, aa = { tmps := (#[.pointer (some ⟨vb, 0, none⟩), srcv, .bool uns] : Array Value) ++ Array.replicate (N - (#[.pointer (some ⟨vb, 0, none⟩), srcv, .bool uns] : Array Value).size) undef, defers := [] } := ⟨_, rfl⟩
  rw [← haa]
  have g0 : Act.get aa 0 = .pointer (some ⟨vb, 0, none⟩) := by rw [haa, get_nil_args _ _ _ (by simp)]; rfl
  have g1 : Act.get aa 1 = srcv := by rw [haa, get_nil_args _ _ _ (by simp)]; rfl
  have g2 : Act.get aa 2 = .bool uns := by rw [haa, get_nil_args _ _ _ (by simp)]; rfl
  have gN : aa.tmps.size = N := by rw [haa]; simp; omega
  have gd : aa.defers = [] := by rw [haa]
  clear haa
  refine wp_seq (wp_region_lit (wpl_val rfl x_assign (wpList_nil ?_)))
  refine wp_seq (wp_region_lit (wpl_val rfl x_move ?_))
  simp (disch := omega) only [Act.put_none, eval_tmp, Act.get_put_ne, g0]
  have hvb : vb < w.heap.size := by obtain ⟨C, t, h, _⟩ := hC.mem; exact lt_of_block h
  refine wpl_call rfl (x_callf hbd rfl) (R := fun e w' => (∃ r, e = .returned r) ∧ Mod (only vb) w w' ∧ Cur σ none' vb 0 (d v) w' ∧
    ∀ C t, w.heap[vb]? = some (.cells C t (0, 0)) → ∃ C', w'.heap[vb]? = some (.cells C' t (0, 0)) ∧ C'.size = C.size ∧ ∀ j, j < 0 ∨ 0 + σ.sz ≤ j → C'[j]? = C[j]?) ?_ ?_
  · have e0 : ∀ a : Act, Act.get a m = .pointer (some ⟨vb, 0, none⟩) → (#[Operand.tmp m] : Array Operand).map a.eval = #[.pointer (some ⟨vb, 0, none⟩)] := fun a h => by simp [eval_tmp, h]
    rw [e0 _ (Act.get_put_eq (by simp only [Act.size_put]; omega))]
    exact hd none' vb 0 v w hC (fun _ f => f.elim)
  rintro e w1 ⟨⟨r, rfl⟩, hm1, hC1, hout1⟩
  refine ⟨r, rfl, wpList_nil ?_⟩
  refine wp_seq (wp_region_lit (wpl_val rfl x_move ?_))
  simp (disch := omega) only [Act.put_none, eval_tmp, Act.get_put_ne, g1]
  have hcs := src_one hsrc
  have hl1 : w.heap.size ≤ w1.heap.size := hm1.size
  refine wpl_val rfl (x_build (cells := #[srcv, .bool false]) ?_) ?_
  · simp (disch := (simp only [Act.size_put]; omega)) only [List.map_toArray, List.map_cons, List.map_nil, eval_tmp, Act.get_put_eq]
    exact hR.built srcv hcs
  obtain ⟨z, hz, hzs⟩ := hR.zero
  refine wpl_val rfl (x_alloc hz) ?_
  obtain ⟨w2, hw2⟩ : ∃ w2, w2 = w1.alloc (.cells z.cells TR) := ⟨_, rfl⟩
  rw [← hw2]
  have hrb2 : w2.heap[w1.heap.size]? = some (.cells z.cells TR (0, 0)) := by rw [hw2]; exact heap_alloc_new _ _
  have hm2 : Mod none' w1 w2 := by rw [hw2]; exact (Mod.refl w1).alloc _
  have hs2 : w2.heap.size = w1.heap.size + 1 := by rw [hw2]; simp
  clear hw2
  refine wpl_skip rfl (x_storeN (cs := #[srcv, .bool false]) (b := w1.heap.size) (o := 0) hR.size ?_ ?_ ?_ ?_) (wpList_nil ?_)
  · simp (disch := (simp only [Act.size_put]; omega)) only [Act.put_none, eval_tmp, Act.get_put_eq]
  · simp (disch := (first | omega | (simp only [Act.size_put]; omega))) only [Act.put_none, eval_tmp, Act.get_put_ne, Act.get_put_eq]
  · have : srcv.oneCell' = true := by cases srcv <;> first | rfl | (rcases hsrc with ⟨_, h, _⟩ | ⟨_, off, cap, c, t, fr, h, _⟩ <;> cases h)
    rw [Array.all_eq_true_iff_forall_mem]
    intro q hq
    simp at hq
    rcases hq with rfl | rfl
    · exact this
    · rfl
  · intro j hj
    simp at hj
    rw [cell_of_heap hrb2, frozen_of_heap hrb2, Array.getElem?_eq_getElem (by omega)]
    exact ⟨rfl, rfl⟩
  obtain ⟨C3, k1, k2, k3, k4⟩ := heap_setCells (w := w2) [srcv, .bool false] 0 _ hrb2
  have hC3 : C3 = #[srcv, .bool false] := by
    apply Array.ext
    · rw [k2, hzs]; rfl
    · intro i h1 h2
      have hi : i < 2 := by simpa using h2
      have := k3 i (by simpa using hi) (by omega)
      rw [Nat.zero_add, Array.getElem?_eq_getElem h1] at this
      simpa using this
  subst hC3
  obtain ⟨w3, hw3⟩ : ∃ w3, w3 = w2.setCells w1.heap.size 0 [srcv, .bool false] := ⟨_, rfl⟩
  have hm3 : Mod (only w1.heap.size) w2 w3 := by rw [hw3]; exact mod_setCells _ _ _ _
  rw [← hw3] at k1 ⊢
  clear hw3 k3 k4 hrb2
  have hm13 : Mod none' w1 w3 := hm2.trans' hm3 (fun _ _ f => f) (fun i hi e => by have : i = w1.heap.size := e; omega)
  have hC3 : Cur σ none' vb 0 (d v) w3 := hC1.later hm13 (fun f => f) (fun _ f => f.elim)
  have hm03 : Mod (only vb) w w3 := hm1.trans' hm13 (fun _ _ h => h) (fun _ _ f => f.elim)
  have hl3 : w1.heap.size < w3.heap.size := lt_of_block k1
  have hrd0 : Rd w3 w1.heap.size sb ⟨bs, nil, false⟩ := by
    refine ⟨hl3, by omega, srcv, TR, k1, (hsrc.mod hm1 (fun e => hvs e.symm)).mod hm13 (fun f => f)⟩
  refine wp_seq (wp_region_lit (wpl_val rfl x_move ?_))
  simp (disch := omega) only [Act.put_none, eval_tmp, Act.get_put_ne, g0]
  refine wpl_call rfl (x_callf hbI rfl) (R := fun e w' => e = .returned (.int .i16 ver) ∧ Rd w' w1.heap.size sb s1 ∧ Mod (only w1.heap.size) w3 w') ?_ ?_
  · have e0 : ∀ a : Act, Act.get a 7 = .pointer (some ⟨w1.heap.size, 0, none⟩) → (#[Operand.tmp 7] : Array Operand).map a.eval = #[.pointer (some ⟨w1.heap.size, 0, none⟩)] := fun a h => by simp [eval_tmp, h]
    rw [e0 _ (by simp (disch := (first | omega | (simp only [Act.size_put]; omega))) only [Act.put_none, eval_tmp, Act.get_put_ne, Act.get_put_eq]), hver0, hs1]
    exact hI w3 _ sb _ hrd0
  rintro e w4 ⟨rfl, hrd4, hm4⟩
  refine ⟨_, rfl, wpl_val rfl (x_nilCheck (q := ⟨vb, 0, none⟩) ?_) (wpl_val rfl (x_fieldAddr hver (b := vb) (o0 := 0) ?_) ?_)⟩
  · simp (disch := (first | omega | (simp only [Act.size_put]; omega))) only [Act.put_none, eval_tmp, Act.get_put_ne, Act.get_put_eq]
  · simp (disch := (first | omega | (simp only [Act.size_put]; omega))) only [Act.put_none, eval_tmp, Act.get_put_ne, Act.get_put_eq]
  have hvb1 : vb ≠ w1.heap.size := by have := hm1.size; omega
  have hC4 : Cur σ none' vb 0 (d v) w4 := hC3.later hm4 (fun e => hvb1 e) (fun _ f => f.elim)
  obtain ⟨hC5, C5, T5, hb5, hz5⟩ := cur_ver hC4 hlay hsz htg htg0 hfit
  refine wpl_skip rfl (x_store1 hs16 (b := vb) (o := 0 + 0) (v := .int .i16 ver) (u := C5[0]) ?_ ?_ rfl ?_ ?_) (wpList_nil ?_)
  · simp (disch := (first | omega | (simp only [Act.size_put]; omega))) only [Act.put_none, eval_tmp, Act.get_put_ne, Act.get_put_eq]
  · simp (disch := (first | omega | (simp only [Act.size_put]; omega))) only [Act.put_none, eval_tmp, Act.get_put_ne, Act.get_put_eq]
  · rw [cell_of_heap hb5]; exact Array.getElem?_eq_getElem hz5
  · exact frozen_of_heap hb5
  have hm5 : Mod (only vb) w4 (w4.setCell ⟨vb, 0 + 0, none⟩ (.int .i16 ver)) := (Mod.refl w4).put _ _
  have hvcell : (w4.setCell ⟨vb, 0 + 0, none⟩ (.int .i16 ver)).cell? ⟨vb, 0 + 0, none⟩ = some (.int .i16 ver) := by
    rw [cell_of_heap (heap_setCell_same hb5 _)]; simp [hz5]
  obtain ⟨w5, hw5⟩ : ∃ w5, w5 = w4.setCell ⟨vb, 0 + 0, none⟩ (.int .i16 ver) := ⟨_, rfl⟩
  rw [← hw5] at hC5 hm5 hvcell ⊢
  rw [← hdv] at hC5
  have hm35 : Mod (fun k => k = vb ∨ k = w1.heap.size) w3 w5 := hm4.trans' hm5 (fun _ _ h => .inr h) (fun i _ h => .inl h)
  have hm05 : Mod (only vb) w w5 := hm03.trans' hm35 (fun _ _ h => h) (fun i hi h => by rcases h with h | h; exact h; omega)
  have hl35 := hm35.size
  have hrd : Rd w5 w1.heap.size sb s1 := hrd4.mod hm5 (fun e => hvb1 e.symm) (fun e => hvs e.symm)
  refine wp_seq (wp_region_lit (wpl_val rfl x_move ?_))
  simp (disch := omega) only [Act.put_none, eval_tmp, Act.get_put_ne, g0]
  refine wpl_val rfl (x_nilCheck (q := ⟨vb, 0, none⟩) ?_) ?_
  · simp (disch := (simp only [Act.size_put]; omega)) only [Act.put_none, eval_tmp, Act.get_put_eq]
  refine wpl_val rfl (x_fieldAddr hver (b := vb) (o0 := 0) ?_) ?_
  · simp (disch := (simp only [Act.size_put]; omega)) only [Act.put_none, eval_tmp, Act.get_put_eq]
  refine wpl_val rfl (x_load1 h16 (b := vb) (o := 0 + 0) ?_ hvcell) ?_
  · simp (disch := (simp only [Act.size_put]; omega)) only [Act.put_none, eval_tmp, Act.get_put_eq]
  refine wpl_val rfl x_assign (wpList_nil ?_)
  simp (disch := (simp only [Act.size_put]; omega)) only [Act.put_none, eval_tmp, Act.get_put_eq]
  refine wp_seq (wp_region_lit (wpl_val rfl x_move (wpList_nil ?_)))
  refine wp_seq (wp_region_lit (wpl_val rfl x_move ?_))
  simp (disch := omega) only [Act.put_none, eval_tmp, Act.get_put_ne, g0]
  refine wpl_val rfl x_assign (wpList_nil ?_)
  simp (disch := (simp only [Act.size_put]; omega)) only [Act.put_none, eval_tmp, Act.get_put_eq]
  have hgl : gErr < w.heap.size := World.block_lt_of_cell? _ _ hE
  refine wp_mono (hrest ⟨w1.heap.size, sb, ver, false, uns, ev⟩ (fun k => (k = sb ∨ w.heap.size ≤ k) ∧ k ≠ w1.heap.size) vb 0 dv s1 _ w5 ?_ ?_ ?_ ?_ hns) ?_
  · refine ⟨?_, ?_, ?_, ?_, ?_, ?_, hrd, hE.mod hm05 (fun e => hg e.symm), by show w1.heap.size ≠ gErr; omega⟩
    · simp only [Act.size_put, slPlain]; exact gN
    · simp only [Act.defers_put]; exact gd
    · show Act.get _ 7 = _
      simp (disch := (first | omega | (simp only [Act.size_put]; omega))) only [Act.put_none, eval_tmp, Act.get_put_ne, Act.get_put_eq]
    · show Act.get _ 8 = _
      simp (disch := (first | omega | (simp only [Act.size_put]; omega))) only [Act.put_none, eval_tmp, Act.get_put_ne, Act.get_put_eq]
    · show Act.get _ 2 = _
      simp (disch := (first | omega | (simp only [Act.size_put]; omega))) only [Act.put_none, eval_tmp, Act.get_put_ne, Act.get_put_eq, g2]
    · intro q hq
      cases hq
  · rw [hs]
    simp (disch := (first | omega | (simp only [Act.size_put]; omega))) only [Act.put_none, eval_tmp, Act.get_put_ne, Act.get_put_eq]
  · obtain ⟨C, t, h1, h2, h3, h4⟩ := hC5.mem
    refine ⟨C, t, h1, h2, h3.mod (Mod.refl (S := none') w5) (fun _ f => f.elim) (fun _ f => f.elim), ?_⟩
    cases htg : σ.tg with
    | none => rw [htg] at h4; exact h4
    | some o => rw [htg] at h4; exact TagsR.mod h4 (Mod.refl (S := none') w5) (fun _ f => f.elim) (fun _ f => f.elim)
  · refine ⟨fun k hk => ⟨hk.2, ?_⟩, fun k hk => ⟨.inr (by omega), by omega⟩, ⟨.inl rfl, by show sb ≠ w1.heap.size; omega⟩, by show sb < w5.heap.size; omega, by show vb ≠ w1.heap.size; omega, hg⟩
    rcases hk.1 with rfl | h
    · exact fun e => hvs e.symm
    · omega
  · rintro e a' w' ⟨rfl, hdf, hst, hout⟩
    have hmod : Mod (only vb) w w' := by
      refine hm05.trans' hst.mod (fun _ _ h => h) (fun i hi h => ?_)
      rcases h with h | h
      · have : i = w1.heap.size := h
        omega
      · exact h
    refine bodyPost_ret (results_tmp hres _ P w') hdf ⟨_, rfl, hmod, ?_⟩
    revert hout hns
    cases f ver false dv s1 with
    | ok v' s' =>
      intro hns hout
      refine ⟨hout.1, ?_⟩
      obtain ⟨C, t, h1, h2, h3, h4⟩ := hout.2.mem
      refine ⟨C, t, h1, h2, h3.mod (Mod.refl (S := none') w') (fun _ _ f => f) (fun _ h => h.1), ?_⟩
      cases htg : σ.tg with
      | none => rw [htg] at h4; exact h4
      | some o => rw [htg] at h4; exact TagsR.mod h4 (Mod.refl (S := none') w') (fun _ _ f => f) (fun _ h => h.1)
    | early => intro _ hout; exact hout
    | stuck => intro hns _; exact (hns rfl).elim
end
/-- a new variable that is filled whole -/
theorem fill_new (w : World) (T : TypeId) {zc cs : Array Value} (h : zc.size = cs.size) : ((w.alloc (.cells zc T)).setCells w.heap.size 0 cs.toList).heap[w.heap.size]? = some (.cells cs T (0, 0)) ∧ Mod none' w ((w.alloc (.cells zc T)).setCells w.heap.size 0 cs.toList) := by
  have b1 := heap_alloc_new w (.cells zc T)
  have o1 : Mod none' w (w.alloc (.cells zc T)) := (Mod.refl w).alloc _
  have l1 : (w.alloc (.cells zc T)).heap.size = w.heap.size + 1 := by simp
  obtain ⟨C1, k1, k2, k3, k4⟩ := heap_setCells (w := w.alloc (.cells zc T)) cs.toList 0 _ b1
  have hC1 : C1 = cs := by
    apply Array.ext
    · omega
    · intro i h1 h2
      have := k3 i (by simpa using h2) (by omega)
      rw [Nat.zero_add, Array.getElem?_eq_getElem h1] at this
      simpa [h2] using this
  subst hC1
  have p1 := mod_setCells w.heap.size (w.alloc (.cells zc T)) 0 C1.toList
  exact ⟨k1, o1.trans' p1 (fun _ _ f => f) (fun j hj e => by have : j = w.heap.size := e; omega)⟩
theorem fill_there {w : World} {T : TypeId} {zc cs : Array Value} (h : zc.size = cs.size) : (w.alloc (.cells zc T)).there w.heap.size 0 cs.size := by
  have b1 := heap_alloc_new w (.cells zc T)
  intro j hj
  rw [cell_of_heap b1, frozen_of_heap b1, Array.getElem?_eq_getElem (by omega)]
  exact ⟨rfl, rfl⟩
/-- a variable's cells after a store of the whole -/
theorem store_whole {w : World} {b T : Nat} {zc cs : Array Value} (hb : w.heap[b]? = some (.cells zc T (0, 0))) (h : zc.size = cs.size) : (w.setCells b 0 cs.toList).heap[b]? = some (.cells cs T (0, 0)) ∧ Mod (only b) w (w.setCells b 0 cs.toList) := by
  obtain ⟨C1, k1, k2, k3, k4⟩ := heap_setCells (w := w) cs.toList 0 _ hb
  have hC1 : C1 = cs := by
    apply Array.ext
    · omega
    · intro i h1 h2
      have := k3 i (by simpa using h2) (by omega)
      rw [Nat.zero_add, Array.getElem?_eq_getElem h1] at this
      simpa [h2] using this
  subst hC1
  exact ⟨k1, mod_setCells b w 0 C1.toList⟩
theorem there_whole {w : World} {b T : Nat} {zc cs : Array Value} (hb : w.heap[b]? = some (.cells zc T (0, 0))) (h : zc.size = cs.size) : w.there b 0 cs.size := by
  intro j hj
  rw [cell_of_heap hb, frozen_of_heap hb, Array.getElem?_eq_getElem (by omega)]
  exact ⟨rfl, rfl⟩
/-- a new kept message, by value -/
def NewK (P : Program) (f : FuncId) (σ : St) (v : SV) : Prop := ∀ w, Calls P f #[] w fun e w' => ∃ cs : Array Value, e = .returned (.agg cs) ∧ Mod none' w w' ∧ cs.size = σ.sz ∧ cs.all (·.oneCell') = true ∧ ∀ (W : World) (b t : Nat), W.heap[b]? = some (.cells cs t (0, 0)) → Cur σ none' b 0 v W
def RFK (P : Program) (f : FuncId) (σ : St) (K : SV → RS → R SV) : Prop :=
  ∀ vb v srcv sb bs nil ev w, ErrIs w ev → vb ≠ gErr → vb ≠ sb → sb < w.heap.size → Cur σ none' vb 0 v w → Src w srcv sb bs nil → K v ⟨bs, nil, false⟩ ≠ .stuck →
    Calls P f #[.pointer (some ⟨vb, 0, none⟩), srcv] w fun e w' => ∃ r, e = .returned r ∧ Mod (only vb) w w' ∧ match K v ⟨bs, nil, false⟩ with
      | .ok v' s' => r = endErr ev s'.bad ∧ Cur σ (fun k => k = sb ∨ w.heap.size ≤ k) vb 0 v' w'
      | .early => r = ev
      | .stuck => False
/-- what the door of a kept message answers -/
def DoorK (P : Program) (f : FuncId) (K : RS → R SV) (G : SV → List Tr) : Prop :=
  ∀ srcv bs ev w, ErrIs w ev → (∃ tx vx, ev = .iface tx vx) → Srcs w srcv bs → bs.length ≤ 4294967295 → K ⟨bs, bs.isEmpty, false⟩ ≠ .stuck →
    Calls P f #[srcv] w fun e w' => ∃ cs ok, e = .returned (.tuple #[.agg cs, .bool ok]) ∧ Mod none' w w' ∧ cs.size = 5 ∧ cs.all (·.oneCell') = true ∧
      match K ⟨bs, bs.isEmpty, false⟩ with
      | .ok v' s' => ok = !s'.bad ∧ (ok = true → ∃ ver, v'.1[0]? = some (.num ver) ∧ TreeR w' (From w) (from' cs 0) (.mk ver [] false (G v') v'.2))
      | .early => ok = false
      | .stuck => False
section
variable {P : Program} {σ : St} {fn : Func} {f fr : FuncId} {i0 i1 : Nat} {y0 y1 y2 y3 y4 : TypeId} {p0 p1 p2 p3 p4 : String} {e0 e1 e2 e3 e4 : Array Edge} {ts : Array TypeId}
theorem rf_kept {ft : FT} {d : SV → SV} {b : Bool} (hf : P.funcs[f]? = some fn) (hN : fn.ntmps = 8) (hres : fn.results = #[.tmp 4])
    (hbody : fn.body = some (.seq (.region i0 #[⟨some 4, .assign (.const .nilIface), y0, p0, e0, none⟩] false) (.seq (.region i1 #[⟨some 5, .move (.tmp 0), y1, p1, e1, none⟩, ⟨some 6, .move (.tmp 1), y2, p2, e2, none⟩,
      ⟨some 7, .call ⟨.value (.func fr), #[.tmp 5, .tmp 6, .const (.bool b)], ts⟩, y3, p3, e3, none⟩, ⟨some 4, .assign (.tmp 7), y4, p4, e4, none⟩] false) .ret)))
    (hr : ReadK P fr σ ft d) (hbd : bodied P fr = true) : RFK P f σ (fun v => kRead ft (d v)) := by
  intro vb v srcv sb bs nil ev w hE hg hvs hsb hC hsrc hns
  refine calls_of_wp hf hbody ?_
  rw [hN]
  refine wp_act (fun a : Act => Act.get a 0 = .pointer (some ⟨vb, 0, none⟩) ∧ Act.get a 1 = srcv ∧ a.tmps.size = 8 ∧ a.defers = []) ⟨by rw [get_nil_args _ _ _ (by simp)]; rfl, by rw [get_nil_args _ _ _ (by simp)]; rfl, by simp, rfl⟩ ?_
  rintro a ⟨a0, a1, aN, ad⟩
  refine wp_seq (wp_region_lit (wpl_val rfl x_assign (wpList_nil ?_)))
  refine wp_seq (wp_region_lit (wpl_val rfl x_move (wpl_val rfl x_move (wpl_call rfl (x_callf hbd rfl) (R := fun e w' => ∃ r, e = .returned r ∧ Mod (only vb) w w' ∧ match kRead ft (d v) ⟨bs, nil, false⟩ with
      | .ok v' s' => r = endErr ev s'.bad ∧ Cur σ (fun k => k = sb ∨ w.heap.size ≤ k) vb 0 v' w'
      | .early => r = ev
      | .stuck => False) ?_ ?_))))
  · have e0 : ∀ a : Act, Act.get a 5 = .pointer (some ⟨vb, 0, none⟩) → Act.get a 6 = srcv → (#[Operand.tmp 5, .tmp 6, .const (.bool b)] : Array Operand).map a.eval = #[.pointer (some ⟨vb, 0, none⟩), srcv, .bool b] := fun a h h' => by
      simp [eval_tmp, h, h']
      rfl
    rw [e0 _ ?_ ?_]
    · exact hr vb v b srcv sb bs nil ev w hE hg hvs hsb hC hsrc hns
    · simp (disch := (first | omega | (simp only [Act.size_put]; omega))) only [Act.put_none, eval_tmp, Act.get_put_ne, Act.get_put_eq, a0]
    · simp (disch := (first | omega | (simp only [Act.size_put]; omega))) only [Act.put_none, eval_tmp, Act.get_put_ne, Act.get_put_eq, a1]
  · rintro e w' ⟨r, rfl, hm, ho⟩
    refine ⟨r, rfl, wpl_val rfl x_assign (wpList_nil (wp_ret (bodyPost_ret (results_tmp hres _ P w') ?_ ⟨_, rfl, hm, ?_⟩)))⟩
    · simp only [Act.defers_put]; exact ad
    · rw [show ∀ (a : Act) t, a.tmps.getD t undef = Act.get a t from fun _ _ => rfl]
      simp (disch := (first | omega | (simp only [Act.size_put]; omega))) only [Act.put_none, eval_tmp, Act.get_put_ne, Act.get_put_eq]
      exact ho
end
section
variable {P : Program} {σ : St} {fn : Func} {f fNew fRF fTell : FuncId} {TI TL TX i0 i1 i3 i4 i5 i6 i7 yi y16 yb eb yE : Nat} {ts1 ts3 ts5 : Array TypeId}
  {y00 y01 y10 y11 y12 y30 y31 y32 y33 y40 y41 y42 y50 y51 y52 y60 y61 y62 y63 y64 y70 y71 y72 yg : TypeId} {p00 p01 p10 p11 p12 p30 p31 p32 p33 p40 p41 p42 p50 p51 p52 p60 p61 p62 p63 p64 p70 p71 p72 : String} {e00 e01 e10 e11 e12 e30 e31 e32 e33 e40 e41 e42 e50 e51 e52 e60 e61 e62 e63 e64 e70 e71 e72 : Array Edge}
set_option maxHeartbeats 800000 in
theorem door_kept {K : SV → RS → R SV} {v1 : SV} {G : SV → List Tr} (hf : P.funcs[f]? = some fn) (hN : fn.ntmps = 18) (hres : fn.results = #[.cell 2 TI, .tmp 3]) (hT : TellT P TI TL)
    (hbody : fn.body = some (.seq (.region i0 #[⟨some 2, .alloc TI, y00, p00, e00, none⟩, ⟨some 3, .assign (.const (.bool false)), y01, p01, e01, none⟩] false)
      (.seq (.region i1 #[⟨some 6, .call ⟨.value (.func fNew), #[], ts1⟩, y10, p10, e10, none⟩, ⟨some 4, .alloc TX, y11, p11, e11, none⟩, ⟨none, .store TX (.tmp 4) (.tmp 6), y12, p12, e12, none⟩] false)
      (.seq (.seq (.region i3 #[⟨some 7, .move (.tmp 0), y30, p30, e30, none⟩, ⟨some 8, .call ⟨.builtin .append, #[.const (.slice none 0 0), .tmp 7], #[yb, yb]⟩, y31, p31, e31, none⟩,
          ⟨some 9, .call ⟨.value (.func fRF), #[.tmp 4, .tmp 8], ts3⟩, y32, p32, e32, none⟩, ⟨some 10, .binOp .neq yE (.tmp 9) (.const .nilIface) yg, y33, p33, e33, none⟩] false)
        (.cond (.tmp 10) (.seq (.region i4 #[⟨some 11, .build TI #[], y40, p40, e40, none⟩, ⟨none, .store TI (.tmp 2) (.tmp 11), y41, p41, e41, none⟩, ⟨some 3, .assign (.const (.bool false)), y42, p42, e42, none⟩] false) .ret) .skip))
      (.seq (.region i5 #[⟨some 12, .call ⟨.value (.func fTell), #[.tmp 4], ts5⟩, y50, p50, e50, none⟩, ⟨some 5, .alloc TI, y51, p51, e51, none⟩, ⟨none, .store TI (.tmp 5) (.tmp 12), y52, p52, e52, none⟩] false)
      (.seq (.region i6 #[⟨some 13, .fieldAddr TX (.tmp 4) 0, y60, p60, e60, none⟩, ⟨some 14, .load y16 (.tmp 13), y61, p61, e61, none⟩, ⟨some 15, .convert y16 yi (.tmp 14), y62, p62, e62, none⟩, ⟨some 16, .fieldAddr TI (.tmp 5) 0, y63, p63, e63, none⟩, ⟨none, .store yi (.tmp 16) (.tmp 15), y64, p64, e64, none⟩] false)
      (.seq (.region i7 #[⟨some 17, .load TI (.tmp 5), y70, p70, e70, none⟩, ⟨none, .store TI (.tmp 2) (.tmp 17), y71, p71, e71, none⟩, ⟨some 3, .assign (.const (.bool true)), y72, p72, e72, none⟩] false) .ret)))))))
    (hb1 : bodied P fNew = true) (hb3 : bodied P fRF = true) (hb4 : bodied P fTell = true) (hi : intTy P yi .i64 = true) (h16 : intTy P y16 .i16 = true) (h16l : one P y16 = true) (h64s : sized P yi 1 = true) (hby : elemInfo P yb eb 1 = true) (hE : isIface P yE = true)
    (hver : fieldOff P TX 0 = some 0) (hverI : fieldOff P TI 0 = some 0) (hlay : σ.lay.at 0 = some (0, .int .i16)) (hX : ∃ z, zeroOf P TX = some z ∧ z.cells.size = σ.sz) (hXs : sized P TX σ.sz = true)
    (hNew : NewK P fNew σ v1) (hRF : RFK P fRF σ K) (hTell : TellC P fTell σ G) : DoorK P f (K v1) G := by
  intro srcv bs ev w hEr hev hsrc hbl hns
  have hgl : gErr < w.heap.size := World.block_lt_of_cell? _ _ hEr
  refine calls_of_wp hf hbody ?_
  rw [hN]
  refine wp_act (fun a : Act => Act.get a 0 = srcv ∧ a.tmps.size = 18 ∧ a.defers = []) ⟨by rw [get_nil_args _ _ _ (by simp)]; rfl, by simp, rfl⟩ ?_
  rintro a ⟨a0, aN, ad⟩
  refine wp_seq (wp_region_lit (wpl_val rfl (x_alloc hT.zero) (wpl_val rfl x_assign (wpList_nil ?_))))
  have r1 := heap_alloc_new w (.cells (Value.agg #[.int .i64 0, .slice none 0 0, .bool false, .slice none 0 0, .slice none 0 0]).cells TI)
  have m1 : Mod none' w (w.alloc (.cells (Value.agg #[.int .i64 0, .slice none 0 0, .bool false, .slice none 0 0, .slice none 0 0]).cells TI)) := (Mod.refl w).alloc _
  generalize w.alloc (.cells (Value.agg #[.int .i64 0, .slice none 0 0, .bool false, .slice none 0 0, .slice none 0 0]).cells TI) = w1 at *
  obtain ⟨rb, hrb⟩ : ∃ rb, rb = w.heap.size := ⟨_, rfl⟩
  rw [← hrb] at r1 ⊢
  replace r1 : w1.heap[rb]? = some (.cells #[.int .i64 0, .slice none 0 0, .bool false, .slice none 0 0, .slice none 0 0] TI (0, 0)) := r1
  have hrb1 := lt_of_block r1
  -- a new message
  refine wp_seq (wp_region_lit (wpl_call rfl (x_callf hb1 rfl) (R := fun e w' => ∃ cs : Array Value, e = .returned (.agg cs) ∧ Mod none' w1 w' ∧ cs.size = σ.sz ∧ cs.all (·.oneCell') = true ∧ ∀ (W : World) (b t : Nat), W.heap[b]? = some (.cells cs t (0, 0)) → Cur σ none' b 0 v1 W) (by simpa using hNew w1) ?_))
  rintro e w2 ⟨cs0, rfl, m2, z2, o2, c2⟩
  obtain ⟨zx, hzx, hzs⟩ := hX
  refine ⟨_, rfl, wpl_val rfl (x_alloc hzx) (wpl_skip rfl (x_storeN (cs := cs0) (b := w2.heap.size) (o := 0) (by rw [z2]; exact hXs) ?_ ?_ o2 (fill_there (by rw [hzs, z2]))) (wpList_nil ?_))⟩
  · simp (disch := (first | omega | (simp only [Act.size_put]; omega))) only [Act.put_none, eval_tmp, Act.get_put_ne, Act.get_put_eq]
  · simp (disch := (first | omega | (simp only [Act.size_put]; omega))) only [Act.put_none, eval_tmp, Act.get_put_ne, Act.get_put_eq]
  obtain ⟨b3, m3⟩ := fill_new w2 TX (zc := zx.cells) (cs := cs0) (by rw [hzs, z2])
  generalize (w2.alloc (.cells zx.cells TX)).setCells w2.heap.size 0 cs0.toList = w3 at *
  obtain ⟨vb, hvb⟩ : ∃ vb, vb = w2.heap.size := ⟨_, rfl⟩
  rw [← hvb] at b3 ⊢
  have c3 : Cur σ none' vb 0 v1 w3 := c2 w3 vb TX b3
  have m03 : Mod none' w w3 := (m1.trans m2).trans m3
  have hv3 := lt_of_block b3
  have hs12 := m2.size
  refine wp_act (fun a : Act => Act.get a 0 = srcv ∧ Act.get a 2 = .pointer (some ⟨rb, 0, none⟩) ∧ Act.get a 4 = .pointer (some ⟨vb, 0, none⟩) ∧ a.tmps.size = 18 ∧ a.defers = []) ⟨?_, ?_, ?_, ?_, ?_⟩ ?_
  · simp (disch := (first | omega | (simp only [Act.size_put]; omega))) only [Act.put_none, eval_tmp, Act.get_put_ne, Act.get_put_eq, a0]
  · simp (disch := (first | omega | (simp only [Act.size_put]; omega))) only [Act.put_none, eval_tmp, Act.get_put_ne, Act.get_put_eq]
  · simp (disch := (first | omega | (simp only [Act.size_put]; omega))) only [Act.put_none, eval_tmp, Act.get_put_ne, Act.get_put_eq]
  · simp only [Act.size_put]; exact aN
  · simp only [Act.defers_put]; exact ad
  clear a0 aN ad
  rintro a ⟨a0, a2, a4, aN, ad⟩
  -- it is read
  have hsrc3 : Srcs w3 srcv bs := hsrc.mod m03
  refine wp_seq (wp_seq (wp_region_lit (wpl_val rfl x_move (wpl_copy hby rfl ?_ hsrc3 hbl ?_))))
  · simp (disch := (first | omega | (simp only [Act.size_put]; omega))) only [Act.put_none, eval_tmp, Act.get_put_ne, Act.get_put_eq, a0]
  intro v4 w4 m4 h4
  obtain ⟨sb4, hsb4, hsb4', hs4⟩ : ∃ sb4, sb4 < w4.heap.size ∧ vb ≠ sb4 ∧ Src w4 v4 sb4 bs bs.isEmpty := by
    have := m03.size
    have := m4.size
    have := m1.size
    rcases h4 with ⟨rfl, rfl⟩ | ⟨g, g1, g2, g3, g4⟩
    · exact ⟨gErr, by omega, by omega, .inl ⟨rfl, rfl, rfl⟩⟩
    · exact ⟨g, g2, by omega, by rw [g4]; exact g3⟩
  have hE4 : ErrIs w4 ev := (hEr.mod m03 (fun f => f)).mod m4 (fun f => f)
  have c4 : Cur σ none' vb 0 v1 w4 := c3.later m4 (fun f => f) (fun _ f => f.elim)
  have m04 : Mod none' w w4 := m03.trans m4
  refine wpl_call rfl (x_callf hb3 rfl) (R := fun e w' => ∃ r, e = .returned r ∧ Mod (only vb) w4 w' ∧ match K v1 ⟨bs, bs.isEmpty, false⟩ with
      | .ok v' s' => r = endErr ev s'.bad ∧ Cur σ (fun k => k = sb4 ∨ w4.heap.size ≤ k) vb 0 v' w'
      | .early => r = ev
      | .stuck => False) ?_ ?_
  · have e0 : ∀ a : Act, Act.get a 4 = .pointer (some ⟨vb, 0, none⟩) → Act.get a 8 = v4 → (#[Operand.tmp 4, .tmp 8] : Array Operand).map a.eval = #[.pointer (some ⟨vb, 0, none⟩), v4] := fun a h h' => by simp [eval_tmp, h, h']
    rw [e0 _ ?_ ?_]
    · have := m1.size
      exact hRF vb _ v4 sb4 bs _ ev w4 hE4 (by omega) hsb4' hsb4 c4 hs4 hns
    · simp (disch := (first | omega | (simp only [Act.size_put]; omega))) only [Act.put_none, eval_tmp, Act.get_put_ne, Act.get_put_eq, a4]
    · simp (disch := (first | omega | (simp only [Act.size_put]; omega))) only [Act.put_none, eval_tmp, Act.get_put_ne, Act.get_put_eq]
  rintro e w5 ⟨r5, rfl, m5, h5⟩
  refine ⟨r5, rfl, ?_⟩
  have m05 : Mod none' w w5 := m04.trans' m5 (fun _ _ f => f) (fun i hi e => by have : i = vb := e; have := m1.size; omega)
  have hr5 : w5.heap[rb]? = some (.cells #[.int .i64 0, .slice none 0 0, .bool false, .slice none 0 0, .slice none 0 0] TI (0, 0)) :=
    m5.some (m4.some (m3.some (m2.some r1 (fun f => f)) (fun f => f)) (fun f => f)) (fun e => by have : rb = vb := e; omega)
  obtain ⟨isbad, hisbad⟩ : ∃ bad : Bool, (bad = true ∧ r5 = ev ∨ bad = false ∧ r5 = .nilIface) ∧ (match K v1 ⟨bs, bs.isEmpty, false⟩ with
      | .ok v' s' => bad = s'.bad ∧ Cur σ (fun k => k = sb4 ∨ w4.heap.size ≤ k) vb 0 v' w5
      | .early => bad = true
      | .stuck => False) := by
    revert h5
    cases K v1 ⟨bs, bs.isEmpty, false⟩ with
    | ok v' s' =>
      rintro ⟨h1, h2⟩
      refine ⟨s'.bad, ?_, rfl, h2⟩
      cases hb : s'.bad
      · exact .inr ⟨rfl, by rw [h1, hb]; rfl⟩
      · exact .inl ⟨rfl, by rw [h1, hb]; rfl⟩
    | early => intro h; exact ⟨true, .inl ⟨rfl, h⟩, rfl⟩
    | stuck => intro h; exact h.elim
  obtain ⟨hbad, hout⟩ := hisbad
  obtain ⟨tx, vx, hevv⟩ := hev
  refine wpl_val rfl (x_neqNil (v := r5) (b := isbad) hE (fun _ => rfl) ?_ ?_) (wpList_nil ?_)
  · rw [eval_tmp, Act.get_put_eq (by simp only [Act.size_put]; omega)]
  · rcases hbad with ⟨h1, h2⟩ | ⟨h1, h2⟩
    · exact .inl ⟨h1, tx, vx, h2.trans hevv⟩
    · exact .inr ⟨h1, h2⟩
  cases isbad with
  | true =>
    refine wp_cond_true ?_ ?_
    · rw [eval_tmp, Act.get_put_eq (by simp only [Act.size_put]; omega)]
    refine wp_seq (wp_region_lit ?_)
    refine wpl_val rfl (x_build (cells := #[.int .i64 0, .slice none 0 0, .bool false, .slice none 0 0, .slice none 0 0]) ?_) ?_
    · simp only [List.map_toArray, List.map_nil]
      rw [built_of hT.parts]
      rfl
    refine wpl_skip rfl (x_storeN (cs := #[.int .i64 0, .slice none 0 0, .bool false, .slice none 0 0, .slice none 0 0]) (b := rb) (o := 0) hT.size ?_ ?_ (by simp [Value.oneCell']) (there_whole hr5 rfl)) (wpl_val rfl x_assign (wpList_nil ?_))
    · simp (disch := (first | omega | (simp only [Act.size_put]; omega))) only [Act.put_none, eval_tmp, Act.get_put_ne, Act.get_put_eq, a2]
    · simp (disch := (first | omega | (simp only [Act.size_put]; omega))) only [Act.put_none, eval_tmp, Act.get_put_ne, Act.get_put_eq]
    obtain ⟨k1, hm6⟩ := store_whole (cs := #[.int .i64 0, .slice none 0 0, .bool false, .slice none 0 0, .slice none 0 0]) hr5 rfl
    refine wp_act (c := .ret) (fun a : Act => a.tmps.getD 2 undef = .pointer (some ⟨rb, 0, none⟩) ∧ a.tmps.getD 3 undef = .bool false ∧ a.defers = []) ⟨?_, ?_, ?_⟩ ?_
    · rw [show ∀ (a : Act) t, a.tmps.getD t undef = Act.get a t from fun _ _ => rfl]
      simp (disch := (first | omega | (simp only [Act.size_put]; omega))) only [Act.put_none, eval_tmp, Act.get_put_ne, Act.get_put_eq, a2]
    · rw [show ∀ (a : Act) t, a.tmps.getD t undef = Act.get a t from fun _ _ => rfl]
      simp (disch := (first | omega | (simp only [Act.size_put]; omega))) only [Act.put_none, eval_tmp, Act.get_put_ne, Act.get_put_eq]
      rfl
    · simp only [Act.defers_put]; exact ad
    rintro a9 ⟨z4, z5, zd⟩
    refine wp_ret ?_
    try simp only [Exit.then]
    refine bodyPost_ret (v := .tuple #[.agg #[.int .i64 0, .slice none 0 0, .bool false, .slice none 0 0, .slice none 0 0], .bool false]) (results_cellN_tmp hres (b := rb) (o := 0) (cs := [.int .i64 0, .slice none 0 0, .bool false, .slice none 0 0, .slice none 0 0]) (v := .bool false) z4 z5 hT.many (fun j v hv => by rw [cell_of_heap k1, Nat.zero_add]; simpa using hv)) zd ⟨#[.int .i64 0, .slice none 0 0, .bool false, .slice none 0 0, .slice none 0 0], false, rfl, m05.trans' hm6 (fun _ _ f => f) (fun j hj e => by have : j = rb := e; omega), rfl, by simp [Value.oneCell'], ?_⟩
    · revert hout
      cases K v1 ⟨bs, bs.isEmpty, false⟩ with
      | ok v' s' => rintro ⟨h1, h2⟩; exact ⟨by rw [← h1]; rfl, fun h => by cases h⟩
      | early => intro _; rfl
      | stuck => intro h; exact h.elim
  | false =>
    refine wp_cond_false ?_ (wp_skip ?_)
    · rw [eval_tmp, Act.get_put_eq (by simp only [Act.size_put]; omega)]
    obtain ⟨v', s', hft, hs', hc5⟩ : ∃ v' s', K v1 ⟨bs, bs.isEmpty, false⟩ = .ok v' s' ∧ s'.bad = false ∧ Cur σ (fun k => k = sb4 ∨ w4.heap.size ≤ k) vb 0 v' w5 := by
      revert hout
      cases K v1 ⟨bs, bs.isEmpty, false⟩ with
      | ok v' s' => rintro ⟨h1, h2⟩; exact ⟨v', s', rfl, h1.symm, h2⟩
      | early => intro h; cases h
      | stuck => intro h; exact h.elim
    refine wp_act (fun a : Act => Act.get a 2 = .pointer (some ⟨rb, 0, none⟩) ∧ Act.get a 4 = .pointer (some ⟨vb, 0, none⟩) ∧ a.tmps.size = 18 ∧ a.defers = []) ⟨?_, ?_, ?_, ?_⟩ ?_
    · simp (disch := (first | omega | (simp only [Act.size_put]; omega))) only [Act.put_none, eval_tmp, Act.get_put_ne, Act.get_put_eq, a2]
    · simp (disch := (first | omega | (simp only [Act.size_put]; omega))) only [Act.put_none, eval_tmp, Act.get_put_ne, Act.get_put_eq, a4]
    · simp only [Act.size_put]; exact aN
    · simp only [Act.defers_put]; exact ad
    clear a0 a2 a4 aN ad
    rintro a ⟨a2, a4, aN, ad⟩
    refine wp_seq (wp_region_lit (wpl_call rfl (x_callf hb4 rfl) (R := fun e w' => ∃ r, e = .returned r ∧ Mod none' w5 w' ∧ TreeV w' (From w5) r (.part (G v') v'.2)) ?_ ?_))
    · have e0 : ∀ a : Act, Act.get a 4 = .pointer (some ⟨vb, 0, none⟩) → (#[Operand.tmp 4] : Array Operand).map a.eval = #[.pointer (some ⟨vb, 0, none⟩)] := fun a h => by simp [eval_tmp, h]
      rw [e0 _ a4]
      exact hTell vb 0 v' _ w5 hc5
    rintro e w6 ⟨r6, rfl, m6, cs, rfl, q2, q3, q4⟩
    refine ⟨_, rfl, wpl_val rfl (x_alloc hT.zero) (wpl_skip rfl (x_storeN (cs := cs) (b := w6.heap.size) (o := 0) (by rw [q2]; exact hT.size) ?_ ?_ q3 (fill_there (by rw [q2]; rfl))) (wpList_nil ?_))⟩
    · simp (disch := (first | omega | (simp only [Act.size_put]; omega))) only [Act.put_none, eval_tmp, Act.get_put_ne, Act.get_put_eq]
    · simp (disch := (first | omega | (simp only [Act.size_put]; omega))) only [Act.put_none, eval_tmp, Act.get_put_ne, Act.get_put_eq]
    obtain ⟨b7, m7⟩ := fill_new w6 TI (zc := (Value.agg #[.int .i64 0, .slice none 0 0, .bool false, .slice none 0 0, .slice none 0 0]).cells) (cs := cs) (by rw [q2]; rfl)
    generalize (w6.alloc (.cells (Value.agg #[.int .i64 0, .slice none 0 0, .bool false, .slice none 0 0, .slice none 0 0]).cells TI)).setCells w6.heap.size 0 cs.toList = w7 at *
    obtain ⟨tb, htb⟩ : ∃ tb, tb = w6.heap.size := ⟨_, rfl⟩
    rw [← htb] at b7 ⊢
    refine wp_act (fun a : Act => Act.get a 2 = .pointer (some ⟨rb, 0, none⟩) ∧ Act.get a 4 = .pointer (some ⟨vb, 0, none⟩) ∧ Act.get a 5 = .pointer (some ⟨tb, 0, none⟩) ∧ a.tmps.size = 18 ∧ a.defers = []) ⟨?_, ?_, ?_, ?_, ?_⟩ ?_
    · simp (disch := (first | omega | (simp only [Act.size_put]; omega))) only [Act.put_none, eval_tmp, Act.get_put_ne, Act.get_put_eq, a2]
    · simp (disch := (first | omega | (simp only [Act.size_put]; omega))) only [Act.put_none, eval_tmp, Act.get_put_ne, Act.get_put_eq, a4]
    · simp (disch := (first | omega | (simp only [Act.size_put]; omega))) only [Act.put_none, eval_tmp, Act.get_put_ne, Act.get_put_eq]
    · simp only [Act.size_put]; exact aN
    · simp only [Act.defers_put]; exact ad
    clear a2 a4 aN ad
    rintro a ⟨a2, a4, a5, aN, ad⟩
    -- its version
    obtain ⟨ver, hv0, hfit, hvc⟩ : ∃ ver, v'.1[0]? = some (.num ver) ∧ fits .i16 ver ∧ w5.cell? ⟨vb, 0 + 0, none⟩ = some (.int .i16 ver) := by
      obtain ⟨C, t, h1, h2, h3, h4⟩ := hc5.mem
      obtain ⟨u, hu, hrep⟩ := RepL.get _ 0 0 _ _ _ hlay h3
      simp only [Rep] at hrep
      obtain ⟨n, hn, hfn, hnum⟩ := hrep
      refine ⟨n, by rw [hu, hnum], hfn, ?_⟩
      rw [cell_of_heap h1]
      simp only [from', Nat.add_zero, Array.getD_eq_getD_getElem?] at hn
      cases hc : C[0]? with
      | none => rw [hc] at hn; simp [undef] at hn
      | some q => rw [hc] at hn; simpa using hn
    have m57 : Mod none' w5 w7 := m6.trans m7
    have hvc7 : w7.cell? ⟨vb, 0 + 0, none⟩ = some (.int .i16 ver) := by
      obtain ⟨C, t, h1, h2, h3, h4⟩ := hc5.mem
      rw [cell_of_heap h1] at hvc
      rw [cell_of_heap (m57.some h1 (fun f => f))]; exact hvc
    have hz7 : 0 < cs.size := by omega
    refine wp_seq (wp_region_lit (wpl_val rfl (x_fieldAddr hver (b := vb) (o0 := 0) ?_) (wpl_val rfl (x_load1 h16l (b := vb) (o := 0 + 0) (v := .int .i16 ver) ?_ hvc7) (wpl_val rfl (x_convInt (n := ver) h16 hi ?_) (wpl_val rfl (x_fieldAddr hverI (b := tb) (o0 := 0) ?_)
      (wpl_skip rfl (x_store1 h64s (b := tb) (o := 0 + 0) (v := .int .i64 (IntKind.i64.wrap ver)) (u := cs[0]) ?_ ?_ rfl ?_ ?_) (wpList_nil ?_)))))))
    · simp (disch := (first | omega | (simp only [Act.size_put]; omega))) only [Act.put_none, eval_tmp, Act.get_put_ne, Act.get_put_eq, a4]
    · simp (disch := (first | omega | (simp only [Act.size_put]; omega))) only [Act.put_none, eval_tmp, Act.get_put_ne, Act.get_put_eq]
    · simp (disch := (first | omega | (simp only [Act.size_put]; omega))) only [Act.put_none, eval_tmp, Act.get_put_ne, Act.get_put_eq]
    · simp (disch := (first | omega | (simp only [Act.size_put]; omega))) only [Act.put_none, eval_tmp, Act.get_put_ne, Act.get_put_eq, a5]
    · simp (disch := (first | omega | (simp only [Act.size_put]; omega))) only [Act.put_none, eval_tmp, Act.get_put_ne, Act.get_put_eq]
    · simp (disch := (first | omega | (simp only [Act.size_put]; omega))) only [Act.put_none, eval_tmp, Act.get_put_ne, Act.get_put_eq]
    · rw [cell_of_heap b7]; exact Array.getElem?_eq_getElem hz7
    · exact frozen_of_heap b7
    obtain ⟨hw, h64⟩ := kd_i16 ver hfit
    rw [hw]
    have b8 : (w7.setCell ⟨tb, 0 + 0, none⟩ (.int .i64 ver)).heap[tb]? = some (.cells (cs.setIfInBounds 0 (.int .i64 ver)) TI (0, 0)) := heap_setCell_same b7 _
    have m8 : Mod (only tb) w7 (w7.setCell ⟨tb, 0 + 0, none⟩ (.int .i64 ver)) := (Mod.refl w7).put _ _
    generalize w7.setCell ⟨tb, 0 + 0, none⟩ (.int .i64 ver) = w8 at *
    obtain ⟨cv, hcv⟩ : ∃ cv, cv = cs.setIfInBounds 0 (.int .i64 ver) := ⟨_, rfl⟩
    rw [← hcv] at b8
    have hcv5 : cv.size = 5 := by rw [hcv]; simpa using q2
    have hcv1 : cv.all (·.oneCell') = true := by
      rw [hcv]
      rw [Array.all_eq_true] at q3 ⊢
      intro i hi
      rw [Array.getElem_setIfInBounds]
      split
      · rfl
      · exact q3 i (by simpa using hi)
    have hl6 := m6.size
    have hl5 := lt_of_block hr5
    have hr8 : w8.heap[rb]? = some (.cells #[.int .i64 0, .slice none 0 0, .bool false, .slice none 0 0, .slice none 0 0] TI (0, 0)) := m8.some (m57.some hr5 (fun f => f)) (fun e => by have : rb = tb := e; omega)
    refine wp_act (fun a : Act => Act.get a 2 = .pointer (some ⟨rb, 0, none⟩) ∧ Act.get a 5 = .pointer (some ⟨tb, 0, none⟩) ∧ a.tmps.size = 18 ∧ a.defers = []) ⟨?_, ?_, ?_, ?_⟩ ?_
    · simp (disch := (first | omega | (simp only [Act.size_put]; omega))) only [Act.put_none, eval_tmp, Act.get_put_ne, Act.get_put_eq, a2]
    · simp (disch := (first | omega | (simp only [Act.size_put]; omega))) only [Act.put_none, eval_tmp, Act.get_put_ne, Act.get_put_eq, a5]
    · simp only [Act.size_put]; exact aN
    · simp only [Act.defers_put]; exact ad
    clear a2 a4 a5 aN ad
    rintro a ⟨a2, a5, aN, ad⟩
    refine wp_seq (wp_region_lit (wpl_val rfl (x_loadN (cs := cv.toList) (b := tb) (o := 0) (by rw [Array.length_toList, hcv5]; exact hT.many) ?_ ?_) (wpl_skip rfl (x_storeN (cs := cv) (b := rb) (o := 0) (by rw [hcv5]; exact hT.size) ?_ ?_ hcv1 (there_whole hr8 (by rw [hcv5]; rfl))) (wpl_val rfl x_assign (wpList_nil ?_)))))
    · simp (disch := (first | omega | (simp only [Act.size_put]; omega))) only [Act.put_none, eval_tmp, Act.get_put_ne, Act.get_put_eq, a5]
    · intro j u hu
      rw [cell_of_heap b8, Nat.zero_add]; simpa using hu
    · simp (disch := (first | omega | (simp only [Act.size_put]; omega))) only [Act.put_none, eval_tmp, Act.get_put_ne, Act.get_put_eq, a2]
    · simp (disch := (first | omega | (simp only [Act.size_put]; omega))) only [Act.put_none, eval_tmp, Act.get_put_ne, Act.get_put_eq, Array.toArray_toList]
    obtain ⟨k1, hm9⟩ := store_whole (cs := cv) hr8 (by rw [hcv5]; rfl)
    have hmm : Mod none' w (w8.setCells rb 0 cv.toList) := ((m05.trans m57).trans' m8 (fun _ _ f => f) (fun j hj e => by have : j = tb := e; have := m05.size; omega)).trans' hm9 (fun _ _ f => f) (fun j hj e => by have : j = rb := e; omega)
    refine wp_act (c := .ret) (fun a : Act => a.tmps.getD 2 undef = .pointer (some ⟨rb, 0, none⟩) ∧ a.tmps.getD 3 undef = .bool true ∧ a.defers = []) ⟨?_, ?_, ?_⟩ ?_
    · rw [show ∀ (a : Act) t, a.tmps.getD t undef = Act.get a t from fun _ _ => rfl]
      simp (disch := (first | omega | (simp only [Act.size_put]; omega))) only [Act.put_none, eval_tmp, Act.get_put_ne, Act.get_put_eq, a2]
    · rw [show ∀ (a : Act) t, a.tmps.getD t undef = Act.get a t from fun _ _ => rfl]
      simp (disch := (first | omega | (simp only [Act.size_put]; omega))) only [Act.put_none, eval_tmp, Act.get_put_ne, Act.get_put_eq]
      rfl
    · simp only [Act.defers_put]; exact ad
    rintro a9 ⟨z4, z5, zd⟩
    refine wp_ret ?_
    try simp only [Exit.then]
    refine bodyPost_ret (v := .tuple #[.agg cv, .bool true]) (results_cellN_tmp hres (b := rb) (o := 0) (cs := cv.toList) (v := .bool true) z4 z5 (by rw [Array.length_toList, hcv5]; exact hT.many) (fun j v hv => by rw [cell_of_heap k1, Nat.zero_add]; simpa using hv)) zd ⟨cv, true, rfl, hmm, hcv5, hcv1, ?_⟩
    · rw [hft]
      refine ⟨by rw [hs']; rfl, fun _ => ⟨ver, hv0, ?_⟩⟩
      have hsz := m05.size
      have q5 : TreeR (w8.setCells rb 0 cv.toList) (From w) (from' cs 0) (.mk 0 [] false (G v') v'.2) := ((q4.lt.mod m7 (fun _ _ f => f) (fun _ h => h)).mod m8 (fun k hk e => by have h1 : k = tb := e; have := hk.2; omega) (fun _ h => h)).mod hm9 (F' := From w)
        (fun k hk e => by have h1 : k = rb := e; have h2 : w5.heap.size ≤ k := hk.1; omega) (fun k hk => by have h2 : w5.heap.size ≤ k := hk.1; show w.heap.size ≤ k; omega)
      have ej : ∀ j, 0 < j → from' cv 0 j = from' cs 0 j := by
        intro j hj
        rw [hcv]
        simp only [from', Nat.zero_add, Array.getD_eq_getD_getElem?]
        rw [Array.getElem?_setIfInBounds_ne (by omega)]
      cases q5 with
      | mk h0 hn h1 h2 hb h3 h3' h4 h4' =>
        exact .mk (by rw [hcv]; simp [from', hz7]) h64 (by rw [ej 1 (by decide)]; exact h1) (by rw [ej 2 (by decide)]; exact h2) hb (by rw [ej 3 (by decide)]; exact h3) h3' (by rw [ej 4 (by decide)]; exact h4) h4'
end
end Go.Proofs.YtbeeamcaclhgaaaDoor
set_option linter.unusedSimpArgs false
set_option linter.unusedVariables false
namespace Go.Proofs.YtbeeamcaclhgaaaDoor
open Go Go.RowKit
abbrev sEndTxnMarker : St := ⟨9, .cons 0 (.int .i16) (.cons 1 (.int .i32) .nil), none, 2⟩
theorem d_sEndTxnMarker : DfC Tryd.prog 91 sEndTxnMarker (fun v => v) := by
  apply dfc_rule (N := 2) (hf := Tryd.func91) (hbody := rfl) (hN := rfl) (hres := rfl) (hN1 := by decide)
  exact dblk_skip
abbrev v_EndTxnMarker : SV := (Lay.zeroL sEndTxnMarker.lay, ([] : Tags))
abbrev fl_EndTxnMarker : Int → Bool := fun _ => false
abbrev fs_EndTxnMarker : List FD := [.mk 3 0 (-1) (-1) (-1) 0 0 []]
abbrev ok_EndTxnMarker : OkV := fun ver fl => 0 ≤ ver ∧ ver ≤ 0 ∧ fl = fl_EndTxnMarker ver
abbrev z_EndTxnMarker : List Tr := [.num 0]
set_option maxRecDepth 100000 in
theorem read_EndTxnMarker : ∃ ft, ReadK Tryd.prog 92 sEndTxnMarker ft (fun v => v) ∧ Chain ok_EndTxnMarker ft fs_EndTxnMarker 1 0 z_EndTxnMarker := by
  apply Exists.intro
  constructor
  · apply read_kept (m := 11) (N := 31) (hf := Tryd.func92) (hN := rfl) (hres := rfl) (hR := rdT) (h16 := by kernel_rfl) (hver := by kernel_rfl) (hlay := rfl) (hsz := rfl) (htg := by rfl) (htg0 := by decide) (hs16 := by kernel_rfl) (hs := rfl) (hm := by decide) (hmN := by decide) (hbd := by kernel_rfl) (hd := d_sEndTxnMarker) (hbI := by kernel_rfl) (hI := fun _ _ _ _ h => rd_Int16 h) (hbody := rfl)
    apply whole_seq
    · apply blk_get (i := 1)
      · apply get_call
        · exact rc_Int32
        · kernel_rfl
        · rfl
      · apply blkV_put
        · rfl
        · rfl
        · kernel_rfl
        · kernel_rfl
        · rfl
      · rfl
    · apply whole_end
      · exact rd_Complete
      · kernel_rfl
      · rfl
    · rfl
  · first | refine chain_last (z := .num 0) ?_ (by kernel_rfl) (by intro v l h; cases l with | false => rfl | true => (exfalso; simp [ok_EndTxnMarker, fl_EndTxnMarker] at h <;> omega)) | refine chain_cons (z := .num 0) ?_ (by kernel_rfl) (chain_stiff (by intro v l h; cases l with | false => rfl | true => (exfalso; simp [ok_EndTxnMarker, fl_EndTxnMarker] at h <;> omega)))
    repeat' (first | (with_reducible refine piece_nop ?_) | (with_reducible refine piece_if ?_ ?_; rotate_left; · (refine has_if (by decide) ?_; intro v l h; simp [ok_EndTxnMarker, fl_EndTxnMarker] at h ⊢ <;> omega)))
    refine piece_put ?_ (FD.alw (by decide) (by intro v l h; simp [ok_EndTxnMarker, fl_EndTxnMarker] at h ⊢ <;> omega))
    repeat' (first | (with_reducible exact rdw_int32) | (with_reducible refine rdw_stiff rdw_int32 ?_; intro v l h; cases l with | false => rfl | true => (exfalso; simp [ok_EndTxnMarker, fl_EndTxnMarker] at h <;> omega)) | (with_reducible refine rdw_when ?_ ?_))
end Go.Proofs.YtbeeamcaclhgaaaDoor
set_option linter.unusedSimpArgs false
set_option linter.unusedVariables false
namespace Go.Proofs.YtbeeamcaclhgaaaDoor
open Go Go.RowKit
theorem dflt_EndTxnMarker (w : World) (v : Value) : Calls Tryd.prog 91 #[v] w fun e w' => (∃ r, e = .returned r) ∧ w = w' := by
  refine calls_of_wp Tryd.func91 rfl ?_
  refine wp_skip ?_
  exact ⟨rfl, .tuple #[], by simp [results, Tryd.f91], ⟨_, rfl⟩, rfl⟩
set_option maxRecDepth 100000 in
theorem new_EndTxnMarker : NewK Tryd.prog 42 sEndTxnMarker v_EndTxnMarker := by
  intro w
  go_enter Tryd.func42, Tryd.ntmps42
  go_wp2_with (go_at_call 91; refine (dflt_EndTxnMarker _ _).mono ?_; rintro e w1 ⟨⟨r, rfl⟩, rfl⟩)
  obtain ⟨hA, hB⟩ := two_boxes (Mod.refl (S := none') ((w.alloc (.cells #[.int .i16 0, .int .i32 0] 51)).alloc (.cells #[.int .i16 0, .int .i32 0] 51)))
  refine bodyPost_ret (results_cellN rfl (b := w.heap.size) (o := 0) (cs := (#[.int .i16 0, .int .i32 0] : Array Value).toList) rfl (by kernel_rfl) (fun j u hu => by rw [cell_of_heap hA, Nat.zero_add]; simpa using hu)) rfl ⟨#[.int .i16 0, .int .i32 0], rfl, ((Mod.refl w).alloc _).alloc _, rfl, by simp [Value.oneCell'], fun W b t h => ?_⟩
  have hz := zero_ok (lay := sEndTxnMarker.lay) (tg := sEndTxnMarker.tg) (z := from' #[.int .i16 0, .int .i32 0] 0) (by repeat' (first | rfl | trivial | apply And.intro)) (by trivial) W none'
  exact ⟨⟨_, t, h, by decide, hz.1, hz.2⟩⟩
set_option maxRecDepth 100000 in
theorem tell_EndTxnMarker : ∃ G, TellC Tryd.prog 44 sEndTxnMarker G ∧ PresG (fs_EndTxnMarker) G 1 := by
  apply Exists.intro
  constructor
  · apply tell_plain (N := 16) (n := 1) (hf := Tryd.func44) (hN := rfl) (hres := rfl) (hT := tellT) (hok := by rfl) (h4 := by decide) (hne := by decide) (hn := by decide) (hbody := rfl)
    apply twhole_seq
    · apply tell_num (i := 1) (o := 1) (kd := .i32) tellT
      · kernel_rfl
      · kernel_rfl
      · exact kd_i32
      · kernel_rfl
      · kernel_rfl
      · rfl
      · rfl
      · decide
    · exact twhole_end tellT rfl (by rfl)
  · refine pres_leaf ?_
    exact pres_nil
theorem doors_EndTxnMarker : ∃ ft G, DoorK Tryd.prog 13 (kRead ft v_EndTxnMarker) G ∧ Chain ok_EndTxnMarker ft fs_EndTxnMarker 1 0 z_EndTxnMarker ∧ PresG fs_EndTxnMarker G 1 := by
  obtain ⟨ft, hr, hw⟩ := read_EndTxnMarker
  obtain ⟨G, hG, hP⟩ := tell_EndTxnMarker
  refine ⟨ft, G, ?_, hw, hP⟩
  exact door_kept (K := fun v => kRead ft v) (v1 := v_EndTxnMarker) (hf := Tryd.func13) (hN := rfl) (hres := rfl) (hT := tellT) (hbody := rfl) (hb1 := by kernel_rfl) (hb3 := by kernel_rfl) (hb4 := by kernel_rfl) (hi := by kernel_rfl) (h16 := by kernel_rfl) (h16l := by kernel_rfl) (h64s := by kernel_rfl) (eb := 5) (hby := by kernel_rfl) (hE := by kernel_rfl) (hver := by kernel_rfl) (hverI := by kernel_rfl) (hlay := rfl) (hX := ⟨.agg #[.int .i16 0, .int .i32 0], by kernel_rfl, rfl⟩) (hXs := by kernel_rfl) (hNew := new_EndTxnMarker) (hRF := rf_kept Tryd.func43 rfl rfl rfl hr (by kernel_rfl)) (hTell := hG)
end Go.Proofs.YtbeeamcaclhgaaaDoor
set_option linter.unusedSimpArgs false
set_option linter.unusedVariables false
namespace Go.Proofs.YtbeeamcaclhgaaaDoor
open Go Go.RowKit
set_option maxRecDepth 100000 in
theorem kept_reg {w : World} {a : Act} {b3 b5 nfs cap : Nat} {ao : Option Addr} {fx ver : Int} {ct : Array Value} {out : List UInt8} {T3 T5 : TypeId} {id : Nat} {y0 y1 y2 y3 y4 y5 y6 y7 : TypeId} {p0 p1 p2 p3 p4 p5 p6 p7 : String} {ts1 ts5 : Array TypeId} (hN : a.tmps.size = 14)
    (g1 : Act.get a 1 = .int .i64 ver) (g3 : Act.get a 3 = .pointer (some ⟨b3, 0, none⟩)) (g5 : Act.get a 5 = .pointer (some ⟨b5, 0, none⟩)) (h3 : w.heap[b3]? = some (.cells #[.slice ao nfs cap, .int .i64 fx] T3 (0, 0))) (h5 : w.heap[b5]? = some (.cells ct T5 (0, 0))) (hct : ct.size = 5)
    (hlo : out.length ≤ 4294960000) (hW : ∀ W, Mod none' w W → BytesC Tryd.prog 22 #[.agg #[.slice ao nfs cap, .int .i64 fx], .int .i64 ver, .agg ct] W out) :
    (Code.region id #[⟨some 7, .move (.tmp 1), y0, p0, #[], none⟩,
      ⟨some 8, .call ⟨.value (.func 45), #[.tmp 7, .const (.int .i64 2)], ts1⟩, y1, p1, #[⟨0, .data⟩], none⟩,
      ⟨some 9, .load 30 (.tmp 3), y2, p2, #[], none⟩,
      ⟨some 10, .move (.tmp 1), y3, p3, #[], none⟩,
      ⟨some 11, .load 26 (.tmp 5), y4, p4, #[], none⟩,
      ⟨some 12, .call ⟨.value (.func 22), #[.tmp 9, .tmp 10, .tmp 11], ts5⟩, y5, p5, #[⟨2, .data⟩, ⟨3, .data⟩, ⟨4, .data⟩, ⟨1, .chain⟩], none⟩,
      ⟨some 13, .call ⟨.builtin .append, #[.tmp 8, .tmp 12], #[22, 22]⟩, y6, p6, #[⟨1, .data⟩, ⟨5, .data⟩, ⟨5, .chain⟩], none⟩,
      ⟨some 6, .assign (.tmp 13), y7, p7, #[⟨6, .data⟩, ⟨6, .chain⟩, ⟨0, .phase⟩, ⟨1, .phase⟩, ⟨2, .phase⟩, ⟨3, .phase⟩, ⟨4, .phase⟩, ⟨5, .phase⟩, ⟨6, .phase⟩], none⟩] true).wp Tryd.prog
    (fun e a' w' => e = .normal ∧ Mod none' w w' ∧ OwnB w' w.heap.size (Act.get a' 6) (fixedE ver 2 ++ out) ∧ a'.defers = a.defers) a w := by
  refine region_rlq (l := [_, _, _, _, _, _]) (tl := [_, _]) rfl (Mod none') (fun a b h => h) (fun _ _ _ h h' => h.trans h') [7, 8, 9, 10, 11, 12]
    [fun v _ => v = .int .i64 ver, fun v w' => OwnB w' w.heap.size v (fixedE ver 2), fun v _ => v = .agg (#[.slice ao nfs cap, .int .i64 fx]), fun v _ => v = .int .i64 ver, fun v _ => v = .agg (ct)]
    (fun v w' => OwnB w' w.heap.size v out)
    ?_ ?_ (by simp [regFormT]) (by decide) (fun d hd => by rw [hN]; simp at hd; omega) (by simp) (by kernel_rfl) ⟨?_, ?_, ?_, ?_, ?_, ?_, trivial⟩ ?_
  · intro g hg u1 w1 w2 hv hr
    simp only [List.mem_cons, List.not_mem_nil, or_false] at hg
    rcases hg with rfl | rfl | rfl | rfl | rfl
    · exact hv
    · exact hv.mod hr (fun _ _ f => f)
    · exact hv
    · exact hv
    · exact hv
  · intro u1 w1 w2 hv hr
    exact hv.mod hr (fun _ _ f => f)
  · intro a1 w1 hr hp hs hd
    have t1 := (hs.get 1 (by decide)).trans g1
    exact owp_val (x_moveV t1) ⟨_, rfl, relp_ne (by rfl) (.refl _), rfl⟩
  · intro a1 w1 hr hp hs hd
    have q0 : Act.get a1 7 = .int .i64 ver := hd ⟨0, .data⟩ (by simp) rfl
    have e1 : (#[.tmp 7, .const (.int .i64 2)] : Array Operand).map a1.eval = #[.int .i64 ver, .int .i64 2] := by simp [eval_tmp, q0]; rfl
    refine owp_call (x_callf (by kernel_rfl) rfl) (by rw [e1]; exact fixed_c (size := 2) (by decide)) ?_
    rintro e w2 ⟨v, rfl, hm, ho⟩
    exact ⟨_, rfl, _, rfl, relp_ne (by rfl) hm, ho.low hr.size⟩
  · intro a1 w1 hr hp hs hd
    have t1 := (hs.get 3 (by decide)).trans g3
    have k1 := hr.some h3 (fun f => f)
    refine owp_val (x_loadN (cs := (#[.slice ao nfs cap, .int .i64 fx]).toList) (b := b3) (o := 0) (by kernel_rfl) (by rw [eval_tmp]; exact t1) (fun j v hv => by rw [cell_of_heap k1, Nat.zero_add]; simpa using hv)) ⟨_, rfl, relp_ne (by rfl) (.refl _), by simp⟩
  · intro a1 w1 hr hp hs hd
    have t1 := (hs.get 1 (by decide)).trans g1
    exact owp_val (x_moveV t1) ⟨_, rfl, relp_ne (by rfl) (.refl _), rfl⟩
  · intro a1 w1 hr hp hs hd
    have t1 := (hs.get 5 (by decide)).trans g5
    have k1 := hr.some h5 (fun f => f)
    refine owp_val (x_loadN (cs := (ct).toList) (b := b5) (o := 0) (by rw [Array.length_toList, hct]; kernel_rfl) (by rw [eval_tmp]; exact t1) (fun j v hv => by rw [cell_of_heap k1, Nat.zero_add]; simpa using hv)) ⟨_, rfl, relp_ne (by rfl) (.refl _), by simp⟩
  · intro a1 w1 hr hp hs hd
    have q2 : Act.get a1 9 = .agg #[.slice ao nfs cap, .int .i64 fx] := hd ⟨2, .data⟩ (by simp) rfl
    have q3 : Act.get a1 10 = .int .i64 ver := hd ⟨3, .data⟩ (by simp) rfl
    have q4 : Act.get a1 11 = .agg ct := hd ⟨4, .data⟩ (by simp) rfl
    have e1 : (#[.tmp 9, .tmp 10, .tmp 11] : Array Operand).map a1.eval = #[.agg #[.slice ao nfs cap, .int .i64 fx], .int .i64 ver, .agg ct] := by simp [eval_tmp, q2, q3, q4]
    refine owp_call (x_callf (by kernel_rfl) rfl) (by rw [e1]; exact hW w1 hr) ?_
    rintro e w2 ⟨v, rfl, hm, ho⟩
    exact ⟨_, rfl, _, rfl, relp_eq hm, ho.low hr.size⟩
  · intro a1 w1 hr hs hh
    have q1 : OwnB w1 w.heap.size (Act.get a1 8) (fixedE ver 2) := hh 1 (by simp)
    have q5 : OwnB w1 w.heap.size (Act.get a1 12) out := hh 5 (by simp)
    obtain ⟨nl, _, ho5⟩ := q5.oct
    have hlo2 : 2 + out.length ≤ 4294967296 := by omega
    refine wpl_octs (base := w.heap.size) (v := Act.get a1 8) (xv := Act.get a1 12) (bs := fixedE ver 2) (cs := out) octs_info rfl rfl q1 (OctI.of_oct ho5) (by rw [fixedE_length]; exact hlo2) hr.size ?_
    intro v' w' ho hm
    refine wpl_val rfl x_assign (wpList_nil ⟨rfl, hr.fresh hm, ?_, (Act.defers_put _ _ _).trans ((Act.defers_put _ _ _).trans hs.defers)⟩)
    rw [Act.get_put_eq (by simp only [Act.size_put]; rw [hs.size, hN]; decide), eval_tmp, Act.get_put_eq (by rw [hs.size, hN]; decide)]
    exact ho
theorem leafs_low {fs : List FD} (h : ∀ f ∈ fs, leafK f.kind = true) (hn : fs.length ≤ 1000) {ver : Int} {fl : Bool} {t : Tr} (ht : TOk t) : (partW fs ver fl t).length ≤ 4294960000 := by
  have h1 := fieldsW_len (ver := ver) (flex := fl) (t := t) fs 0 h
  have ho := unk_ok t.U ht.tags
  have h2 := tags_len (unkW t.U) (fun p hp => (ho.2.2 p hp).2)
  have h4 := ho.2.1
  have h3 := uvE_ten (n := (unkW t.U).length) (by omega)
  have h5 : (tagsW (unkW t.U)).length ≤ 10 + (unkW t.U).length * 32800 := by simp only [tagsW, List.length_append]; omega
  rw [partW, List.length_append]
  split
  · omega
  · simp only [List.length_nil]; omega
theorem kept_c {w : World} {v : Value} {fs : List FD} {fx ver : Int} {ct : Array Value} {t : Tr} (hg : goodL fs = true) (hf : FdsI w v fs) (hct : ct.size = 5) (ht : TreeI w (from' ct 0) t) (hlen : (partW fs ver (flexW fx ver) t).length ≤ 4294960000) :
    BytesC Tryd.prog 14 #[.agg #[v, .int .i64 fx], .int .i64 ver, .agg ct] w (fixedE ver 2 ++ partW fs ver (flexW fx ver) t) := by
  obtain ⟨ao, cap, hfv⟩ := hf.slice
  subst hfv
  refine calls_of_wp Tryd.func14 rfl ?_
  refine wp_act (fun a : Act => Act.get a 0 = .agg #[.slice ao fs.length cap, .int .i64 fx] ∧ Act.get a 1 = .int .i64 ver ∧ Act.get a 2 = .agg ct ∧ a.tmps.size = 14 ∧ a.defers = []) ⟨?_, ?_, ?_, ?_, rfl⟩ ?_
  · rw [get_nil_args _ _ _ (by simp)]; rfl
  · rw [get_nil_args _ _ _ (by simp)]; rfl
  · rw [get_nil_args _ _ _ (by simp)]; rfl
  · rw [Tryd.ntmps14]; simp
  rintro a ⟨a0, a1, a2, aN, ad⟩
  refine wp_seq (wp_region_lit (wpl_val rfl x_box (wpl_val rfl x_box (wpl_val rfl x_assign (wpList_nil ?_)))))
  rw [show (a.eval (.tmp 0)).cells = #[.slice ao fs.length cap, .int .i64 fx] from by rw [eval_tmp, a0]; rfl]
  rw [show ((a.put (some 3) (.pointer (some ⟨w.heap.size, 0, none⟩))).eval (.tmp 2)).cells = ct from by rw [eval_tmp, Act.get_put_ne (by decide), a2]; rfl]
  obtain ⟨b3, b5⟩ := two_boxes (Mod.refl (S := none') ((w.alloc (.cells #[.slice ao fs.length cap, .int .i64 fx] 30)).alloc (.cells ct 26)))
  have m0 : Mod none' w ((w.alloc (.cells #[.slice ao fs.length cap, .int .i64 fx] 30)).alloc (.cells ct 26)) := ((Mod.refl w).alloc _).alloc _
  have s1 : (w.alloc (.cells #[.slice ao fs.length cap, .int .i64 fx] 30)).heap.size = w.heap.size + 1 := by simp
  rw [s1]
  generalize (w.alloc (.cells #[.slice ao fs.length cap, .int .i64 fx] 30)).alloc (.cells ct 26) = w1 at *
  refine wp_act (fun a : Act => Act.get a 1 = .int .i64 ver ∧ Act.get a 3 = .pointer (some ⟨w.heap.size, 0, none⟩) ∧ Act.get a 5 = .pointer (some ⟨w.heap.size + 1, 0, none⟩) ∧ a.tmps.size = 14 ∧ a.defers = []) ⟨?_, ?_, ?_, ?_, ?_⟩ ?_
  · simp (disch := (first | omega | (simp only [Act.size_put]; omega))) only [Act.put_none, eval_tmp, Act.get_put_ne, Act.get_put_eq, a1]
  · simp (disch := (first | omega | (simp only [Act.size_put]; omega))) only [Act.put_none, eval_tmp, Act.get_put_ne, Act.get_put_eq]
  · simp (disch := (first | omega | (simp only [Act.size_put]; omega))) only [Act.put_none, eval_tmp, Act.get_put_ne, Act.get_put_eq]
  · simp only [Act.size_put]; exact aN
  · simp only [Act.defers_put]; exact ad
  clear a0 a1 a2 aN ad
  rintro a ⟨a1, a3, a5, aN, ad⟩
  refine wp_seq (wp_mono (kept_reg aN a1 a3 a5 b3 b5 hct hlen (fun W hm => write_c hg ((hf.mod m0).mod hm) hct ((ht.mod m0).mod hm) (by omega))) ?_)
  rintro e a' w2 ⟨rfl, hm, ho, hd⟩
  exact wp_ret (bodyPost_ret (results_tmp rfl _ _ _) (hd.trans ad) ⟨_, rfl, m0.trans hm, ho.low m0.size⟩)
set_option maxRecDepth 100000 in
set_option maxHeartbeats 1000000 in
/-- 'ok && x.N == int64(v) && Told(m.Fields, v, m.Flexible(v), t, got(x))' -/
theorem kept_last {w : World} {a : Act} {b3 b5 b7 nfs cap : Nat} {ao : Option Addr} {fx ver : Int} {ct cx : Array Value} {x : Tr} {T3 T5 T7 : TypeId} {id : Nat} {y0 y1 y2 y3 y4 y5 y6 y7 y8 y9 y10 y11 y12 y13 y14 y15 y16 y17 y18 y19 ya5 yb5 : TypeId} {p0 p1 p2 p3 p4 p5 p6 p7 p8 p9 p10 p11 p12 p13 p14 p15 p16 p17 p18 p19 : String} {ts13 ts16 ts17 : Array TypeId} (hN : a.tmps.size = 43)
    (g3 : Act.get a 3 = .pointer (some ⟨b3, 0, none⟩)) (g5 : Act.get a 5 = .pointer (some ⟨b5, 0, none⟩)) (g6 : Act.get a 6 = .int .i64 ver) (g7 : Act.get a 7 = .pointer (some ⟨b7, 0, none⟩)) (g8 : Act.get a 8 = .bool true)
    (h3 : w.heap[b3]? = some (.cells ct T3 (0, 0))) (hct : ct.size = 5) (h5 : w.heap[b5]? = some (.cells #[.slice ao nfs cap, .int .i64 fx] T5 (0, 0))) (h7 : w.heap[b7]? = some (.cells cx T7 (0, 0))) (hcx : cx.size = 5) (hx0 : cx[0 + 0]? = some (.int .i64 ver)) (hx : TreeR w (fun _ => True) (from' cx 0) x)
    (hT : ∀ W cg, Mod none' w W → cg.size = 5 → TreeI W (from' cg 0) x → ToldsC (.slice ao nfs cap) ct cg ver (flexW fx ver) W) :
    (Code.region id #[⟨some 24, .move (.tmp 8), y0, p0, #[], none⟩,
      ⟨some 25, .move (.tmp 24), y1, p1, #[⟨0, .data⟩], none⟩,
      ⟨some 26, .fieldAddr 35 (.tmp 7) 0, y2, p2, #[⟨1, .guard⟩], some (1, true)⟩,
      ⟨some 27, .load 2 (.tmp 26), y3, p3, #[⟨2, .data⟩, ⟨1, .guard⟩], some (1, true)⟩,
      ⟨some 28, .move (.tmp 6), y4, p4, #[⟨1, .guard⟩], some (1, true)⟩,
      ⟨some 29, .binOp .eql ya5 (.tmp 27) (.tmp 28) yb5, y5, p5, #[⟨3, .data⟩, ⟨4, .data⟩, ⟨1, .guard⟩], some (1, true)⟩,
      ⟨some 30, .pick (.tmp 25) (.tmp 29) (.const (.bool false)), y6, p6, #[⟨1, .data⟩, ⟨5, .data⟩], none⟩,
      ⟨some 31, .move (.tmp 30), y7, p7, #[⟨6, .data⟩, ⟨1, .chain⟩], none⟩,
      ⟨some 32, .fieldAddr 30 (.tmp 5) 0, y8, p8, #[⟨7, .guard⟩], some (7, true)⟩,
      ⟨some 33, .load 28 (.tmp 32), y9, p9, #[⟨8, .data⟩, ⟨7, .guard⟩], some (7, true)⟩,
      ⟨some 34, .move (.tmp 6), y10, p10, #[⟨7, .guard⟩], some (7, true)⟩,
      ⟨some 35, .load 30 (.tmp 5), y11, p11, #[⟨7, .guard⟩], some (7, true)⟩,
      ⟨some 36, .move (.tmp 6), y12, p12, #[⟨7, .guard⟩], some (7, true)⟩,
      ⟨some 37, .call ⟨.value (.func 16), #[.tmp 35, .tmp 36], ts13⟩, y13, p13, #[⟨11, .data⟩, ⟨12, .data⟩, ⟨7, .chain⟩, ⟨7, .guard⟩], some (7, true)⟩,
      ⟨some 38, .load 26 (.tmp 3), y14, p14, #[⟨7, .guard⟩], some (7, true)⟩,
      ⟨some 39, .load 35 (.tmp 7), y15, p15, #[⟨7, .guard⟩], some (7, true)⟩,
      ⟨some 40, .call ⟨.value (.func 17), #[.tmp 39], ts16⟩, y16, p16, #[⟨15, .data⟩, ⟨13, .chain⟩, ⟨7, .guard⟩], some (7, true)⟩,
      ⟨some 41, .call ⟨.value (.func 15), #[.tmp 33, .tmp 34, .tmp 37, .tmp 38, .tmp 40], ts17⟩, y17, p17, #[⟨9, .data⟩, ⟨10, .data⟩, ⟨13, .data⟩, ⟨14, .data⟩, ⟨16, .data⟩, ⟨16, .chain⟩, ⟨7, .guard⟩], some (7, true)⟩,
      ⟨some 42, .pick (.tmp 31) (.tmp 41) (.const (.bool false)), y18, p18, #[⟨7, .data⟩, ⟨17, .data⟩], none⟩,
      ⟨some 4, .assign (.tmp 42), y19, p19, #[⟨18, .data⟩, ⟨17, .chain⟩, ⟨0, .phase⟩, ⟨1, .phase⟩, ⟨2, .phase⟩, ⟨3, .phase⟩, ⟨4, .phase⟩, ⟨5, .phase⟩, ⟨6, .phase⟩, ⟨7, .phase⟩, ⟨8, .phase⟩, ⟨9, .phase⟩, ⟨10, .phase⟩, ⟨11, .phase⟩, ⟨12, .phase⟩, ⟨13, .phase⟩, ⟨14, .phase⟩, ⟨15, .phase⟩, ⟨16, .phase⟩, ⟨17, .phase⟩, ⟨18, .phase⟩], none⟩] true).wp Tryd.prog
    (fun e a' w' => e = .normal ∧ Mod none' w w' ∧ Act.get a' 4 = .bool true ∧ a'.defers = a.defers) a w := by
  refine region_rlg (l := [_, _, _, _, _, _, _, _, _, _, _, _, _, _, _, _, _, _, _]) (tl := [_]) rfl (Mod none') (Mod.refl w).drew (fun a => .refl a) (fun _ _ _ h h' => h.trans h') [24, 25, 26, 27, 28, 29, 30, 31, 32, 33, 34, 35, 36, 37, 38, 39, 40, 41, 42]
    [fun v _ => v = .bool true, fun v _ => v = .bool true, fun v _ => v = .pointer (some ⟨b7, 0 + 0, none⟩), fun v _ => v = .int .i64 ver, fun v _ => v = .int .i64 ver, fun v _ => v = .bool true, fun v _ => v = .bool true, fun v _ => v = .bool true, fun v _ => v = .pointer (some ⟨b5, 0 + 0, none⟩), fun v _ => v = .slice ao nfs cap, fun v _ => v = .int .i64 ver, fun v _ => v = .agg (#[.slice ao nfs cap, .int .i64 fx]), fun v _ => v = .int .i64 ver, fun v _ => v = .bool (flexW fx ver), fun v _ => v = .agg (ct), fun v _ => v = .agg (cx), fun v w' => ∃ cg : Array Value, v = .agg cg ∧ cg.size = 5 ∧ TreeI w' (from' cg 0) x, fun v _ => v = .bool true, fun v _ => v = .bool true]
    ?_ (by rfl) (by decide) (fun d hd => by rw [hN]; simp at hd; omega) (by simp) (by kernel_rfl) ⟨?_, ?_, ?_, ?_, ?_, ?_, ?_, ?_, ?_, ?_, ?_, ?_, ?_, ?_, ?_, ?_, ?_, ?_, ?_, trivial⟩ ?_
  · intro g hg u1 w1 w2 hv hr
    simp only [List.mem_cons, List.not_mem_nil, or_false] at hg
    rcases hg with rfl | rfl | rfl | rfl | rfl | rfl | rfl | rfl | rfl | rfl | rfl | rfl | rfl | rfl | rfl | rfl | rfl | rfl | rfl
    · exact hv
    · exact hv
    · exact hv
    · exact hv
    · exact hv
    · exact hv
    · exact hv
    · exact hv
    · exact hv
    · exact hv
    · exact hv
    · exact hv
    · exact hv
    · exact hv
    · exact hv
    · exact hv
    · exact (by obtain ⟨cg, h1, h2, h3⟩ := hv; exact ⟨cg, h1, h2, h3.mod hr⟩)
    · exact hv
    · exact hv
  · intro a1 w1 hr hs hd
    refine .inl ⟨rfl, ?_⟩
    have t1 := (hs.get 8 (by decide)).trans g8
    exact owp_val (x_moveV t1) ⟨_, rfl, (.refl _), rfl⟩
  · intro a1 w1 hr hs hd
    refine .inl ⟨rfl, ?_⟩
    have t0 : Act.get a1 24 = .bool true := hd ⟨0, .data⟩ (by simp) rfl
    exact owp_val (x_moveV t0) ⟨_, rfl, (.refl _), rfl⟩
  · intro a1 w1 hr hs hd
    refine .inl ⟨⟨by decide, true, hd ⟨1, .guard⟩ (by simp) rfl, by rfl⟩, ?_⟩
    have t1 := (hs.get 7 (by decide)).trans g7
    exact owp_val (x_fieldAddr (o := 0) (by kernel_rfl) (b := b7) (o0 := 0) (by rw [eval_tmp]; exact t1)) ⟨_, rfl, (.refl _), rfl⟩
  · intro a1 w1 hr hs hd
    refine .inl ⟨⟨by decide, true, hd ⟨1, .guard⟩ (by simp) rfl, by rfl⟩, ?_⟩
    have t1 : Act.get a1 26 = .pointer (some ⟨b7, 0 + 0, none⟩) := hd ⟨2, .data⟩ (by simp) rfl
    have k1 := hr.some h7 (fun f => f)
    exact owp_val (x_load1 (by kernel_rfl) (b := b7) (o := 0 + 0) (v := .int .i64 ver) (by rw [eval_tmp]; exact t1) (by rw [cell_of_heap k1]; exact hx0)) ⟨_, rfl, (.refl _), rfl⟩
  · intro a1 w1 hr hs hd
    refine .inl ⟨⟨by decide, true, hd ⟨1, .guard⟩ (by simp) rfl, by rfl⟩, ?_⟩
    have t1 := (hs.get 6 (by decide)).trans g6
    exact owp_val (x_moveV t1) ⟨_, rfl, (.refl _), rfl⟩
  · intro a1 w1 hr hs hd
    refine .inl ⟨⟨by decide, true, hd ⟨1, .guard⟩ (by simp) rfl, by rfl⟩, ?_⟩
    have q3 : Act.get a1 27 = .int .i64 ver := hd ⟨3, .data⟩ (by simp) rfl
    have q4 : Act.get a1 28 = .int .i64 ver := hd ⟨4, .data⟩ (by simp) rfl
    exact owp_val (x_eqlI (k := .i64) (m := ver) (n := ver) (by rw [eval_tmp]; exact q3) (by rw [eval_tmp]; exact q4)) ⟨_, rfl, (.refl _), by simp⟩
  · intro a1 w1 hr hs hd
    refine .inl ⟨rfl, ?_⟩
    have q1 : Act.get a1 25 = .bool true := hd ⟨1, .data⟩ (by simp) rfl
    have q2 : Act.get a1 29 = .bool true := hd ⟨5, .data⟩ (by simp) rfl
    exact owp_val (x_pickT q1 q2) ⟨_, rfl, (.refl _), rfl⟩
  · intro a1 w1 hr hs hd
    refine .inl ⟨rfl, ?_⟩
    have q1 : Act.get a1 30 = .bool true := hd ⟨6, .data⟩ (by simp) rfl
    exact owp_val (x_moveV q1) ⟨_, rfl, (.refl _), rfl⟩
  · intro a1 w1 hr hs hd
    refine .inl ⟨⟨by decide, true, hd ⟨7, .guard⟩ (by simp) rfl, by rfl⟩, ?_⟩
    have t1 := (hs.get 5 (by decide)).trans g5
    exact owp_val (x_fieldAddr (o := 0) (by kernel_rfl) (b := b5) (o0 := 0) (by rw [eval_tmp]; exact t1)) ⟨_, rfl, (.refl _), rfl⟩
  · intro a1 w1 hr hs hd
    refine .inl ⟨⟨by decide, true, hd ⟨7, .guard⟩ (by simp) rfl, by rfl⟩, ?_⟩
    have t1 : Act.get a1 32 = .pointer (some ⟨b5, 0 + 0, none⟩) := hd ⟨8, .data⟩ (by simp) rfl
    have k1 := hr.some h5 (fun f => f)
    exact owp_val (x_load1 (by kernel_rfl) (b := b5) (o := 0 + 0) (v := .slice ao nfs cap) (by rw [eval_tmp]; exact t1) (by rw [cell_of_heap k1]; exact rfl)) ⟨_, rfl, (.refl _), rfl⟩
  · intro a1 w1 hr hs hd
    refine .inl ⟨⟨by decide, true, hd ⟨7, .guard⟩ (by simp) rfl, by rfl⟩, ?_⟩
    have t1 := (hs.get 6 (by decide)).trans g6
    exact owp_val (x_moveV t1) ⟨_, rfl, (.refl _), rfl⟩
  · intro a1 w1 hr hs hd
    refine .inl ⟨⟨by decide, true, hd ⟨7, .guard⟩ (by simp) rfl, by rfl⟩, ?_⟩
    have t1 := (hs.get 5 (by decide)).trans g5
    have k1 := hr.some h5 (fun f => f)
    refine owp_val (x_loadN (cs := (#[.slice ao nfs cap, .int .i64 fx]).toList) (b := b5) (o := 0) (by kernel_rfl) (by rw [eval_tmp]; exact t1) (fun j v hv => by rw [cell_of_heap k1, Nat.zero_add]; simpa using hv)) ⟨_, rfl, (.refl _), by simp⟩
  · intro a1 w1 hr hs hd
    refine .inl ⟨⟨by decide, true, hd ⟨7, .guard⟩ (by simp) rfl, by rfl⟩, ?_⟩
    have t1 := (hs.get 6 (by decide)).trans g6
    exact owp_val (x_moveV t1) ⟨_, rfl, (.refl _), rfl⟩
  · intro a1 w1 hr hs hd
    refine .inl ⟨⟨by decide, true, hd ⟨7, .guard⟩ (by simp) rfl, by rfl⟩, ?_⟩
    have q5 : Act.get a1 35 = .agg #[.slice ao nfs cap, .int .i64 fx] := hd ⟨11, .data⟩ (by simp) rfl
    have q6 : Act.get a1 36 = .int .i64 ver := hd ⟨12, .data⟩ (by simp) rfl
    have e1 : (#[.tmp 35, .tmp 36] : Array Operand).map a1.eval = #[.agg #[.slice ao nfs cap, .int .i64 fx], .int .i64 ver] := by simp [eval_tmp, q5, q6]
    refine owp_call (x_callf (by kernel_rfl) rfl) (by rw [e1]; exact flexible_c) ?_
    rintro e w2 ⟨rfl, hm⟩
    exact ⟨_, rfl, _, rfl, hm, rfl⟩
  · intro a1 w1 hr hs hd
    refine .inl ⟨⟨by decide, true, hd ⟨7, .guard⟩ (by simp) rfl, by rfl⟩, ?_⟩
    have t1 := (hs.get 3 (by decide)).trans g3
    have k1 := hr.some h3 (fun f => f)
    refine owp_val (x_loadN (cs := (ct).toList) (b := b3) (o := 0) (by rw [Array.length_toList, hct]; kernel_rfl) (by rw [eval_tmp]; exact t1) (fun j v hv => by rw [cell_of_heap k1, Nat.zero_add]; simpa using hv)) ⟨_, rfl, (.refl _), by simp⟩
  · intro a1 w1 hr hs hd
    refine .inl ⟨⟨by decide, true, hd ⟨7, .guard⟩ (by simp) rfl, by rfl⟩, ?_⟩
    have t1 := (hs.get 7 (by decide)).trans g7
    have k1 := hr.some h7 (fun f => f)
    refine owp_val (x_loadN (cs := (cx).toList) (b := b7) (o := 0) (by rw [Array.length_toList, hcx]; kernel_rfl) (by rw [eval_tmp]; exact t1) (fun j v hv => by rw [cell_of_heap k1, Nat.zero_add]; simpa using hv)) ⟨_, rfl, (.refl _), by simp⟩
  · intro a1 w1 hr hs hd
    refine .inl ⟨⟨by decide, true, hd ⟨7, .guard⟩ (by simp) rfl, by rfl⟩, ?_⟩
    have q9 : Act.get a1 39 = .agg cx := hd ⟨15, .data⟩ (by simp) rfl
    have e1 : (#[.tmp 39] : Array Operand).map a1.eval = #[.agg cx] := by simp [eval_tmp, q9]
    refine owp_call (x_callf (by kernel_rfl) rfl) (R := fun e w' => ∃ v, e = .returned v ∧ Mod none' w1 w' ∧ TreeV w' (fun _ => True) v x) ?_ ?_
    · rw [e1]
      exact (got_spec _ x (Nat.lt_succ_self _) cx w1 (fun _ => True) hcx (hx.mod hr (fun _ _ f => f) (fun _ _ => trivial))).mono fun e w' ⟨v, h1, h2, h3⟩ => ⟨v, h1, h2, h3.mod (Mod.refl (S := none') w') (fun _ _ f => f) (fun _ _ => trivial)⟩
    · rintro e w2 ⟨v, rfl, hm, cg, rfl, hc5, _, htr⟩
      exact ⟨_, rfl, _, rfl, hm, cg, rfl, hc5, htr.toI⟩
  · intro a1 w1 hr hs hd
    refine .inl ⟨⟨by decide, true, hd ⟨7, .guard⟩ (by simp) rfl, by rfl⟩, ?_⟩
    have q3 : Act.get a1 33 = .slice ao nfs cap := hd ⟨9, .data⟩ (by simp) rfl
    have q4 : Act.get a1 34 = .int .i64 ver := hd ⟨10, .data⟩ (by simp) rfl
    have q7 : Act.get a1 37 = .bool (flexW fx ver) := hd ⟨13, .data⟩ (by simp) rfl
    have q8 : Act.get a1 38 = .agg ct := hd ⟨14, .data⟩ (by simp) rfl
    obtain ⟨cg, q10, hc5, hxi⟩ : ∃ cg : Array Value, Act.get a1 40 = .agg cg ∧ cg.size = 5 ∧ TreeI w1 (from' cg 0) x := hd ⟨16, .data⟩ (by simp) rfl
    have e1 : (#[.tmp 33, .tmp 34, .tmp 37, .tmp 38, .tmp 40] : Array Operand).map a1.eval = #[.slice ao nfs cap, .int .i64 ver, .bool (flexW fx ver), .agg ct, .agg cg] := by simp [eval_tmp, q3, q4, q7, q8, q10]
    refine owp_call (x_callf (by kernel_rfl) rfl) (by rw [e1]; exact hT w1 cg hr hc5 hxi) ?_
    rintro e w2 ⟨rfl, hm⟩
    exact ⟨_, rfl, _, rfl, hm, rfl⟩
  · intro a1 w1 hr hs hd
    refine .inl ⟨rfl, ?_⟩
    have q1 : Act.get a1 31 = .bool true := hd ⟨7, .data⟩ (by simp) rfl
    have q2 : Act.get a1 41 = .bool true := hd ⟨17, .data⟩ (by simp) rfl
    exact owp_val (x_pickT q1 q2) ⟨_, rfl, (.refl _), rfl⟩
  · intro a1 w1 hr hs hh
    have q : Act.get a1 42 = .bool true := hh 18 (by simp)
    refine wpl_val rfl x_assign (wpList_nil ⟨rfl, hr, ?_, (Act.defers_put _ _ _).trans hs.defers⟩)
    rw [Act.get_put_eq (by rw [hs.size, hN]; decide)]
    exact q
end Go.Proofs.YtbeeamcaclhgaaaDoor
set_option linter.unusedSimpArgs false
set_option linter.unusedVariables false
namespace Go.Proofs.YtbeeamcaclhgaaaDoor
open Go Go.RowKit
set_option maxRecDepth 100000 in
theorem spec_EndTxnMarker (w : World) : Calls Tryd.prog 12 #[] w fun e w' => ∃ v, e = .returned (.agg #[v, .int .i64 (-1)]) ∧ Mod none' w w' ∧ FdsI w' v fs_EndTxnMarker := by
  go_enter Tryd.func12, Tryd.ntmps12
  go_wp2
  obtain ⟨hA, hB⟩ := two_boxes (Mod.refl (S := none') ((w.alloc (.cells #[.slice (some ⟨w.heap.size + 1, 0, none⟩) 1 1, .int .i64 (-1)] 30)).alloc (.cells #[.int .i64 3, .int .i64 0, .int .i64 (-1), .int .i64 (-1), .int .i64 (-1), .int .i64 0, .int .i64 0, .slice none 0 0] 48)))
  exact bodyPost_ret (results_cellN rfl (b := w.heap.size) (o := 0) (cs := [.slice (some ⟨w.heap.size + 1, 0, none⟩) 1 1, .int .i64 (-1)]) rfl (by kernel_rfl) (fun j u hu => by rw [cell_of_heap hA, Nat.zero_add]; simpa using hu)) rfl
    ⟨_, rfl, ((Mod.refl w).alloc _).alloc _, FdsI.of (fs := fs_EndTxnMarker) [.slice none 0 0] hB rfl (by decide) rfl ⟨FdsI.none' _, trivial⟩⟩
set_option maxHeartbeats 1000000 in
set_option maxRecDepth 20000 in
theorem law_EndTxnMarker {w : World} {n : Int} {ct : Array Value} {t : Tr} {ev : Value} (hn : 0 ≤ n ∧ n ≤ 255) (hE : ErrIs w ev) (hev : ∃ tx vx, ev = .iface tx vx) (hct : ct.size = 5) (ht : TreeI w (from' ct 0) t) (hlen : ∀ ver fl, (partW fs_EndTxnMarker ver fl t).length ≤ 4294967295) :
    Calls Tryd.prog 3 #[.int .u8 n, .agg ct] w fun e w' => e = .returned (.bool true) ∧ Mod none' w w' := by
  clear hlen
  have hlen : ∀ ver fl, (partW fs_EndTxnMarker ver fl t).length ≤ 4294960000 := fun ver fl => leafs_low (by decide) (by decide) ht.ok
  obtain ⟨ft, G, hd1, hwr, hpg⟩ := doors_EndTxnMarker
  refine calls_of_wp Tryd.func3 rfl ?_
  show Code.wp _ _ _ { tmps := (#[.int .u8 n, .agg ct] : Array Value) ++ Array.replicate (43 - (#[.int .u8 n, .agg ct] : Array Value).size) undef, defers := [] } w
  refine wp_act (fun a : Act => Act.get a 0 = .int .u8 n ∧ Act.get a 1 = .agg ct ∧ a.tmps.size = 43 ∧ a.defers = []) ⟨?_, ?_, ?_, rfl⟩ ?_
  · rw [get_nil_args _ _ _ (by simp)]; rfl
  · rw [get_nil_args _ _ _ (by simp)]; rfl
  · simp
  rintro a ⟨a0, a1, aN, ad⟩
  refine wp_seq (wp_region_lit (wpl_val rfl x_box (wpl_val rfl x_assign (wpList_nil ?_))))
  rw [show (a.eval (.tmp 1)).cells = ct from by rw [eval_tmp, a1]; rfl]
  have b3 := heap_alloc_new w (.cells ct 26)
  have m0 : Mod none' w (w.alloc (.cells ct 26)) := (Mod.refl w).alloc _
  generalize w.alloc (.cells ct 26) = w0 at *
  obtain ⟨x3, hx3⟩ : ∃ x, x = w.heap.size := ⟨_, rfl⟩
  rw [← hx3] at b3 ⊢
  refine wp_act (fun a : Act => Act.get a 0 = .int .u8 n ∧ Act.get a 3 = .pointer (some ⟨x3, 0, none⟩) ∧ a.tmps.size = 43 ∧ a.defers = []) ⟨?_, ?_, ?_, ?_⟩ ?_
  · simp (disch := (first | omega | (simp only [Act.size_put]; omega))) only [Act.put_none, eval_tmp, Act.get_put_ne, Act.get_put_eq, a0]
  · simp (disch := (first | omega | (simp only [Act.size_put]; omega))) only [Act.put_none, eval_tmp, Act.get_put_ne, Act.get_put_eq]
  · simp only [Act.size_put]; exact aN
  · simp only [Act.defers_put]; exact ad
  clear a0 a1 aN ad
  rintro a ⟨a0, a3, aN, ad⟩
  refine wp_seq (wp_seq (wp_region_lit (wpl_val rfl (x_loadN (cs := ct.toList) (b := x3) (o := 0) (by rw [Array.length_toList, hct]; kernel_rfl) ?_ ?_) (wpl_call rfl (x_callf (by kernel_rfl) rfl) (R := SomeBool w0) ?_ ?_))))
  · simp (disch := (first | omega | (simp only [Act.size_put]; omega))) only [Act.put_none, eval_tmp, Act.get_put_ne, Act.get_put_eq, a3]
  · intro j u hu
    rw [cell_of_heap b3, Nat.zero_add]; simpa using hu
  · rw [show ∀ a : Act, (#[Operand.tmp 9] : Array Operand).map a.eval = #[Act.get a 9] from fun a => by simp [eval_tmp]]
    simp (disch := (first | omega | (simp only [Act.size_put]; omega))) only [Act.put_none, eval_tmp, Act.get_put_ne, Act.get_put_eq, Array.toArray_toList]
    exact zz1_c hct (ht.mod m0)
  rintro e w1 ⟨b, rfl, m1⟩
  refine ⟨_, rfl, wpl_val rfl (x_notV (b := b) (c := !b) ?_ rfl) (wpList_nil ?_)⟩
  · simp (disch := (first | omega | (simp only [Act.size_put]; omega))) only [Act.put_none, eval_tmp, Act.get_put_ne, Act.get_put_eq]
  cases b with
  | false =>
    refine wp_cond_true ?_ (wp_seq (wp_region_lit (wpl_val rfl x_assign (wpList_nil (wp_ret ?_)))))
    · simp (disch := (first | omega | (simp only [Act.size_put]; omega))) only [Act.put_none, eval_tmp, Act.get_put_ne, Act.get_put_eq]
      rfl
    · simp only [Exit.then]
      refine bodyPost_ret (results_tmp rfl _ _ _) ?_ ⟨?_, m0.trans m1⟩
      · simp only [Act.defers_put]; exact ad
      · rw [show ∀ (a : Act), a.tmps.getD 4 undef = Act.get a 4 from fun _ => rfl]
        simp (disch := (first | omega | (simp only [Act.size_put]; omega))) only [Act.put_none, eval_tmp, Act.get_put_ne, Act.get_put_eq]
        rfl
  | true =>
  refine wp_cond_false ?_ (wp_skip ?_)
  · simp (disch := (first | omega | (simp only [Act.size_put]; omega))) only [Act.put_none, eval_tmp, Act.get_put_ne, Act.get_put_eq]
    rfl
  refine wp_act (fun a : Act => Act.get a 0 = .int .u8 n ∧ Act.get a 3 = .pointer (some ⟨x3, 0, none⟩) ∧ a.tmps.size = 43 ∧ a.defers = []) ⟨?_, ?_, ?_, ?_⟩ ?_
  · simp (disch := (first | omega | (simp only [Act.size_put]; omega))) only [Act.put_none, eval_tmp, Act.get_put_ne, Act.get_put_eq, a0]
  · simp (disch := (first | omega | (simp only [Act.size_put]; omega))) only [Act.put_none, eval_tmp, Act.get_put_ne, Act.get_put_eq, a3]
  · simp only [Act.size_put]; exact aN
  · simp only [Act.defers_put]; exact ad
  clear a0 a3 aN ad
  rintro a ⟨a0, a3, aN, ad⟩
  obtain ⟨k, hk⟩ : ∃ k, k = (IntKind.i64.wrap n).tmod (0 + 1) := ⟨_, rfl⟩
  have hkr : 0 ≤ k ∧ k ≤ 0 := by
    have e1 : IntKind.i64.wrap n = n := by rw [IntKind.wrap_i64]; omega
    rw [hk, e1, Int.tmod_eq_emod_of_nonneg hn.1]
    omega
  have hk16 : IntKind.i16.wrap k = k := by
    simp only [IntKind.wrap, IntKind.bits, IntKind.signed]; simp; split <;> omega
  -- the fields
  refine wp_seq (wp_region_lit (wpl_call rfl (x_callf (by kernel_rfl) rfl) (R := fun e w' => ∃ v, e = .returned (.agg #[v, .int .i64 (-1)]) ∧ Mod none' w1 w' ∧ FdsI w' v fs_EndTxnMarker) (by simpa using spec_EndTxnMarker w1) ?_))
  rintro e w3 ⟨v, rfl, m3, hfs⟩
  obtain ⟨fa, fcap, hfv⟩ := hfs.slice
  subst hfv
  refine ⟨_, rfl, wpl_val rfl x_move (wpl_val rfl (x_convInt (n := n) (k := .u8) (k' := .i64) (by kernel_rfl) (by kernel_rfl) ?_) (wpl_val rfl (x_rem (k := .i64) (m := IntKind.i64.wrap n) (n := 0 + 1) ?_ rfl (by decide)) (wpl_val rfl (x_alloc zeroMsg) (wpl_skip rfl (x_storeN (cs := #[.slice fa fs_EndTxnMarker.length fcap, .int .i64 (-1)]) (b := w3.heap.size) (o := 0) (by kernel_rfl) ?_ ?_ (by simp [Value.oneCell']) (there_new rfl)) (wpl_val rfl x_assign (wpList_nil ?_))))))⟩
  · simp (disch := (first | omega | (simp only [Act.size_put]; omega))) only [Act.put_none, eval_tmp, Act.get_put_ne, Act.get_put_eq, a0]
  · simp (disch := (first | omega | (simp only [Act.size_put]; omega))) only [Act.put_none, eval_tmp, Act.get_put_ne, Act.get_put_eq]
  · simp (disch := (first | omega | (simp only [Act.size_put]; omega))) only [Act.put_none, eval_tmp, Act.get_put_ne, Act.get_put_eq]
  · simp (disch := (first | omega | (simp only [Act.size_put]; omega))) only [Act.put_none, eval_tmp, Act.get_put_ne, Act.get_put_eq]
  rw [← hk]
  obtain ⟨b6, m4⟩ := store_new w3 30 (zc := (Value.agg #[.slice none 0 0, .int .i64 0]).cells) (cs := #[.slice fa fs_EndTxnMarker.length fcap, .int .i64 (-1)]) rfl
  generalize (w3.alloc (.cells (Value.agg #[.slice none 0 0, .int .i64 0]).cells 30)).setCells w3.heap.size 0 (#[Value.slice fa fs_EndTxnMarker.length fcap, .int .i64 (-1)] : Array Value).toList = w4 at *
  obtain ⟨x6, hx6⟩ : ∃ x, x = w3.heap.size := ⟨_, rfl⟩
  rw [← hx6] at b6 ⊢
  refine wp_act (fun a : Act => Act.get a 3 = .pointer (some ⟨x3, 0, none⟩) ∧ Act.get a 5 = .pointer (some ⟨x6, 0, none⟩) ∧ Act.get a 6 = .int .i64 k ∧ a.tmps.size = 43 ∧ a.defers = []) ⟨?_, ?_, ?_, ?_, ?_⟩ ?_
  · simp (disch := (first | omega | (simp only [Act.size_put]; omega))) only [Act.put_none, eval_tmp, Act.get_put_ne, Act.get_put_eq, a3]
  · simp (disch := (first | omega | (simp only [Act.size_put]; omega))) only [Act.put_none, eval_tmp, Act.get_put_ne, Act.get_put_eq]
  · simp (disch := (first | omega | (simp only [Act.size_put]; omega))) only [Act.put_none, eval_tmp, Act.get_put_ne, Act.get_put_eq]
  · simp only [Act.size_put]; exact aN
  · simp only [Act.defers_put]; exact ad
  clear a0 a3 aN ad hk
  rintro a ⟨a3, a5, a6, aN, ad⟩
  have m04 := (m1.trans m3).trans m4
  have b3' := m04.some b3 (fun f => f)
  have ht4 := (ht.mod m0).mod m04
  have hfs4 := hfs.mod m4
  have hE4 := (hE.mod m0 (fun f => f)).mod m04 (fun f => f)
  -- written and told
  refine wp_seq (wp_region_lit (wpl_val rfl (x_loadN (cs := [.slice fa fs_EndTxnMarker.length fcap, .int .i64 (-1)]) (b := x6) (o := 0) (by kernel_rfl) ?_ ?_) (wpl_val rfl x_move (wpl_val rfl (x_loadN (cs := ct.toList) (b := x3) (o := 0) (by rw [Array.length_toList, hct]; kernel_rfl) ?_ ?_)
    (wpl_call rfl (x_callf (by kernel_rfl) rfl) (R := fun e w' => ∃ v, e = .returned v ∧ Mod none' w4 w' ∧ OwnB w' w4.heap.size v (fixedE k 2 ++ partW fs_EndTxnMarker k (flexW (-1) k) t)) ?_ ?_)))))
  · simp (disch := (first | omega | (simp only [Act.size_put]; omega))) only [Act.put_none, eval_tmp, Act.get_put_ne, Act.get_put_eq, a5]
  · intro j u hu
    rw [cell_of_heap b6, Nat.zero_add]; simpa using hu
  · simp (disch := (first | omega | (simp only [Act.size_put]; omega))) only [Act.put_none, eval_tmp, Act.get_put_ne, Act.get_put_eq, a3]
  · intro j u hu
    rw [cell_of_heap b3', Nat.zero_add]; simpa using hu
  · rw [show ∀ a : Act, (#[Operand.tmp 17, Operand.tmp 18, Operand.tmp 19] : Array Operand).map a.eval = #[Act.get a 17, Act.get a 18, Act.get a 19] from fun a => by simp [eval_tmp]]
    simp (disch := (first | omega | (simp only [Act.size_put]; omega))) only [Act.put_none, eval_tmp, Act.get_put_ne, Act.get_put_eq, a6, Array.toArray_toList]
    exact kept_c (by decide) hfs4 hct ht4 (hlen _ _)
  rintro e w5 ⟨bv, rfl, m5, hown⟩
  have hflx : flexW (-1) k = false := by simp [flexW]
  rw [hflx] at hown
  obtain ⟨bs, hbs⟩ : ∃ bs, bs = fixedE k 2 ++ partW fs_EndTxnMarker k false t := ⟨_, rfl⟩
  have hlb : bs.length ≤ 4294967295 := by
    have := hlen k false
    rw [hbs, List.length_append, fixedE_length]; omega
  have hpos : 1 ≤ bs.length := by rw [hbs, List.length_append, fixedE_length]; omega
  have hne : bs.isEmpty = false := by cases bs <;> simp at hpos ⊢
  obtain ⟨xs, hread, htold⟩ := hwr k false t [.num k] [] ⟨hkr.1, hkr.2, rfl⟩ ht.ok rfl
  have hK : kRead ft v_EndTxnMarker ⟨bs, false, false⟩ = .ok ([.num k] ++ xs, []) ⟨[], false, false⟩ := by
    have e1 : bs = fixedE k 2 ++ (fieldsW fs_EndTxnMarker 0 k false t ++ []) := by rw [hbs, partW]; simp
    rw [kRead, e1, rdInt16_w, hk16]
    show ft k false ([Tr.num k] ++ z_EndTxnMarker, []) _ = _
    simpa using hread
  have hd := hd1 bv bs ev w5 (hE4.mod m5 (fun f => f)) hev (hbs ▸ hown.srcs) hlb (by rw [hne, hK]; exact fun h => by cases h)
  rw [hne, hK] at hd
  refine ⟨_, rfl, wpl_call rfl (x_callf (by kernel_rfl) rfl) (R := fun e w' => ∃ cs ok, e = .returned (.tuple #[.agg cs, .bool ok]) ∧ Mod none' w5 w' ∧ cs.size = 5 ∧ cs.all (·.oneCell') = true ∧
      (ok = !false ∧ (ok = true → ∃ ver, ([Tr.num k] ++ xs)[0]? = some (.num ver) ∧ TreeR w' (From w5) (from' cs 0) (.mk ver [] false (G ([.num k] ++ xs, [])) [])))) ?_ ?_⟩
  · rw [show ∀ a : Act, (#[Operand.tmp 20] : Array Operand).map a.eval = #[Act.get a 20] from fun a => by simp [eval_tmp]]
    simp (disch := (first | omega | (simp only [Act.size_put]; omega))) only [Act.put_none, eval_tmp, Act.get_put_ne, Act.get_put_eq]
    exact hd
  rintro e w6 ⟨cx, ok, rfl, m6, hcx, hcx1, hok, htr⟩
  obtain rfl : ok = true := hok
  obtain ⟨ver, hv0, htr⟩ := htr rfl
  obtain rfl : k = ver := by
    have : Tr.num k = Tr.num ver := by simpa using hv0
    simpa [Tr.num] using this
  have hx0 : cx[0 + 0]? = some (.int .i64 k) := by
    cases htr with
    | mk h0 hn h1 h2 hb h3 h3' h4 h4' =>
      rw [Array.getElem?_eq_getElem (by omega)]
      have : from' cx 0 0 = cx[0 + 0] := by simp [from', hcx]
      rw [← this, h0]
  refine ⟨_, rfl, wpl_val rfl x_move (wpl_val rfl (x_extract (vs := #[.agg cx, .bool true]) (i := 0) (v := .agg cx) ?_ rfl) (wpl_val rfl (x_extract (vs := #[.agg cx, .bool true]) (i := 1) (v := .bool true) ?_ rfl) (wpl_val rfl (x_alloc zeroTr) (wpl_skip rfl (x_storeN (cs := cx) (b := w6.heap.size) (o := 0) (by rw [hcx]; kernel_rfl) ?_ ?_ hcx1 (there_new (by rw [hcx]; rfl))) (wpl_val rfl x_assign (wpList_nil ?_))))))⟩
  · simp (disch := (first | omega | (simp only [Act.size_put]; omega))) only [Act.put_none, eval_tmp, Act.get_put_ne, Act.get_put_eq]
  · simp (disch := (first | omega | (simp only [Act.size_put]; omega))) only [Act.put_none, eval_tmp, Act.get_put_ne, Act.get_put_eq]
  · simp (disch := (first | omega | (simp only [Act.size_put]; omega))) only [Act.put_none, eval_tmp, Act.get_put_ne, Act.get_put_eq]
  · simp (disch := (first | omega | (simp only [Act.size_put]; omega))) only [Act.put_none, eval_tmp, Act.get_put_ne, Act.get_put_eq]
  obtain ⟨b8, m7⟩ := store_new w6 35 (zc := (Value.agg #[.int .i64 0, .slice none 0 0, .bool false, .slice none 0 0, .slice none 0 0]).cells) (cs := cx) (by rw [hcx]; rfl)
  generalize (w6.alloc (.cells (Value.agg #[.int .i64 0, .slice none 0 0, .bool false, .slice none 0 0, .slice none 0 0]).cells 35)).setCells w6.heap.size 0 cx.toList = w7 at *
  obtain ⟨x8, hx8⟩ : ∃ x, x = w6.heap.size := ⟨_, rfl⟩
  rw [← hx8] at b8 ⊢
  refine wp_act (fun a : Act => Act.get a 3 = .pointer (some ⟨x3, 0, none⟩) ∧ Act.get a 5 = .pointer (some ⟨x6, 0, none⟩) ∧ Act.get a 6 = .int .i64 k ∧ Act.get a 7 = .pointer (some ⟨x8, 0, none⟩) ∧ Act.get a 8 = .bool true ∧ a.tmps.size = 43 ∧ a.defers = []) ⟨?_, ?_, ?_, ?_, ?_, ?_, ?_⟩ ?_
  · simp (disch := (first | omega | (simp only [Act.size_put]; omega))) only [Act.put_none, eval_tmp, Act.get_put_ne, Act.get_put_eq, a3]
  · simp (disch := (first | omega | (simp only [Act.size_put]; omega))) only [Act.put_none, eval_tmp, Act.get_put_ne, Act.get_put_eq, a5]
  · simp (disch := (first | omega | (simp only [Act.size_put]; omega))) only [Act.put_none, eval_tmp, Act.get_put_ne, Act.get_put_eq, a6]
  · simp (disch := (first | omega | (simp only [Act.size_put]; omega))) only [Act.put_none, eval_tmp, Act.get_put_ne, Act.get_put_eq]
  · simp (disch := (first | omega | (simp only [Act.size_put]; omega))) only [Act.put_none, eval_tmp, Act.get_put_ne, Act.get_put_eq]
  · simp only [Act.size_put]; exact aN
  · simp only [Act.defers_put]; exact ad
  clear a3 a5 a6 aN ad
  rintro a ⟨a3, a5, a6, a7, a8, aN, ad⟩
  have m57 := (m5.trans m6).trans m7
  have tg := (hpg ([.num k] ++ xs, [])).1 0 k false t (by simpa using htold)
  refine wp_seq (wp_mono (kept_last aN a3 a5 a6 a7 a8 (m57.some b3' (fun f => f)) hct (m57.some b6 (fun f => f)) b8 hcx hx0 (htr.mod m7 (fun _ _ f => f) (fun _ _ => trivial))
    (fun W cg hm hc hx => by rw [hflx]; exact told_all (by decide) ((hfs4.mod m57).mod hm) hct hc ((ht4.mod m57).mod hm) hx tg (by simp [tagsTold, Tr.U]))) ?_)
  rintro e a' w8 ⟨rfl, m8, h4, hd4⟩
  exact wp_ret (bodyPost_ret (results_tmp rfl _ _ _) (hd4.trans ad) ⟨congrArg Ending.returned h4, ((m0.trans m04).trans m57).trans m8⟩)
end Go.Proofs.YtbeeamcaclhgaaaDoor
set_option linter.unusedSimpArgs false
set_option linter.unusedVariables false
namespace Go.Proofs.YtbeeamcaclhgaaaDoor.CEndTxnMarker
open Go Go.ChangeShapes Go.WideShapes Go.ChangeAt Go.RowKit Go.Proofs.YtbeeamcaclhgaaaDoor
theorem goesBy_of {c : OpenClaim} {P : Program} {f : FuncId} (hs : c.start = .entering) (hn : P.funcNamed c.func = some f) (hg : P.goes f = false) : false = c.goesBy P := by
  simp [OpenClaim.goesBy, Program.goesAt, Program.goesFrom, hs, hn, hg]
section
variable {H : Type} {enc : TypeId × Value → H} {P : Program}
theorem post_of_below' {f : Func} {s : ChangeSpec} {apart fresh handsOn again : Bool} {W W' : World} {args : Array Value} {v : Value} {ds gs : List (DataW H)} {before pa pv : List MemPlace}
    (hW : DataW.Whole enc P f.params.toList s.vars apart W args.toList ds gs before)
    (hres : ∀ (b : Nat) (sp : Nat → Bool) (hd : Bool), DataW.TrodAll enc P W' b sp hd f.resultTypes.toList (v.resultList f.resultTypes.size) (s.fn H (ds ++ gs)).results [])
    (hargs : ∀ sp : Nat → Bool, (∀ p ∈ before, sp p.block = true) → DataW.TrodAll enc P W' 0 sp true f.params.toList args.toList (s.fn H (ds ++ gs)).args pa)
    (hvars : ∀ sp : Nat → Bool, (∀ p ∈ before, sp p.block = true) → DataW.TrodVars enc P W' sp s.vars (s.fn H (ds ++ gs)).vars pv)
    (hps : before = pa ++ pv) (hb : Below W.heap.size W W')
    (hok : ∀ (j : Nat) (t : TypeId) (r : Value), f.resultTypes[j]? = some t → (v.resultList f.resultTypes.size)[j]? = some r → Value.okWide P W' .any 0 t r) :
    s.post enc P f apart fresh handsOn again W args v W' := by
  have hlt : ∀ p ∈ before, p.block < W.heap.size := fun p hp => hW.lt p hp
  have hold : ∀ p ∈ before, (fun b => decide (b < W.heap.size)) p.block = true := fun p hp => by simpa using hlt p hp
  refine ⟨ds, gs, before, [], pa, pv, hW, hres _ _ _, hargs _ hold, hvars _ hold, World.keptBut_mono (fun p hp => ⟨hp, ?_⟩) (hb.frame (· ∈ before)), fun _ => ?_⟩
  · rw [hps, List.mem_append] at hp
    exact Or.inr hp
  · obtain ⟨_, _, _, _, _, hz, hn⟩ := hW
    refine ⟨hok, _, _, ([] ++ pa) ++ pv, ⟨[] ++ pa, pv, trodAll_append (hargs _ (fun _ _ => rfl)) (hres _ _ _), hvars _ (fun _ _ => rfl), rfl, ?_, ?_⟩, ?_⟩
    · intro b off hp
      have hin : MemPlace.cell b off ∈ before := by rw [hps]; simpa using hp
      rw [hb.frozen (hlt _ hin)]
      exact hz b off hin
    · intro ha
      have := hn ha
      rw [hps] at this
      simpa using this
    · intro p hp _
      rw [hps]
      simpa using hp
end
theorem own : ownKnob Tryd.prog.godebug = none := by kernel_rfl
theorem gErrName : Tryd.prog.globalNamed "pub-mailsack/pub/kmsg/inner/kbin.ErrNotEnoughData" = some gErr := by kernel_rfl
theorem gErrType : (Tryd.prog.globals[gErr]?).map (·.type) = some 54 := by kernel_rfl
theorem star : "*" ++ "errors.errorString" = "*errors.errorString" := by decide
theorem rowOf (u : TypeId) (h : Tryd.prog.typeName? 3 u = some "*errors.errorString") : u = 190 :=
  typeName_ptr_named (nm := "errors.errorString") (by rw [star]; kernel_rfl) (by kernel_rfl) (by decide) u (by rw [star]; exact h)
theorem cellsE : Tryd.prog.cellsOf 209 = 1 := by kernel_rfl
theorem cellsS : Tryd.prog.cellsOf 9 = 1 := by kernel_rfl
/-- what the row's list gives -/
theorem errOf {W : World} (h : laidMetH Tryd.prog Rows.fnTellEndTxnMarkerRow.laid W) : ∃ ev, ErrIs W ev ∧ ∃ tx vx, ev = .iface tx vx := by
  obtain ⟨a0, s0, hv0, -, -, -⟩ := laid_sentinel (show laidMet Tryd.prog Rows.fnTellEndTxnMarkerRow.laid W from h) gErrName gErrType Tryd.underlying54 rowOf Tryd.underlying190 Tryd.underlying209 rfl rfl Tryd.underlying9 cellsE cellsS
  exact ⟨_, by have h0 := World.var?_cell gErrName hv0 0; unfold ErrIs; simpa using h0, _, _, rfl⟩
theorem rowsFull : ∀ t e, t < Tryd.prog.types.size → Tryd.prog.underlying t = some (.slice e) → 0 < Tryd.prog.cellsOf e := slices_full_of Tryd.prog (by kernel_rfl)
theorem carryAll {H : Type} {enc : TypeId × Value → H} {P : Program} {w w' : World} {base : Nat} {spare : Nat → Bool} {held : Bool} : ∀ {ts : List TypeId} {vs : List Value} {ds : List (DataW H)} {ps : List MemPlace}, DataW.TrodAll enc P w base spare held ts vs ds ps → (∀ p ∈ ps, w.sameAt w' p) → DataW.TrodAll enc P w' base spare held ts vs ds ps
  | [], [], [], _, h, _ => h
  | _ :: _, _ :: _, _ :: _, _, ⟨p, q, ⟨n, h1⟩, h2, e⟩, hs => ⟨p, q, ⟨n, DataW.trod_carry n _ _ _ h1 (fun x hx => hs x (by rw [e]; exact List.mem_append_left _ hx))⟩, carryAll h2 (fun x hx => hs x (by rw [e]; exact List.mem_append_right _ hx)), e⟩
set_option maxRecDepth 100000 in
theorem contract (H : Type) (enc : TypeId × Value → H) (W : World) (base : Nat) (args : Array Value) (ds gs : List (DataW H)) (before : List MemPlace)
    (hval : ∀ (j : Nat) t v, Tryd.f3.params[j]? = some t → args[j]? = some v → Value.okWide Tryd.prog W .any base t v)
    (hW : DataW.Whole enc Tryd.prog Tryd.f3.params.toList Rows.fnTellEndTxnMarkerSpec.vars false W args.toList ds gs before) (hL : laidMetH Tryd.prog Rows.fnTellEndTxnMarkerRow.laid W)
    (hk : ∀ k, (OpenSpec.ofChange Rows.fnTellEndTxnMarkerSpec).cond = some k → k H (ds ++ gs) = true) :
    Calls Tryd.prog 3 args W fun e W' => ∃ v, e = .returned v ∧ Rows.fnTellEndTxnMarkerSpec.post enc Tryd.prog Tryd.f3 false true false false W args v W' := by
  have hW' := hW
  have hlt : ∀ p ∈ before, p.block < W.heap.size := fun p hp => hW.lt p hp
  obtain ⟨p, q, hA0, hV, rfl, hfz, hnd⟩ := hW
  have hA : DataW.TrodAll enc Tryd.prog W 0 (fun _ => true) true Tryd.f3.params.toList args.toList ds p := hA0
  rw [Tryd.params3] at hA hval
  have hAA := hA
  obtain ⟨v0, vs0, d0, ds0, p0, q0, hargs, rfl, rfl, h0, r0⟩ := trodAll_cons hA
  obtain ⟨v1, vs1, d1, ds1, p1, q1, rfl, rfl, rfl, h1, r1⟩ := trodAll_cons r0
  obtain ⟨rfl, rfl, rfl⟩ := trodAll_nil r1
  obtain rfl : args = #[v0, v1] := by cases args; simp_all
  obtain ⟨rfl, rfl⟩ := trodVars_none hV
  obtain ⟨n, rfl, rfl, rfl, hwn⟩ := open_int Tryd.underlying5 (hval 0 5 v0 rfl rfl) h0
  clear hA0
  obtain ⟨ev, hE, hev⟩ := errOf hL
  obtain ⟨ct, rfl, hct⟩ := okWide_struct Tryd.underlying26 (hval 1 26 v1 rfl rfl)
  rw [cellsTree] at hct
  obtain ⟨fuel, hf⟩ := h1
  obtain ⟨t, hti, hbulk⟩ := open_tree fuel _ _ hf
  have ht : TreeI W (from' ct 0) t := hti.congr (fun j hj => by simp [from', Value.cells, Array.getD, List.getD, hct, hj])
  have hn : 0 ≤ n ∧ n ≤ 255 := by
    simp [Lit.wf, IntKind.min, IntKind.max, IntKind.signed, IntKind.bits] at hwn
    omega
  have hlen : ∀ ver fl, (partW fs_EndTxnMarker ver fl t).length ≤ 4294967295 := fun ver fl => leafs_len (by decide) (by decide) ht.ok
  refine (law_EndTxnMarker hn hE hev hct ht hlen).mono fun e W' ⟨he, hm⟩ => ?_
  subst he
  refine ⟨_, rfl, post_of_below' (pv := []) hW' (fun _ _ _ => trodAll_cons_mk (shut_bool Tryd.underlying4 _) trodAll_mk0) (fun sp hsp => ?_) (fun _ _ => rfl) rfl hm.below
    (ok_one (by kernel_rfl) rfl (okWide_bool_mk Tryd.underlying4 _))⟩
  rw [Tryd.params3]
  refine carryAll (DataW.TrodAll.respare (kids_rows (by kernel_rfl) (by kernel_rfl)) rowsFull (by decide +kernel) hAA (fun x hx => hsp x (by simpa using hx))) (fun x hx => hm.below.same (hlt x (by simpa using hx)))
abbrev errText : ByteArray := { data := #[114, 101, 115, 112, 111, 110, 115, 101, 32, 100, 105, 100, 32, 110, 111, 116, 32, 99, 111, 110, 116, 97, 105, 110, 32, 101, 110, 111, 117, 103, 104, 32, 100, 97, 116, 97, 32, 116, 111, 32, 98, 101, 32, 118, 97, 108, 105, 100] }
noncomputable def lowB : Nat := (World.holding Tryd.prog default ⟨#[], #[], []⟩).heap.size
noncomputable def laidWorld (os : Os) : World :=
  let w0 := World.holding Tryd.prog os ⟨#[.cells #[.string errText] 209], #[], []⟩
  { w0 with heap := w0.heap.modify gErr fun
      | .cells _ t frozen => .cells #[.iface 190 (.pointer (some ⟨lowB, 0, none⟩))] t frozen
      | o => o }
abbrev wArgs : Array Value := #[.int .u8 0, .agg #[.int .i64 0, .slice none 0 0, .bool false, .slice none 0 0, .slice none 0 0]]
theorem laid_met (os : Os) : laidMet Tryd.prog Rows.fnTellEndTxnMarkerRow.laid ((laidWorld os).forCall (fun _ _ => 0) ⟨#[], wArgs, []⟩).memory :=
  laidMet_of_run' 8 (by kernel_rfl) (by kernel_rfl)
theorem reads (os : Os) {H : Type} (enc : TypeId × Value → H) : ∃ places, DataW.whole enc Tryd.prog ((laidWorld os).forCall (fun _ _ => 0) ⟨#[], wArgs, []⟩).memory Tryd.f3.params.toList Rows.fnTellEndTxnMarkerSpec.vars false wArgs.toList 8 = some ([.lit (.int .u8 0), .agg [.lit (.int .i64 0), .nil, .lit (.bool false), .nil, .nil]], [], places) :=
  ⟨[], by kernel_rfl⟩
set_option maxRecDepth 100000 in
theorem lifted (os : Os) (started : os.Started) (H : Type) (enc : TypeId × Value → H) (F : Stop.Interp) :
    ReturnsInHanded {} Tryd.checked os 3 .any ((OpenSpec.ofChange Rows.fnTellEndTxnMarkerSpec).preRow enc Tryd.prog Tryd.f3 Rows.fnTellEndTxnMarkerRow.domain false Rows.fnTellEndTxnMarkerRow.laid) (((OpenSpec.ofChange Rows.fnTellEndTxnMarkerSpec).at F).post enc Tryd.prog Tryd.f3 false true false false) := by
  obtain ⟨places, hx⟩ := reads os enc
  refine returnsInHanded_of_row (C := Tryd.checked) (s := OpenSpec.ofChange Rows.fnTellEndTxnMarkerSpec) own started (by kernel_rfl) Tryd.func3
    (witness_row_at (enc := enc) (C := Tryd.checked) false (laidWorld os) wArgs rfl (by kernel_rfl) (by kernel_rfl) (by kernel_rfl)
      (OpenSpec.preRow_of_cond 8 hx (by kernel_rfl) (fun k hk => by first | (cases hk; kernel_rfl) | cases hk) (by kernel_rfl) (laid_met os))) ?_
  intro W base args ds gs before hval hW _ hk _ hL _ _
  exact contract H enc W base args ds gs before hval hW hL hk
set_option maxRecDepth 100000 in
theorem clo : Program.closure Tryd.prog 3 = [3, 11, 41, 90, 12, 14, 45, 22, 59, 47, 46, 103, 94, 95, 132, 104, 133, 53, 93, 97, 48, 51, 52, 13, 42, 91, 43, 92, 125, 141, 126, 142, 127, 44, 16, 17, 15, 49, 96, 50] := by kernel_rfl
set_option maxRecDepth 100000 in
theorem eP : Program.inPlace Tryd.prog 3 = [] := by unfold Program.inPlace; rw [clo]; kernel_rfl
set_option maxRecDepth 100000 in
theorem eU : Program.unfollowed Tryd.prog 3 = false := by unfold Program.unfollowed; rw [clo]; kernel_rfl
theorem eR : Program.recurses Tryd.prog 3 = true := by unfold Program.recurses; rw [eU]; kernel_rfl
set_option maxRecDepth 100000 in
theorem eV : Program.varsNamed Tryd.prog 3 = ["encoding/binary.BigEndian", "pub-mailsack/pub/kmsg/inner/kbin.ErrNotEnoughData"] := by unfold Program.varsNamed; rw [clo]; kernel_rfl
set_option maxRecDepth 100000 in
theorem eG : Program.goes Tryd.prog 3 = false := by unfold Program.goes; rw [clo, eU]; kernel_rfl
set_option maxRecDepth 100000 in
theorem facts : joinedFacts Tryd.prog 3 Tryd.f3 (OpenSpec.ofChange Rows.fnTellEndTxnMarkerSpec).bare Rows.fnTellEndTxnMarkerRow = true := by
  unfold joinedFacts
  rw [eP, eU, eR, eV]
  kernel_rfl
theorem said : Rows.FnTellEndTxnMarkerSaid :=
  OpenClaim.holds_of_cond 3 Tryd.f3 rfl rfl rfl rfl rfl rfl rfl ⟨rfl, rfl, rfl, rfl, rfl⟩ rfl rfl rfl rfl rfl (by kernel_rfl) Tryd.func3 facts
    (of_decide_eq_true (by kernel_rfl)) (by unfold Func.isWrapper; first | (rw [if_pos (by decide +kernel)]; kernel_rfl) | (rw [if_neg (by decide +kernel)]; exact ⟨rfl, rfl⟩))
    (fun os started H enc _ F => by rw [OpenClaim.pre_eq_preRow]; exact lifted os started H enc F)
theorem plain (f : FuncId) (fn : Func) (hf : Tryd.pinned.checked.prog.funcNamed "pub-mailsack/laws.FnTellEndTxnMarker" = some f) (hfn : Tryd.pinned.checked.prog.funcs[f]? = some fn) :
    false = Tryd.pinned.checked.prog.looks [] ∧ ∀ (j : Nat) t, fn.params[j]? = some t → Tryd.pinned.checked.prog.wantsStandIn t = false := by
  obtain rfl : f = 3 := Option.some.inj ((show Tryd.prog.funcNamed "pub-mailsack/laws.FnTellEndTxnMarker" = some 3 by kernel_rfl).symm.trans hf) |>.symm
  obtain rfl : fn = Tryd.f3 := (Option.some.inj (Tryd.func3.symm.trans hfn)).symm
  refine ⟨by kernel_rfl, fun j t ht => ?_⟩
  rw [Tryd.params3] at ht
  have : t = 5 ∨ t = 26 := by simpa using Array.mem_of_getElem? ht
  rcases this with rfl | rfl
  · exact (show Tryd.prog.wantsStandIn 5 = false by kernel_rfl)
  · exact (show Tryd.prog.wantsStandIn 26 = false by kernel_rfl)
theorem card : Rows.FnTellEndTxnMarkerCardSaid :=
  Claim7.holds_tied_plain_at .later [] _ _ _ _ said (fun _ h => by cases h) (by kernel_rfl) (fun _ h => by cases h) fnTellEndTxnMarker_row_tie rfl ⟨rfl, rfl⟩ (by kernel_rfl) rfl plain (goesBy_of (P := Tryd.prog) (f := 3) rfl (by kernel_rfl) eG)
end Go.Proofs.YtbeeamcaclhgaaaDoor.CEndTxnMarker
