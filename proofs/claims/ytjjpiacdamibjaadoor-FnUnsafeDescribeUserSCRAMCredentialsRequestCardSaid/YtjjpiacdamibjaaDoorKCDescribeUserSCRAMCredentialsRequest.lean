/-
  FnUnsafeDescribeUserSCRAMCredentialsRequest: the row and its card.
-/
import Derived.Test.YtjjpiacdamibjaaDoorCards
import Derived.Test.YtjjpiacdamibjaaDoorTie
import Derived.WalkKit
import Derived.ProofKit
import Derived.OpenShut
import Derived.Below
import Derived.ChangeSame
import Derived.ChangeSlices
import Derived.Stop.LaidErr
import Derived.Deep.DeepHandedRow
import Derived.Deep.DeepWitnessRowRef
import Derived.Test.YtjjpiacdamibjaaDoorKLDescribeUserSCRAMCredentialsRequest
set_option linter.unusedSimpArgs false
set_option linter.unusedVariables false
namespace Go.Proofs.YtjjpiacdamibjaaDoor.CDescribeUserSCRAMCredentialsRequest
open Go Go.ChangeShapes Go.WideShapes Go.ChangeAt Go.RowKit Go.Proofs.YtjjpiacdamibjaaDoor

theorem goesBy_of {c : OpenClaim} {P : Program} {f : FuncId} (hs : c.start = .entering) (hn : P.funcNamed c.func = some f) (hg : P.goes f = false) : false = c.goesBy P := by
  simp [OpenClaim.goesBy, Program.goesAt, Program.goesFrom, hs, hn, hg]

section
variable {H : Type} {enc : TypeId × Value → H} {P : Program}
theorem post_of_below' {f : Func} {s : ChangeSpec} {apart fresh handsOn again : Bool} {W W' : World} {args : Array Value} {v : Value} {ds gs : List (DataW H)} {before pa pv : List MemPlace}
    (hW : DataW.Whole enc P f.params.toList s.vars apart W args.toList ds gs before)
    (hres : ∀ (b : Nat) (sp : Nat → Bool) (hd : Bool), DataW.TrodAll enc P W' b sp hd f.resultTypes.toList (v.resultList f.resultTypes.size) (s.fn H (ds ++ gs)).results [])
    (hargs : ∀ sp : Nat → Bool, (∀ p ∈ before, sp p.block = true) → DataW.TrodAll enc P W' 0 sp true f.params.toList args.toList (s.fn H (ds ++ gs)).args pa)
    (hvars : ∀ sp : Nat → Bool, (∀ p ∈ before, sp p.block = true) → DataW.TrodVars enc P W' sp s.vars (s.fn H (ds ++ gs)).vars pv)
    (hps : before = pa ++ pv) (hb : Below W.heap.size W W')
    (hok : ∀ (j : Nat) (t : TypeId) (r : Value), f.resultTypes[j]? = some t → (v.resultList f.resultTypes.size)[j]? = some r → Value.okWide P W' .any 0 t r) :
    s.post enc P f apart fresh handsOn again W args v W' := by
  have hlt : ∀ p ∈ before, p.block < W.heap.size := fun p hp => hW.lt p hp
  have hold : ∀ p ∈ before, (fun b => decide (b < W.heap.size)) p.block = true := fun p hp => by simpa using hlt p hp
  refine ⟨ds, gs, before, [], pa, pv, hW, hres _ _ _, hargs _ hold, hvars _ hold, World.keptBut_mono (fun p hp => ⟨hp, ?_⟩) (hb.frame (· ∈ before)), fun _ => ?_⟩
  · rw [hps, List.mem_append] at hp
    exact Or.inr hp
  · obtain ⟨_, _, _, _, _, hz, hn⟩ := hW
    refine ⟨hok, _, _, ([] ++ pa) ++ pv, ⟨[] ++ pa, pv, trodAll_append (hargs _ (fun _ _ => rfl)) (hres _ _ _), hvars _ (fun _ _ => rfl), rfl, ?_, ?_⟩, ?_⟩
    · intro b off hp
      have hin : MemPlace.cell b off ∈ before := by rw [hps]; simpa using hp
      rw [hb.frozen (hlt _ hin)]
      exact hz b off hin
    · intro ha
      have := hn ha
      rw [hps] at this
      simpa using this
    · intro p hp _
      rw [hps]
      simpa using hp
end

theorem own : ownKnob Tryd.prog.godebug = none := by kernel_rfl
theorem gErrName : Tryd.prog.globalNamed "pub-mailsack/pub/kmsg/inner/kbin.ErrNotEnoughData" = some gErr := by kernel_rfl
theorem gErrType : (Tryd.prog.globals[gErr]?).map (·.type) = some 44 := by kernel_rfl
theorem star : "*" ++ "errors.errorString" = "*errors.errorString" := by decide
theorem rowOf (u : TypeId) (h : Tryd.prog.typeName? 3 u = some "*errors.errorString") : u = 133 :=
  typeName_ptr_named (nm := "errors.errorString") (by rw [star]; kernel_rfl) (by kernel_rfl) (by decide) u (by rw [star]; exact h)
theorem cellsE : Tryd.prog.cellsOf 151 = 1 := by kernel_rfl
theorem cellsS : Tryd.prog.cellsOf 9 = 1 := by kernel_rfl
theorem cellsU : Tryd.prog.cellsOf 5 = 1 := by kernel_rfl

/-- what the row's list gives -/
theorem errOf {W : World} (h : laidMetH Tryd.prog Rows.fnUnsafeDescribeUserSCRAMCredentialsRequestRow.laid W) : ∃ ev, ErrIs W ev ∧ ∃ tx vx, ev = .iface tx vx := by
  obtain ⟨a0, s0, hv0, -, -, -⟩ := laid_sentinel (show laidMet Tryd.prog Rows.fnUnsafeDescribeUserSCRAMCredentialsRequestRow.laid W from h) gErrName gErrType Tryd.underlying44 rowOf Tryd.underlying133 Tryd.underlying151 rfl rfl Tryd.underlying9 cellsE cellsS
  exact ⟨_, by have h0 := World.var?_cell gErrName hv0 0; unfold ErrIs; simpa using h0, _, _, rfl⟩

set_option maxRecDepth 100000 in
theorem contract (H : Type) (enc : TypeId × Value → H) (W : World) (base : Nat) (args : Array Value) (ds gs : List (DataW H)) (before : List MemPlace)
    (hval : ∀ (j : Nat) t v, Tryd.f4.params[j]? = some t → args[j]? = some v → Value.okWide Tryd.prog W .any base t v)
    (hW : DataW.Whole enc Tryd.prog Tryd.f4.params.toList Rows.fnUnsafeDescribeUserSCRAMCredentialsRequestSpec.vars false W args.toList ds gs before) (hL : laidMetH Tryd.prog Rows.fnUnsafeDescribeUserSCRAMCredentialsRequestRow.laid W) :
    Calls Tryd.prog 4 args W fun e W' => ∃ v, e = .returned v ∧ Rows.fnUnsafeDescribeUserSCRAMCredentialsRequestSpec.post enc Tryd.prog Tryd.f4 false true false false W args v W' := by
  have hW' := hW
  obtain ⟨p, q, hA0, hV, rfl, hfz, hnd⟩ := hW
  have hA : DataW.TrodAll enc Tryd.prog W 0 (fun _ => true) true Tryd.f4.params.toList args.toList ds p := hA0
  rw [Tryd.params4] at hA hval
  obtain ⟨v0, vs0, d0, ds0, p0, q0, hargs, rfl, rfl, h0, r0⟩ := trodAll_cons hA
  obtain ⟨v1, vs1, d1, ds1, p1, q1, rfl, rfl, rfl, h1, r1⟩ := trodAll_cons r0
  obtain ⟨rfl, rfl, rfl⟩ := trodAll_nil r1
  obtain rfl : args = #[v0, v1] := by cases args; simp_all
  obtain ⟨rfl, rfl⟩ := trodVars_none hV
  obtain ⟨n, rfl, rfl, rfl, hwn⟩ := open_int Tryd.underlying5 (hval 0 5 v0 rfl rfl) h0
  clear hA0
  obtain ⟨ev, hE, hev⟩ := errOf hL
  obtain ⟨a1, len, cap, rfl⟩ := okWide_slice Tryd.underlying22 (hval 1 22 v1 rfl rfl)
  obtain ⟨fuel, hf⟩ := h1
  have finish : ∀ bs, Srcs W (.slice a1 len cap) bs → (∀ (W' : World) (sp : Nat → Bool), Below W.heap.size W W' → (∀ x ∈ p1, sp x.block = true) → DataW.Trod enc Tryd.prog W' 0 sp true 22 (.slice a1 len cap) d1 p1) →
      Calls Tryd.prog 4 #[.int .u8 n, .slice a1 len cap] W fun e W' => ∃ v, e = .returned v ∧ Rows.fnUnsafeDescribeUserSCRAMCredentialsRequestSpec.post enc Tryd.prog Tryd.f4 false true false false W #[.int .u8 n, .slice a1 len cap] v W' := by
    intro bs hsrc hagain
    refine (law_DescribeUserSCRAMCredentialsRequest hE hev hsrc).mono fun e W' ⟨he, hm⟩ => ?_
    subst he
    simp only [List.append_nil, List.nil_append] at hW'
    refine ⟨_, rfl, post_of_below' (pa := p1) (pv := []) hW' (fun _ _ _ => trodAll_cons_mk (shut_bool Tryd.underlying4 _) trodAll_mk0) (fun sp hsp => ?_) (fun _ _ => rfl) (by simp) hm.below
      (ok_one (by kernel_rfl) rfl (okWide_bool_mk Tryd.underlying4 _))⟩
    rw [Tryd.params4]
    have := trodAll_cons_mk (shut_int (enc := enc) (P := Tryd.prog) (w := W') (base := 0) (spare := sp) (held := true) Tryd.underlying5 hwn) (trodAll_cons_mk (hagain W' sp hm.below (fun x hx => hsp x (by simpa using hx))) trodAll_mk0)
    show DataW.TrodAll enc Tryd.prog W' 0 sp true [5, 22] [Value.int IntKind.u8 n, Value.slice a1 len cap] [DataW.lit (Lit.int IntKind.u8 n), d1] p1
    simpa using this
  rcases open_ints Tryd.underlying22 Tryd.underlying5 cellsU hf with ⟨hcs, hx⟩ | ⟨a, len', cap', zs, hcs, _, hl, hmx, hz, hx, hcell, hwz⟩
  · simp [Value.cells] at hcs
    obtain ⟨rfl, rfl, rfl⟩ := hcs
    simp only [Prod.mk.injEq] at hx
    obtain ⟨rfl, rfl⟩ := hx
    refine finish [] (.inl ⟨rfl, _, _, rfl⟩) fun W' sp _ _ => ⟨1, by simp [DataW.trod, Value.cells, Tryd.underlying22]⟩
  · simp [Value.cells] at hcs
    obtain ⟨rfl, rfl, rfl⟩ := hcs
    simp only [Prod.mk.injEq] at hx
    obtain ⟨rfl, rfl⟩ := hx
    simp only [if_true] at hz
    obtain ⟨ab, ao, spot⟩ := a
    by_cases hc0 : cap = 0
    · subst hc0
      obtain rfl : len = 0 := by omega
      have hz0 : zs = [] := List.eq_nil_of_length_eq_zero (by simpa using hz)
      subst hz0
      exact finish [] (.inl ⟨rfl, _, _, rfl⟩) fun W' sp _ _ => ⟨2, shut_ints (zs := []) 0 Tryd.underlying22 Tryd.underlying5 cellsU (Nat.zero_le _) hl hmx (by simp) (fun i hi => by simp at hi) (fun n hn => by simp at hn)⟩
    have hspot : spot = none := by simpa [Addr.add] using World.cell?_spot (hcell 0 (by omega))
    subst hspot
    have hblk : ∃ C t fr, W.heap[ab]? = some (.cells C t fr) := by
      have h0 := hcell 0 (by omega)
      rw [Addr.add_lit] at h0
      cases hh : W.heap[ab]? with
      | none => simp [World.cell?, hh] at h0
      | some o =>
        cases o with
        | cells C t fr => exact ⟨C, t, fr, rfl⟩
        | _ => simp [World.cell?, hh] at h0
    obtain ⟨C, t, fr, hC⟩ := hblk
    refine finish ((zs.take len).map fun n => UInt8.ofNat n.toNat) (.inr ⟨ab, ao, cap, C, t, fr, ?_, hC, ?_⟩) fun W' sp hbel hsp => ?_
    · have hlen : ((zs.take len).map fun n => UInt8.ofNat n.toNat).length = len := by simp; omega
      rw [hlen]
    · intro i hi
      have hil : i < len := by simp at hi; omega
      have hci := hcell i (by omega)
      rw [Addr.add_lit, cell_of_heap hC] at hci
      rw [hci]
      have hb := range_u8 hwz i
      simp only [List.getElem_map, List.getElem_take]
      have e : zs.getD i 0 = zs[i]'(by omega) := by simp [List.getD, List.getElem?_eq_getElem (show i < zs.length by omega)]
      rw [List.getD_eq_getElem?_getD] at e
      rw [e] at hb
      rw [List.getD_eq_getElem?_getD, e]
      congr 2
      simp only [UInt8.toNat_ofNat']
      omega
    · refine ⟨2, ?_⟩
      have hlt : ab < W.heap.size := lt_of_block hC
      have hspb : sp ab = true := hsp (.cell ab ao) (by simp only [MemPlace.row, List.mem_map, List.mem_range]; exact ⟨0, by omega, by simp⟩)
      exact shut_ints (a := ⟨ab, ao, none⟩) 0 Tryd.underlying22 Tryd.underlying5 cellsU (Nat.zero_le _) hl hmx (by rw [hspb]; simpa using hz) (fun i hi => by
        rw [← hcell i hi, Addr.add_lit]
        exact World.cell?_of_block (hbel.block ab hlt)) hwz

abbrev errText : ByteArray := { data := #[114, 101, 115, 112, 111, 110, 115, 101, 32, 100, 105, 100, 32, 110, 111, 116, 32, 99, 111, 110, 116, 97, 105, 110, 32, 101, 110, 111, 117, 103, 104, 32, 100, 97, 116, 97, 32, 116, 111, 32, 98, 101, 32, 118, 97, 108, 105, 100] }
noncomputable def lowB : Nat := (World.holding Tryd.prog default ⟨#[], #[], []⟩).heap.size
noncomputable def laidWorld (os : Os) : World :=
  let w0 := World.holding Tryd.prog os ⟨#[.cells #[.string errText] 151], #[], []⟩
  { w0 with heap := w0.heap.modify gErr fun
      | .cells _ t frozen => .cells #[.iface 133 (.pointer (some ⟨lowB, 0, none⟩))] t frozen
      | o => o }
abbrev wArgs : Array Value := #[.int .u8 0, .slice none 0 0]
theorem laid_met (os : Os) : laidMet Tryd.prog Rows.fnUnsafeDescribeUserSCRAMCredentialsRequestRow.laid ((laidWorld os).forCall (fun _ _ => 0) ⟨#[], wArgs, []⟩).memory :=
  laidMet_of_run' 8 (by kernel_rfl) (by kernel_rfl)
theorem reads (os : Os) {H : Type} (enc : TypeId × Value → H) : ∃ places, DataW.whole enc Tryd.prog ((laidWorld os).forCall (fun _ _ => 0) ⟨#[], wArgs, []⟩).memory Tryd.f4.params.toList Rows.fnUnsafeDescribeUserSCRAMCredentialsRequestSpec.vars false wArgs.toList 8 = some ([.lit (.int .u8 0), .nil], [], places) :=
  ⟨[], by kernel_rfl⟩

set_option maxRecDepth 100000 in
theorem lifted (os : Os) (started : os.Started) (H : Type) (enc : TypeId × Value → H) (F : Stop.Interp) :
    ReturnsInHanded {} Tryd.checked os 4 .any ((OpenSpec.ofChange Rows.fnUnsafeDescribeUserSCRAMCredentialsRequestSpec).preRow enc Tryd.prog Tryd.f4 Rows.fnUnsafeDescribeUserSCRAMCredentialsRequestRow.domain false Rows.fnUnsafeDescribeUserSCRAMCredentialsRequestRow.laid) (((OpenSpec.ofChange Rows.fnUnsafeDescribeUserSCRAMCredentialsRequestSpec).at F).post enc Tryd.prog Tryd.f4 false true false false) := by
  obtain ⟨places, hx⟩ := reads os enc
  refine returnsInHanded_of_row (C := Tryd.checked) (s := OpenSpec.ofChange Rows.fnUnsafeDescribeUserSCRAMCredentialsRequestSpec) own started (by kernel_rfl) Tryd.func4
    (witness_row_at (enc := enc) (C := Tryd.checked) false (laidWorld os) wArgs rfl (by kernel_rfl) (by kernel_rfl) (by kernel_rfl)
      (OpenSpec.preRow_of_cond 8 hx (by kernel_rfl) (fun k hk => by cases hk) (by kernel_rfl) (laid_met os))) ?_
  intro W base args ds gs before hval hW _ _ _ hL _ _
  exact contract H enc W base args ds gs before hval hW hL

set_option maxRecDepth 100000 in
theorem clo : Program.closure Tryd.prog 4 = [4, 11, 21, 33, 22, 7, 12, 23, 24, 34, 41, 52, 63, 42, 56, 65, 43, 44, 50, 37, 54, 53, 38, 55, 64, 39, 40, 46, 57, 25, 35, 51, 30, 49, 48, 58, 59, 60, 61, 75, 76, 62, 77, 78, 85, 79, 86, 87, 80, 88, 89, 90, 81, 82, 83, 84, 32, 36, 13, 26, 10, 9, 20] := by kernel_rfl
set_option maxRecDepth 100000 in
theorem eP : Program.inPlace Tryd.prog 4 = ["internal/reflectlite.ValueOf", "internal/reflectlite.Swapper", "(internal/reflectlite.Value).Len"] := by unfold Program.inPlace; rw [clo]; kernel_rfl
set_option maxRecDepth 100000 in
theorem eU : Program.unfollowed Tryd.prog 4 = true := by unfold Program.unfollowed; rw [clo]; kernel_rfl
theorem eR : Program.recurses Tryd.prog 4 = true := by unfold Program.recurses; rw [eU]; rfl
set_option maxRecDepth 100000 in
theorem eV : Program.varsNamed Tryd.prog 4 = ["encoding/binary.BigEndian", "pub-mailsack/pub/kmsg/inner/kbin.ErrNotEnoughData"] := by unfold Program.varsNamed; rw [clo]; kernel_rfl
set_option maxRecDepth 100000 in
theorem eG : Program.goes Tryd.prog 4 = false := by unfold Program.goes; rw [clo, eU]; kernel_rfl
set_option maxRecDepth 100000 in
theorem facts : joinedFacts Tryd.prog 4 Tryd.f4 (OpenSpec.ofChange Rows.fnUnsafeDescribeUserSCRAMCredentialsRequestSpec).bare Rows.fnUnsafeDescribeUserSCRAMCredentialsRequestRow = true := by
  unfold joinedFacts
  rw [eP, eU, eR, eV]
  kernel_rfl

theorem said : Rows.FnUnsafeDescribeUserSCRAMCredentialsRequestSaid :=
  OpenClaim.holds_of_cond 4 Tryd.f4 rfl rfl rfl rfl rfl rfl rfl ⟨rfl, rfl, rfl, rfl, rfl⟩ rfl rfl rfl rfl rfl (by kernel_rfl) Tryd.func4 facts
    (of_decide_eq_true (by kernel_rfl)) (by unfold Func.isWrapper; first | (rw [if_pos (by decide +kernel)]; kernel_rfl) | (rw [if_neg (by decide +kernel)]; exact ⟨rfl, rfl⟩))
    (fun os started H enc _ F => by rw [OpenClaim.pre_eq_preRow]; exact lifted os started H enc F)

theorem plain (f : FuncId) (fn : Func) (hf : Tryd.pinned.checked.prog.funcNamed "pub-mailsack/laws.FnUnsafeDescribeUserSCRAMCredentialsRequest" = some f) (hfn : Tryd.pinned.checked.prog.funcs[f]? = some fn) :
    false = Tryd.pinned.checked.prog.looks [] ∧ ∀ (j : Nat) t, fn.params[j]? = some t → Tryd.pinned.checked.prog.wantsStandIn t = false := by
  obtain rfl : f = 4 := Option.some.inj ((show Tryd.prog.funcNamed "pub-mailsack/laws.FnUnsafeDescribeUserSCRAMCredentialsRequest" = some 4 by kernel_rfl).symm.trans hf) |>.symm
  obtain rfl : fn = Tryd.f4 := (Option.some.inj (Tryd.func4.symm.trans hfn)).symm
  refine ⟨by kernel_rfl, fun j t ht => ?_⟩
  rw [Tryd.params4] at ht
  have : t = 5 ∨ t = 22 := by simpa using Array.mem_of_getElem? ht
  rcases this with rfl | rfl
  · exact (show Tryd.prog.wantsStandIn 5 = false by kernel_rfl)
  · exact (show Tryd.prog.wantsStandIn 22 = false by kernel_rfl)

theorem card : Rows.FnUnsafeDescribeUserSCRAMCredentialsRequestCardSaid :=
  Claim7.holds_tied_plain_at .later [] _ _ _ _ said (fun _ h => by cases h) (by kernel_rfl) (fun _ h => by cases h) fnUnsafeDescribeUserSCRAMCredentialsRequest_row_tie rfl ⟨rfl, rfl⟩ (by kernel_rfl) rfl plain (goesBy_of (P := Tryd.prog) (f := 4) rfl (by kernel_rfl) eG)
end Go.Proofs.YtjjpiacdamibjaaDoor.CDescribeUserSCRAMCredentialsRequest
