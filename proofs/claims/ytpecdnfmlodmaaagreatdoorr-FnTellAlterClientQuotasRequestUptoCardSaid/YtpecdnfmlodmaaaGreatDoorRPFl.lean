/-
  Numbers with a point: read, told as their bits.
-/
import Derived.Test.YtpecdnfmlodmaaaGreatDoorRPTelS
import Derived.Test.YtpecdnfmlodmaaaGreatDoorRPWc
set_option linter.unusedSimpArgs false
set_option linter.unusedVariables false
namespace Go.Proofs.YtpecdnfmlodmaaaGreatDoorR
open Go Go.RowKit
def FBits (P : Program) (f : FuncId) : Prop := ∃ fn, P.funcs[f]? = some fn /\ fn.body.isNone = true /\ (fn.name == "runtime.NumGoroutine") = false /\ Extern.findNext fn = none /\ Extern.find fn = some Extern.MathFloatBits.float64bits
def FFrom (P : Program) (f : FuncId) : Prop := ∃ fn, P.funcs[f]? = some fn /\ fn.body.isNone = true /\ (fn.name == "runtime.NumGoroutine") = false /\ Extern.findNext fn = none /\ Extern.find fn = some Extern.MathFloatBits.float64frombits
section
variable {P : Program} {ρ : Operand -> Value} {w : World} {d : Option Tmp} {ty : TypeId} {p : String} {af : Array Edge} {g : Option (Nat × Bool)}
theorem x_fbits {f : FuncId} {x : Operand} {ts : Array TypeId} {n : Nat} (hf : FBits P f) (hx : ρ x = .float .f64 n) (hρ : ρ (.func f) = .func (.func f) #[] #[] := by rfl) : (execOp ρ ⟨d, .call ⟨.value (.func f), #[x], ts⟩, ty, p, af, g⟩).run P w = .ok (.value (.int .u64 n)) w := by
 obtain ⟨fn, h1, h2, h3, h4, h5⟩ := hf
 simp only [execOp, resolve, Deferred.ofValue, hρ, Sem.run_bind, Sem.run_pure, Result.andThen_ok, invoke, Array.append_empty, Array.empty_append, callFunc, run_program, h1, h2, h3, h4, h5, Bool.false_eq_true, if_false, if_true]
 have e : (#[x] : Array Operand).map ρ = #[.float .f64 n] := by simp [hx]
 rw [e]
 rfl
theorem x_ffrom {f : FuncId} {x : Operand} {ts : Array TypeId} {n : Int} (hf : FFrom P f) (hx : ρ x = .int .u64 n) (hρ : ρ (.func f) = .func (.func f) #[] #[] := by rfl) : (execOp ρ ⟨d, .call ⟨.value (.func f), #[x], ts⟩, ty, p, af, g⟩).run P w = .ok (.value (.float .f64 n.toNat)) w := by
 obtain ⟨fn, h1, h2, h3, h4, h5⟩ := hf
 simp only [execOp, resolve, Deferred.ofValue, hρ, Sem.run_bind, Sem.run_pure, Result.andThen_ok, invoke, Array.append_empty, Array.empty_append, callFunc, run_program, h1, h2, h3, h4, h5, Bool.false_eq_true, if_false, if_true]
 have e : (#[x] : Array Operand).map ρ = #[.int .u64 n] := by simp [hx]
 rw [e]
 rfl
end
theorem wrap_w64 (n : Int) : IntKind.i64.wrap n = wrap64 n := by rw [IntKind.wrap_i64]; simp only [wrap64]; try omega
theorem fits_w64 (n : Int) : fits .i64 (wrap64 n) := by simp only [fits, wrap64, IntKind.min, IntKind.max, IntKind.signed, IntKind.bits]; simp; omega
theorem rd64_in (s : RS) : 0 <= (rdreadUint64 s).1 /\ (rdreadUint64 s).1 < 18446744073709551616 := by
 unfold rdreadUint64
 split
 ·rename_i x0 x1 x2 x3 x4 x5 x6 x7 r _
  simp only []
  rw [be64_val]
  have h0 := u8_lt x0
  have h1 := u8_lt x1
  have h2 := u8_lt x2
  have h3 := u8_lt x3
  have h4 := u8_lt x4
  have h5 := u8_lt x5
  have h6 := u8_lt x6
  have h7 := u8_lt x7
  omega
 ·simp
theorem ffrom_is : (Tryz.prog.funcs[247]?).isSome = true := by kernel_rfl
theorem ffrom : FFrom Tryz.prog 247 := by
 refine ⟨(Tryz.prog.funcs[247]?).get ffrom_is, (Option.some_get _).symm, ?_, ?_, ?_, ?_⟩ <;> kernel_rfl
theorem fbits_is : (Tryz.prog.funcs[249]?).isSome = true := by kernel_rfl
theorem fbits : FBits Tryz.prog 249 := by
 refine ⟨(Tryz.prog.funcs[249]?).get fbits_is, (Option.some_get _).symm, ?_, ?_, ?_, ?_⟩ <;> kernel_rfl
theorem rc_Float64 : RdC Tryz.prog 194 .float (fun s => (.num (rdInt64 s).1, (rdInt64 s).2)) := by
 intro w rb sb s h
 have hin := rd64_in s
 refine calls_of_wp Tryz.func194 rfl ?_
 rw [Tryz.ntmps194]
 refine wp_act (fun a : Act => Act.get a 0 = .pointer (some ⟨rb, 0, none⟩) /\ a.tmps.size = 6 /\ a.defers = []) ⟨by rw [Zj _ _ _ (by simp)]; rfl, by simp, rfl⟩ ?_
 rintro a ⟨a0, aN, ad⟩
 refine wp_seq (wp_region_lit (Zv rfl Zi (wpList_nil ?_)))
 refine wp_seq (wp_region_lit (Zv rfl Zm (wpl_call rfl (Zy (by kernel_rfl) rfl) (R := fun e w' => e = .returned (.int .u64 (rdreadUint64 s).1) /\ Rd w' rb sb (rdreadUint64 s).2 /\ Mod (only rb) w w') ?_ ?_)))
 ·rw [show ∀ a : Act, (#[Operand.tmp 3] : Array Operand).map a.eval = #[Act.get a 3] from fun a => by simp [Ze]]
  simp (disch := first | omega | simp only [Zs]; omega) only [Zo, Ze, Zn, Zq, a0]
  exact rd_readUint64 h
 rintro e w' ⟨rfl, h1, h2⟩
 refine ⟨_, rfl, Zv rfl (x_ffrom (n := (rdreadUint64 s).1) ffrom ?_) (Zv rfl Zi (wpList_nil (wp_ret ?_)))⟩
 ·simp (disch := first | omega | simp only [Zs]; omega) only [Zo, Ze, Zn, Zq]
 refine bodyPost_ret (results_tmp rfl _ _ _) ?_ ⟨⟨_, rfl, fun F _ _ => ?_⟩, h1, h2⟩
 ·simp only [Zd]; exact ad
 ·rw [show ∀ (a : Act), a.tmps.getD 2 undef = Act.get a 2 from fun _ => rfl]
  simp (disch := first | omega | simp only [Zs]; omega) only [Zo, Ze, Zn, Zq]
  refine repv_one rfl rfl ?_
  simp only [Rep]
  refine ⟨_, rfl, by omega, ?_⟩
  simp only [rdInt64]
  congr 1
  congr 1
  omega
theorem rdw_float {ok : OkV} {fr to g d o : Int} {sub : List FD} : RdW ok (fun _ _ s => (Tr.num (rdInt64 s).1, (rdInt64 s).2)) (.mk 6 fr to (-1) g d o sub) :=
 rdw_leaf (x := fun t _ _ => .num (wrap64 t.N)) (fun t ver fl r => by simp [fieldW, leafW, width, rdInt64_w]) (fun t ver fl => by simp [expL]) rfl (.inr (.inr rfl))
section
variable {P : Program} {σ : St} {N n TI TL T k i o j ys yb id : Nat} {kd : IntKind} {d0 d1 d2 d3 d4 d5 d6 d7 d8 d9 fb yc yc' : Nat} {y0 y1 y2 y3 y4 y5 y6 y7 y8 y9 y10 : TypeId} {ts : Array TypeId} {p0 p1 p2 p3 p4 p5 p6 p7 p8 p9 p10 : String}
/-- a number with a point, as its bits -/
theorem tell_float (hT : TellT P TI TL) (ho1 : one P ys = true) (hf : fieldOff P T k = some o) (hat : σ.lay.at i = some (o, .float)) (hext : FBits P fb) (hc1 : intTy P yc .u64 = true) (hc2 : intTy P yc' .i64 = true) (hok : tellOK N [d0, d1, d2, d3, d4, d5, d6, d9, d7] [d8] = true) (hj : j < n) : TBlk P N n σ
    (Code.region id #[⟨some d0, .fieldAddr TI (.tmp 3) 3, y0, p0, #[], none⟩, ⟨some d1, .load TL (.tmp d0), y1, p1, #[⟨0, .data⟩], none⟩, ⟨some d2, .move (.tmp 0), y2, p2, #[], none⟩, ⟨some d3, .nilCheck (.tmp d2), y3, p3, #[⟨2, .data⟩], none⟩,
      ⟨some d4, .fieldAddr T (.tmp d3) k, y4, p4, #[⟨3, .data⟩], none⟩, ⟨some d5, .load ys (.tmp d4), y5, p5, #[⟨4, .data⟩], none⟩, ⟨some d6, .call ⟨.value (.func fb), #[.tmp d5], ts⟩, y6, p6, #[⟨5, .data⟩], none⟩, ⟨some d9, .convert yc yc' (.tmp d6), y10, p10, #[⟨6, .data⟩], none⟩, ⟨some d7, .build TI #[(0, .tmp d9)], y7, p7, #[⟨7, .data⟩], none⟩,
      ⟨some d8, .indexAddr TL (.tmp d1) (.const (.int .i64 (j : Nat))), y8, p8, #[⟨1, .data⟩, ⟨0, .phase⟩, ⟨1, .phase⟩, ⟨2, .phase⟩, ⟨3, .phase⟩, ⟨4, .phase⟩, ⟨5, .phase⟩, ⟨6, .phase⟩, ⟨7, .phase⟩, ⟨8, .phase⟩], none⟩,
      ⟨none, .store TI (.tmp d8) (.tmp d7), y9, p9, #[⟨9, .data⟩, ⟨8, .data⟩, ⟨6, .chain⟩, ⟨0, .phase⟩, ⟨1, .phase⟩, ⟨2, .phase⟩, ⟨3, .phase⟩, ⟨4, .phase⟩, ⟨5, .phase⟩, ⟨6, .phase⟩, ⟨7, .phase⟩, ⟨8, .phase⟩], none⟩] true) j (fun v => v.1.getD i .nul) := by
  intro x Fs v tz uv a w0 w hxn hts hA hC hM
  subst hts
  replace hj : tz.length < x.n := by omega
  obtain ⟨hdl, hnd, htl⟩ := tellOK_dl hok
  obtain ⟨C, tC, hC1, hC2, hC3, _⟩ := hC.mem
  obtain ⟨u, hu, hrep⟩ := RepL.get _ _ _ _ _ _ hat hC3
  simp only [Rep] at hrep
  obtain ⟨n, hbs, hbl, rfl⟩ := hrep
  have hgd : v.1.getD i Tr.nul = Tr.num (wrap64 n) := by simp [List.getD, hu]
  show Code.wp _ _ (fun e a' w' => e = .normal /\ TAmb N x a' /\ TMem x w0 w' (tz ++ [v.1.getD i Tr.nul]) uv) _ _
  rw [hgd]
  have hcell : C[x.off + o]? = some (.float .f64 n) := by
    simp only [from', Nat.add_zero, Array.getD_eq_getD_getElem?] at hbs
    cases hc : C[x.off + o]? with
    | none => rw [hc] at hbs; simp [undef] at hbs
    | some q => rw [hc] at hbs; simpa using hbs
  have hnew := hM.new
  have hlt : x.tb < w.heap.size /\ x.lb < w.heap.size /\ x.rb < w.heap.size := by
    obtain ⟨T', hb⟩ := hM.hb
    obtain ⟨D, TD, hl, _⟩ := hM.hl
    obtain ⟨z, Tz, hr, _⟩ := hM.hr
    exact ⟨lt_of_block hb, lt_of_block hl, lt_of_block hr⟩
  have hl0 := hM.mod.size
  have hTF : ∀ k, w.heap.size <= k -> TF x w0 k := fun k hk => ⟨by omega, by omega, by omega, by omega⟩
  refine region_rlt (l := [_, _, _, _, _, _, _, _, _]) (tl := [_, _]) hT.ord (Mod none') (Mod.refl w).drew (fun _ _ _ h h' => h.trans h') [d0, d1, d2, d3, d4, d5, d6, d9, d7]
    [fun v _ => v = .pointer (some ⟨x.tb, 0 + 3, none⟩), fun v _ => v = .slice (some ⟨x.lb, 0, none⟩) x.n x.n, fun v _ => v = .pointer (some ⟨x.blk, x.off, none⟩), fun v _ => v = .pointer (some ⟨x.blk, x.off, none⟩),
     fun v _ => v = .pointer (some ⟨x.blk, x.off + o, none⟩), fun v _ => v = .float .f64 n, fun v _ => v = .int .u64 n, fun v _ => v = .int .i64 (wrap64 n),
     fun v w' => ∃ cs : Array Value, v = .agg cs /\ cs.size = 5 /\ cs.all (·.oneCell') = true /\ TreeR w' (TF x w0) (from' cs 0) (Tr.num (wrap64 n))]
    ?_ (by simp [regFormT]) hnd (fun d hd => by rw [hA.size]; exact (hdl d hd).1) (by simp) (by kernel_rfl) ⟨?_, ?_, ?_, ?_, ?_, ?_, ?_, ?_, ?_, trivial⟩ ?_
  · intro g hg v1 w1 w2 hv hr
    simp only [List.mem_cons, List.not_mem_nil, or_false] at hg
    rcases hg with rfl | rfl | rfl | rfl | rfl | rfl | rfl | rfl | rfl
    · exact hv
    · exact hv
    · exact hv
    · exact hv
    · exact hv
    · exact hv
    · exact hv
    · exact hv
    · obtain ⟨cs, e1, e2, e3, e4⟩ := hv
      exact ⟨cs, e1, e2, e3, e4.mod hr (fun _ _ f => f) (fun _ h => h)⟩
  · intro a1 w1 hr hs hd
    have t3 := (hs.get 3 (fun hm => (hdl 3 hm).2.2.2 rfl)).trans hA.tree
    exact Zw (Za hT.f3 t3) ⟨_, rfl, .refl _, rfl⟩
  · intro a1 w1 hr hs hd
    have e0 : Act.get a1 d0 = .pointer (some ⟨x.tb, 0 + 3, none⟩) := hd ⟨0, .data⟩ (by simp) rfl
    obtain ⟨T', hb⟩ := hM.hb
    exact Zw (Zl hT.one e0 (by rw [Zc (hr.some hb (fun f => f))]; rfl)) ⟨_, rfl, .refl _, rfl⟩
  · intro a1 w1 hr hs hd
    have t0 := (hs.get 0 (fun hm => (hdl 0 hm).2.1 rfl)).trans hA.src
    exact Zw (x_moveV t0) ⟨_, rfl, .refl _, rfl⟩
  · intro a1 w1 hr hs hd
    have e2 : Act.get a1 d2 = .pointer (some ⟨x.blk, x.off, none⟩) := hd ⟨2, .data⟩ (by simp) rfl
    exact Zw (x_nilCheck e2) ⟨_, rfl, .refl _, rfl⟩
  · intro a1 w1 hr hs hd
    have e3 : Act.get a1 d3 = .pointer (some ⟨x.blk, x.off, none⟩) := hd ⟨3, .data⟩ (by simp) rfl
    exact Zw (Za hf e3) ⟨_, rfl, .refl _, rfl⟩
  · intro a1 w1 hr hs hd
    have e4 : Act.get a1 d4 = .pointer (some ⟨x.blk, x.off + o, none⟩) := hd ⟨4, .data⟩ (by simp) rfl
    exact Zw (Zl ho1 e4 (by rw [Zc ((hM.mod.trans hr).some hC1 (fun f => f))]; exact hcell)) ⟨_, rfl, .refl _, rfl⟩
  · intro a1 w1 hr hs hd
    have e5 : Act.get a1 d5 = .float .f64 n := hd ⟨5, .data⟩ (by simp) rfl
    exact Zw (x_fbits hext (by rw [Ze]; exact e5)) ⟨_, rfl, .refl _, rfl⟩
  · intro a1 w1 hr hs hd
    have e5 : Act.get a1 d6 = .int .u64 n := hd ⟨6, .data⟩ (by simp) rfl
    exact Zw (x_convInt hc1 hc2 e5) ⟨_, rfl, .refl _, show Value.int IntKind.i64 (IntKind.i64.wrap n) = .int .i64 (wrap64 n) from by rw [wrap_w64]⟩
  · intro a1 w1 hr hs hd
    have e6 : Act.get a1 d9 = .int .i64 (wrap64 n) := hd ⟨7, .data⟩ (by simp) rfl
    refine Zw (x_build (cells := #[.int .i64 (wrap64 n), .slice none 0 0, .bool false, .slice none 0 0, .slice none 0 0]) ?_) ⟨_, rfl, .refl _, _, rfl, rfl, ?_, ?_⟩
    · simp only [List.map_toArray, List.map_cons, List.map_nil, Ze]
      rw [built_of hT.parts]
      show Instr.fill _ #[.int .i64 0, .slice none 0 0, .bool false, .slice none 0 0, .slice none 0 0] [(0, Act.get a1 d9)] = _
      rw [e6]
      rfl
    · simp [Value.oneCell']
    · exact tree_num rfl (fits_w64 _) rfl rfl rfl rfl
  · intro a1 w1 hr hs hh
    have e1 : Act.get a1 d1 = .slice (some ⟨x.lb, 0, none⟩) x.n x.n := hh 1 (by simp)
    obtain ⟨cs, e7, e8, e9, e10⟩ : ∃ cs : Array Value, Act.get a1 d7 = .agg cs /\ cs.size = 5 /\ cs.all (·.oneCell') = true /\ TreeR w1 (TF x w0) (from' cs 0) (Tr.num (wrap64 n)) := hh 8 (by simp)
    have hd8 := htl d8 (by simp)
    have sN : a1.tmps.size = N := hs.size.trans hA.size
    have hM1 := hM.grow hr
    obtain ⟨D, TD, hl, hD1, hD2, hD3⟩ := hM1.hl
    refine Zv rfl (Zx (i := tz.length) (elemSize_of hT.elem) e1 rfl hj) ?_
    refine wpl_skip rfl (x_storeN (cs := cs) (b := x.lb) (o := 0 + tz.length * 5) (by rw [e8]; exact hT.size) ?_ ?_ e9 ?_) (wpList_nil ?_)
    · rw [Ze, Zq (by rw [sN]; exact hd8.1)]
    · rw [Ze, Zn (fun e => hd8.2.2.2.2 (by simp [e]))]
      exact e7
    · intro q hq
      have : tz.length * 5 + 5 <= x.n * 5 := by
        have := Nat.mul_le_mul_right 5 (show tz.length + 1 <= x.n by omega)
        omega
      rw [Zc hl, Zz hl, Array.getElem?_eq_getElem (by omega)]
      exact ⟨rfl, rfl⟩
    · have hAB : TAmb N x a1 := hA.same hs (fun hm => (hdl 0 hm).2.1 rfl) (fun hm => (hdl 2 hm).2.2.1 rfl) (fun hm => (hdl 3 hm).2.2.2 rfl)
      exact ⟨rfl, hAB.put ⟨hd8.2.1, hd8.2.2.1, hd8.2.2.2.1⟩ _, hM1.push hj e8 e10⟩
end
end Go.Proofs.YtpecdnfmlodmaaaGreatDoorR
