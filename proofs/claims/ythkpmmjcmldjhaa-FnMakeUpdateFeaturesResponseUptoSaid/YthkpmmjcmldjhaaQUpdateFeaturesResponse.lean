/-
  FnTellUpdateFeaturesResponse: what it needs beyond the common texts, its walk, its row and card.
-/
import Derived.Below
import Derived.Deep.Draws
import Derived.OneCell
import Derived.Lib.Hide
import Derived.Test.YthkpmmjcmldjhaaChecked
import Derived.WalkKit
import Derived.ProofKit
import Derived.OpenShut
import Derived.Deep.QuietTactic
import Derived.BigQuiet
import Derived.RegionCalls
import Derived.Deep.RegionWith
import Derived.StillTailTactics
import Derived.ScopeJumps
import Derived.Lib.VarintBits
import Derived.Laws.BytesArg
import Derived.StillTail
import Derived.Deep.MidRow
import Derived.Laws.AppendOwn
import Derived.Laws.IdiomStrings
import Derived.Deep.LoopGhost
import Derived.Lib.AppendZerosOnto
import Derived.MapKept
import Derived.Carry
import Derived.Lib.EndianBits
import Derived.Shelf.GgSortFunc.Whole
import Derived.Shelf.GgSortFunc.Tiny
import Derived.Lib.SortBridge
import Derived.Sort.LotA
import Derived.Lib.RowBridge
import Derived.Maps.RangeRun
import Derived.Test.YthkpmmjcmldjhaaProg
import Derived.Test.YthkpmmjcmldjhaaRows
import Derived.ChangeSlices
import Derived.ReadAgain
import Derived.Laws.IdiomCopy
import Derived.Lib.Strings
import Derived.Lib.Slices
import Derived.Lib.Small
import Derived.Lib.Walk
import Derived.Lib.BitFns
import Derived.Lib.AppendStr
import Derived.JoinedCond
import Derived.ChangeSame
import Derived.Stop.LaidErr
import Derived.Deep.DeepHandedRow
import Derived.Deep.DeepWitnessRowRef
import Derived.Test.YthkpmmjcmldjhaaPFPushTelemetryRequest
import Derived.Test.YthkpmmjcmldjhaaPWr
import Derived.Test.YthkpmmjcmldjhaaPZw
set_option linter.unusedSimpArgs false
set_option linter.unusedVariables false
set_option linter.unusedSimpArgs false
set_option linter.unusedVariables false
namespace Go.Proofs.Ythkpmmjcmldjhaa
open Go Go.RowKit
def uv3 (x0 x1 x2 : UInt8) : Int := bits BinOp.or IntKind.u32 (uv2 x0 x1) (lo7 x2 * 16384 % 4294967296)
def uv4 (x0 x1 x2 x3 : UInt8) : Int := bits BinOp.or IntKind.u32 (uv3 x0 x1 x2) (lo7 x3 * 2097152 % 4294967296)
end Go.Proofs.Ythkpmmjcmldjhaa
set_option linter.unusedSimpArgs false
set_option linter.unusedVariables false
namespace Go.Proofs.Ythkpmmjcmldjhaa
open Go Go.RowKit
theorem str_size (bs : List UInt8) : (str bs).size = bs.length := rfl
end Go.Proofs.Ythkpmmjcmldjhaa
set_option linter.unusedSimpArgs false
set_option linter.unusedVariables false
namespace Go.Proofs.Ythkpmmjcmldjhaa
open Go Go.RowKit
section
variable {P : Program} {ops : Array Oper} {rest : List Oper} {Q : Exit -> Act -> World -> Prop} {K : Act -> World -> Prop} {a : Act} {w : World} {ρ : Operand -> Value}
 {d : Option Tmp} {ty : TypeId} {p : String} {af : Array Edge} {g : Option (Nat × Bool)}
theorem x_leq {x y : Operand} {t u : TypeId} {k : IntKind} {m n : Int} (hx : ρ x = .int k m) (hy : ρ y = .int k n) : (execOp ρ ⟨d, .binOp .leq t x y u, ty, p, af, g⟩).run P w = .ok (.value (.bool (decide (m <= n)))) w := by
 simp [execOp, hx, hy, eqGuard, binOp, Op.intCmp]
end
end Go.Proofs.Ythkpmmjcmldjhaa
set_option linter.unusedSimpArgs false
set_option linter.unusedVariables false
namespace Go.Proofs.Ythkpmmjcmldjhaa
open Go Go.RowKit
section
variable {P : Program} {ρ : Operand -> Value} {w : World} {d : Option Tmp} {ty : TypeId} {p : String} {af : Array Edge} {g : Option (Nat × Bool)}
/-- from a text to octets -/
def strBytes (P : Program) (src dst e : Nat) : Bool := match P.underlying src, P.underlying dst, P.underlying e with
 | some .string, some (.slice e'), some (.int .u8) => e' == e
 | _, _, _ => false
end
end Go.Proofs.Ythkpmmjcmldjhaa
set_option linter.unusedSimpArgs false
set_option linter.unusedVariables false
set_option linter.unusedSimpArgs false
set_option linter.unusedVariables false
set_option linter.unusedSimpArgs false
set_option linter.unusedVariables false
set_option linter.unusedSimpArgs false
set_option linter.unusedVariables false
namespace Go.Proofs.Ythkpmmjcmldjhaa
open Go Go.RowKit
theorem EmptyV.shape {e0 : Bool} {val : Value} {w : World} {F : Nat -> Prop} (h : EmptyV e0 val w F) : ∃ ao, val = .slice ao 0 0 := by
 rcases h with ⟨_, h⟩ | ⟨_, k, t, _, h, _⟩ <;> exact ⟨_, h⟩
end Go.Proofs.Ythkpmmjcmldjhaa
set_option linter.unusedSimpArgs false
set_option linter.unusedVariables false
namespace Go.Proofs.Ythkpmmjcmldjhaa
open Go Go.RowKit
theorem strBytes_spec {P : Program} {src dst e : Nat} (h : strBytes P src dst e = true) : P.underlying src = some .string /\ P.underlying dst = some (.slice e) /\ P.underlying e = some (.int .u8) := by
 unfold strBytes at h
 revert h
 cases P.underlying src with
 | none => simp
 | some a => cases a <;> (try simp) <;> (cases P.underlying dst with
  | none => simp
  | some b => cases b <;> (try simp) <;> (cases P.underlying e with
   | none => simp
   | some c => cases c <;> (try simp) <;> (rename_i k; cases k <;> simp_all)))
end Go.Proofs.Ythkpmmjcmldjhaa
set_option linter.unusedSimpArgs false
set_option linter.unusedVariables false
set_option linter.unusedSimpArgs false
set_option linter.unusedVariables false
namespace Go.Proofs.Ythkpmmjcmldjhaa
open Go Go.RowKit
section
variable {P : Program} {ρ : Operand -> Value} {w : World} {d : Option Tmp} {ty : TypeId} {p : String} {af : Array Edge} {g : Option (Nat × Bool)} {ops : Array Oper} {rest : List Oper} {a : Act} {Q : Exit -> Act -> World -> Prop}
theorem Srcs.shape {w : World} {v : Value} {bs : List UInt8} (h : Srcs w v bs) : ∃ ao cap, v = .slice ao bs.length cap := by
 rcases h with ⟨rfl, ao, cap, h⟩ | ⟨sb, off, cap, c, tc, fr, h1, h2, h3⟩
 ·exact ⟨ao, cap, h⟩
 ·exact ⟨_, _, h1⟩
end
end Go.Proofs.Ythkpmmjcmldjhaa
set_option linter.unusedSimpArgs false
set_option linter.unusedVariables false
namespace Go.Proofs.Ythkpmmjcmldjhaa
open Go Go.RowKit
theorem fixed2 (n : Int) : fixedE n 2 = [oct8 (n / 256), oct8 n] := by simp [fixedE, List.range, List.range.loop]
end Go.Proofs.Ythkpmmjcmldjhaa
set_option linter.unusedSimpArgs false
set_option linter.unusedVariables false
namespace Go.Proofs.Ythkpmmjcmldjhaa
open Go Go.RowKit
theorem Tr.Z_list (l : List Tr) (b : Bool) : (Tr.list l b).Z = b := rfl
theorem Tr.L_list (l : List Tr) (b : Bool) : (Tr.list l b).L = l := rfl
theorem Tr.L_nul : Tr.nul.L = [] := rfl
end Go.Proofs.Ythkpmmjcmldjhaa
set_option linter.unusedSimpArgs false
set_option linter.unusedVariables false
set_option linter.unusedSimpArgs false
set_option linter.unusedVariables false
namespace Go.Proofs.Ythkpmmjcmldjhaa
open Go Go.RowKit
def isPtr (P : Program) (t : TypeId) : Bool := match P.underlying t with
 | some (.pointer _) => true
 | _ => false
section
variable {P : Program} {ρ : Operand -> Value} {w : World} {d : Option Tmp} {ty : TypeId} {p : String} {af : Array Edge} {g : Option (Nat × Bool)}
theorem x_eqlPtr {x : Operand} {t u : TypeId} {m : Option Addr} (ht : isPtr P t = true) (hρ : ∀ v, ρ (.const v) = v) (hx : ρ x = .pointer m) : (execOp ρ ⟨d, .binOp .eql t x (.const (.pointer none)) u, ty, p, af, g⟩).run P w = .ok (.value (.bool m.isNone)) w := by
 obtain ⟨e, hu⟩ : ∃ e, P.underlying t = some (.pointer e) := by
  unfold isPtr at ht
  cases hu : P.underlying t with
  | none => simp [hu] at ht
  | some ds => cases ds <;> simp_all
 have he : (Op.equal t (.pointer m) (.pointer none)).run P w = .ok m.isNone w := by
  show (Op.equalIn (9999 + 1) t (.pointer m) (.pointer none)).run P w = _
  rw [Op.equalIn]
  simp only [Sem.run_bind, run_underlying hu, Result.andThen_ok]
  cases m <;> rfl
 simp [execOp, hx, hρ, eqGuard, binOp, he]
end
end Go.Proofs.Ythkpmmjcmldjhaa
set_option linter.unusedSimpArgs false
set_option linter.unusedVariables false
set_option linter.unusedSimpArgs false
set_option linter.unusedVariables false
namespace Go.Proofs.Ythkpmmjcmldjhaa
open Go Go.RowKit
/-- an element of a list of structs -/
theorem cur_row {σe : St} {Fs : Nat -> Prop} {w0 W : World} {kb cap sz t3 p : Nat} {C3 : Array Value} {f : Nat -> Nat -> Value} {l vs : List Tr} {u : Tags} (hC3 : w0.heap[kb]? = some (.cells C3 t3 (0, 0))) (hC3s : C3.size = cap * sz) (hlc : l.length <= cap) (hpl : p < l.length) (hse : σe.sz = sz) (hok : (Ty.struct σe.lay σe.tg σe.sz).ok = true)
  (hC3f : ∀ i, i < l.length -> ∀ j, j < sz -> C3[i * sz + j]? = some (f i j)) (hrep : Rep w0 Fs (.struct σe.lay σe.tg σe.sz) (f p) (.part vs u)) (hm : Mod none' w0 W) : Cur σe Fs kb (0 + p * sz) (vs, u) W := by
 have h1 : Rep w0 Fs (.struct σe.lay σe.tg σe.sz) (from' C3 (0 + p * sz)) (.part vs u) := Rep.congr _ _ _ _ hok (fun j hj => by
  have hj' : j < sz := by rw [<- hse]; exact hj
  have := hC3f p hpl j hj'
  simp only [from', Nat.zero_add, Array.getD_eq_getD_getElem?, this, Option.getD_some]) hrep
 have h2 := Rep.mod hm (fun _ _ f => f) (fun _ h => h) _ _ _ h1
 simp only [Rep] at h2
 obtain ⟨vs', u', g1, g2, g3⟩ := h2
 simp only [Tr.part, Tr.mk.injEq, true_and] at g3
 obtain ⟨rfl, rfl⟩ := g3
 have hle : 0 + p * sz + σe.sz <= C3.size := by
  rw [hC3s, hse, Nat.zero_add]
  have := Nat.mul_le_mul_right sz (show p + 1 <= cap by omega)
  rw [Nat.add_mul] at this; omega
 refine ⟨⟨C3, t3, hm.some hC3 (fun f => f), hle, g1, ?_⟩⟩
 cases htg : σe.tg with
 | none => rw [htg] at g2; exact g2
 | some o => rw [htg] at g2; exact g2
end Go.Proofs.Ythkpmmjcmldjhaa
set_option linter.unusedSimpArgs false
set_option linter.unusedVariables false
namespace Go.Proofs.Ythkpmmjcmldjhaa
open Go Go.RowKit
section
variable {P : Program} {Γ : Fl} {σ : St} {S : List Nat} {id i j o k T TT ys t1 t2 t3 t6 t7 tv fat : Nat} {ty : Ty} {z : Tr} {f : Tr -> Tr} {ok : Tr -> Prop} {mids : List Oper}
 {y1 y2 y3 y4 y5 y6 y7 y8 : TypeId} {p1 p2 p3 p4 p5 p6 p7 p8 : String} {e1 e2 e3 e4 e5 e6 e7 e8 : Array Edge} {ts : Array TypeId}
/-- the same, where the struct is one's own -/
theorem fst_make (hat' : AtC P fat) (hbd : bodied P fat = true) (hmT : many P TT 5 = true) (hv : Val P Γ S mids t3 tv ty f ok) (hat : σ.lay.at i = some (o, ty)) (hok : σ.okAt i o ty = true) (hf : fieldOff P T k = some o) (hsz : sized P ys ty.size = true) (hot : Γ.off o ty.size = true)
  (hs : (Γ.free t2 && Γ.free t3 && Γ.free t7 && t7 != tv) = true) :
  Fst P Γ σ (.region id (List.toArray (⟨some t2, .load TT (.tmp Γ.tb), y2, p2, e2, none⟩ :: ⟨some t3, .call ⟨.value (.func fat), #[.tmp t2, .const (.int .i64 (j : Nat))], ts⟩, y3, p3, e3, none⟩ ::
   (mids ++ [⟨some t7, .fieldAddr T (.tmp Γ.s) k, y7, p7, e7, none⟩, ⟨none, .store ys (.tmp t7) (.tmp tv), y8, p8, e8, none⟩]))) false) i z (fun g => f (g.L.getD j .zero)) (fun g => ok (g.L.getD j .zero)) := by
 intro x v a w hA hC hz0 hokg
 simp only [Bool.and_eq_true, bne_iff_ne] at hs
 obtain ⟨⟨⟨f2, f3⟩, f7⟩, n7v⟩ := hs
 obtain ⟨T0, hb0⟩ := hA.hb
 refine wp_region_lit ?_
 refine Zv rfl (x_loadN (cs := x.ct.toList) (b := x.tblk) (o := 0) (by rw [Array.length_toList, hA.ct]; exact hmT) ?_ (fun j v hv => by rw [Zc hb0, Nat.zero_add]; simpa using hv)) ?_
 ·rw [Ze, hA.tree]
 have hA2 := hA.put f2 (.agg x.ct.toList.toArray)
 have g2 : Act.get (a.put (some t2) (.agg x.ct.toList.toArray)) t2 = .agg x.ct := by rw [Zq (hA.lt f2)]
 generalize a.put (some t2) (.agg x.ct.toList.toArray) = a2 at *
 have ee : (#[Operand.tmp t2, .const (.int .i64 (j : Nat))] : Array Operand).map a2.eval = #[.agg x.ct, .int .i64 (j : Nat)] := by
  simp [Ze, g2]; rfl
 refine wpl_call rfl (Zy hbd rfl) (by rw [ee]; exact hat' hA.mod hA.ct hA.tr) ?_
 rintro e w1 ⟨m1, cs, rfl, hcs, hT⟩
 refine ⟨_, rfl, ?_⟩
 have hA3 := (hA2.new m1).put f3 (.agg cs)
 refine hv _ _ _ x _ w1 cs _ hA3 (Zq (hA2.lt f3)) hcs hT hokg ?_
 intro a' w' hA' hsb hm' hrep
 refine Zv rfl (Za hf (b := x.blk) (o0 := 0) (by rw [Ze, hA'.ptr])) ?_
 have m01 : Mod none' w w' := m1.trans hm'
 refine fst_put (u := f (x.g.L.getD j .zero)) (t7 := t7) (tv := tv) hat hok hsz hot (hA'.put f7 _) hC m01 ?_ ?_ hA ?_
 ·rw [Zq (hA'.lt f7)]
 ·rw [Zn n7v]
  exact hrep.mod (Mod.refl (S := none') w') (fun _ _ f => f) (fun k hk => Fx.nw_mono m1.size hk)
 ·intro a'' w'' h1 h2
  exact ⟨rfl, h1, h2⟩
end
end Go.Proofs.Ythkpmmjcmldjhaa
set_option linter.unusedSimpArgs false
set_option linter.unusedVariables false
namespace Go.Proofs.Ythkpmmjcmldjhaa
open Go Go.RowKit
section
variable {P : Program} {ρ : Operand -> Value} {w : World} {d : Option Tmp} {ty : TypeId} {p : String} {af : Array Edge} {g : Option (Nat × Bool)}
theorem x_lenStr {x : Operand} {t : Nat} {ts : Array TypeId} {S : ByteArray} (ht : P.underlying t = some .string) (hts : ts[0]? = some t) (hx : ρ x = .string S) :
  (execOp ρ ⟨d, .call ⟨.builtin .len, #[x], ts⟩, ty, p, af, g⟩).run P w = .ok (.value (.int .i64 S.size)) w := by
 simp [execOp, resolve, invoke, builtin, hx, Builtin.len_, hts, run_underlying ht, goInt]
end
section
variable {P : Program} {ρ : Operand -> Value} {w : World} {d : Option Tmp} {ty : TypeId} {p : String} {af : Array Edge} {g : Option (Nat × Bool)}
theorem x_lenText {x : Operand} {t : Nat} {ts : Array TypeId} {cs : List UInt8} (ht : P.underlying t = some .string) (hts : ts[0]? = some t) (hx : ρ x = .string (str cs)) :
  (execOp ρ ⟨d, .call ⟨.builtin .len, #[x], ts⟩, ty, p, af, g⟩).run P w = .ok (.value (.int .i64 cs.length)) w := x_lenStr ht hts hx
end
/-- a text is put behind octets -/
theorem wpl_ostr {P : Program} {Q : Exit -> Act -> World -> Prop} {ops : Array Oper} {rest : List Oper} {a : Act} {w : World} {d : Option Tmp} {ty : TypeId} {p : String} {af : Array Edge} {s x : Operand} {base t : Nat} {v : Value} {bs cs : List UInt8} (hI : elemInfo P 22 5 1 = true) (hu : P.underlying t = some .string)
  (hz : ∃ i, P.info? 5 = some i /\ i.zero = some (.int .u8 0) /\ i.bytes = 1)
  (hs : a.eval s = v) (hx : a.eval x = .string (str cs)) (hown : OwnB w base v bs) (hsm : bs.length + cs.length <= 4294967296) (hbase : base <= w.heap.size)
  (hk : ∀ v' w', OwnB w' base v' (bs ++ cs) -> Fine v v' w w' -> wpList P ops Q rest (a.put d v') w') :
  wpList P ops Q (⟨d, .call ⟨.builtin .append, #[s, x], #[22, t]⟩, ty, p, af, none⟩ :: rest) a w := by
 obtain ⟨hu0, i, z, hi, hz0, h2, h3, h4, h5, h6⟩ := elemInfo_spec hI
 obtain ⟨i', hi', hz', hb'⟩ := hz
 rw [hi] at hi'
 obtain rfl : i = i' := by simpa using hi'
 obtain ⟨v', w', hr, k1, k2, k3⟩ := Lib.run_append_own_string (P := P) w base 22 t ty 5 i hu0 hu hi hz' h2 hb' v bs.length (octV bs) hown (str cs) (by simp only [maxLen, str_size]; omega) (by simp only [str_size]; omega) hbase
 refine Zv rfl (v := v') (w' := w') ?_ (hk v' w' ?_ ?_)
 ·simp [execOp, resolve, invoke, builtin, hs, hx, hr]
 ·unfold OwnB
  rw [List.length_append, octV_append]
  have e : Lib.strCells (str cs) = octV cs := by simp [Lib.strCells, octV, str]
  rw [e, str_size] at k1
  exact k1
 ·refine ⟨(Mod.of_grown k2).mono fun k _ e => e.symm ▸ rfl, fun k hk2 => ?_⟩
  rcases hown.2 with ⟨hv0, hl0⟩ | ⟨g, cap, cur, hv0, hb0, hg, hnc, hcm, hsz, htake⟩
  ·subst hv0
   have hbs : bs = [] := List.eq_nil_of_length_eq_zero hl0
   subst hbs
   obtain ⟨v2, w2, hr2, q1, q2, q3⟩ := Lib.run_append_own_string (P := P) w w.heap.size 22 t ty 5 i hu0 hu hi hz' h2 hb' (.slice none 0 0) 0 [] (World.ownsRow_nil w _ _ 1) (str cs) (by simp only [maxLen, str_size]; omega) (by simp only [str_size]; omega) (Nat.le_refl _)
   rw [hr] at hr2
   obtain ⟨rfl, rfl⟩ : v' = v2 /\ w' = w2 := by simpa using hr2
   exact .inr (q1.lt k hk2).1
  ·subst hv0
   by_cases hroom : bs.length + (str cs).size <= cap
   ·have hr2 := Lib.run_append_room_string (P := P) w 22 t ty 5 i hu0 hu hi h2 g bs.length cap cur hg (str cs) hroom (by omega)
    rw [hr] at hr2
    have := (by simpa using hr2 : v' = _ /\ w' = _).1
    subst this
    exact .inl hk2
   ·have holds : ∀ j u, (octV bs)[j]? = some u -> w.cell? ((⟨g, 0, none⟩ : Addr).add j) = some u := hown.cells (g := g) rfl
    have hgf := growslice_fits (need := bs.length + (str cs).size) (old := cap) (bytes := 1) (by omega) (by simp only [str_size]; omega)
    have hr2 := Lib.run_append_grow_string (P := P) w 22 t ty 5 i z hu0 hu hi hz0 ⟨g, 0, none⟩ bs.length cap (octV bs) (by rw [h2, octV_length]; omega) holds (str cs) (by omega) (by simp only [str_size]; omega) (by rw [hb']; exact hgf)
    rw [hr] at hr2
    have := (by simpa using hr2 : v' = _ /\ w' = _).1
    subst this
    simp [Value.ownBlock] at hk2
    exact .inr (by omega)
def u8zero (P : Program) (t : Nat) : Bool := match P.info? t with
 | some i => i.bytes == 1 && (match i.zero with | some (.int .u8 n) => n == 0 | _ => false)
 | none => false
theorem u8_zero_of {P : Program} {t : Nat} (h : u8zero P t = true) : ∃ i, P.info? t = some i /\ i.zero = some (.int .u8 0) /\ i.bytes = 1 := by
 unfold u8zero at h
 cases hi : P.info? t with
 | none => simp [hi] at h
 | some i =>
  simp only [hi, Bool.and_eq_true, beq_iff_eq] at h
  refine ⟨i, rfl, ?_, h.1⟩
  have h2 := h.2
  split at h2
  ·rename_i n hz
   rw [hz]; simpa using h2
  ·simp at h2
theorem u8_zero : ∃ i, Try.prog.info? 5 = some i /\ i.zero = some (.int .u8 0) /\ i.bytes = 1 := u8_zero_of (by kernel_rfl)
theorem fixedE_i16 (n : Int) : fixedE (IntKind.i16.wrap n) 2 = fixedE n 2 := by
 apply fixedE_mod; simp only [IntKind.wrap, IntKind.bits, IntKind.signed]; simp <;> (try split) <;> (try omega)
theorem fixedE_u16 (n : Int) : fixedE (IntKind.u16.wrap n) 2 = fixedE n 2 := by
 apply fixedE_mod; simp only [IntKind.wrap, IntKind.bits, IntKind.signed]; simp <;> (try split) <;> (try omega)
theorem app_u16 {w : World} {base : Nat} {dv : Value} {out : List UInt8} {n : Int} (hown : OwnB w base dv out) (hb : base <= w.heap.size) (hl : out.length + 2 <= 4294967296) : PutC Try.prog 120 #[dv, .int .u16 n] w base dv out (fixedE n 2) := by
 refine calls_of_wp Try.func120 rfl ?_
 rw [Try.ntmps120]
 refine wp_act (fun a : Act => Act.get a 0 = dv /\ Act.get a 1 = .int .u16 n /\ a.tmps.size = 13 /\ a.defers = []) ⟨by rw [Zj _ _ _ (by simp)]; rfl, by rw [Zj _ _ _ (by simp)]; rfl, by simp, rfl⟩ ?_
 rintro a ⟨a0, a1, aN, ad⟩
 refine wp_seq (wp_region_lit (Zv rfl Zi (wpList_nil ?_)))
 refine wp_seq (wp_region_lit (Zv rfl Zm (Zv rfl Zm (Zv rfl (x_shrL (k := .u16) (k' := .u64) (m := n) (s := 8) ?_ rfl (by decide)) (Zv rfl (x_convInt (n := (n) / 2 ^ 8) (k := .u16) (k' := .u8) (by kernel_rfl) (by kernel_rfl) ?_) (Zv rfl Zm (Zv rfl (x_convInt (n := n) (k := .u16) (k' := .u8) (by kernel_rfl) (by kernel_rfl) ?_) ?_)))))))
 ·simp (disch := first | omega | simp only [Zs]; omega) only [Zo, Ze, Zn, Zq, a0, a1]
 ·simp (disch := first | omega | simp only [Zs]; omega) only [Zo, Ze, Zn, Zq, a0, a1]
 ·simp (disch := first | omega | simp only [Zs]; omega) only [Zo, Ze, Zn, Zq, a0, a1]
 refine wpl_abs (fun b : Act => b.tmps.size = 13 /\ b.defers = [] /\ Act.get b 5 = dv /\ Act.get b 8 = .int .u8 (oct8 (n / 2 ^ 8)).toNat /\ Act.get b 10 = .int .u8 (oct8 n).toNat) ⟨?_, ?_, ?_, ?_, ?_⟩ ?_
 ·simp only [Zs]; exact aN
 ·simp only [Zd]; exact ad
 ·simp (disch := first | omega | simp only [Zs]; omega) only [Zo, Ze, Zn, Zq, a0, a1]
 ·simp (disch := first | omega | simp only [Zs]; omega) only [Zo, Ze, Zn, Zq, a0, a1]
  exact oct8_u8 _
 ·simp (disch := first | omega | simp only [Zs]; omega) only [Zo, Ze, Zn, Zq, a0, a1]
  exact oct8_u8 _
 rintro b ⟨bN, bd, bD, q0, q1⟩
 refine wpl_octN (base := base) (v := dv) (bs := out) (cs := [oct8 (n / 2 ^ 8), oct8 n]) octs_info rfl (by decide) ?_ (by omega) ?_ hown (by omega) hb ?_
 ·simp [Ze, octV, q0, q1]
 ·simp (disch := first | omega | simp only [Zs]; omega) only [Zo, Ze, Zn, Zq, bD]
 intro v' w' h1 h2
 refine Zv rfl Zi (wpList_nil (wp_ret ?_))
 try simp only [Exit.then, Exit.inBlock]
 refine bodyPost_ret (results_tmp rfl _ _ _) ?_ ⟨_, rfl, ?_, ?_⟩
 ·simp only [Zd]; exact bd
 ·rw [show ∀ (a : Act), a.tmps.getD 4 undef = Act.get a 4 from fun _ => rfl]
  simp (disch := first | omega | simp only [Zs]; omega) only [Zo, Ze, Zn, Zq]
  rw [show fixedE n 2 = [oct8 (n / 2 ^ 8), oct8 n] by simp [fixed2]]
  exact h1
 ·rw [show ∀ (a : Act), a.tmps.getD 4 undef = Act.get a 4 from fun _ => rfl]
  simp (disch := first | omega | simp only [Zs]; omega) only [Zo, Ze, Zn, Zq]
  exact h2
theorem app_i16 {w : World} {base : Nat} {dv : Value} {out : List UInt8} {n : Int} (hown : OwnB w base dv out) (hb : base <= w.heap.size) (hl : out.length + 2 <= 4294967296) : PutC Try.prog 100 #[dv, .int .i16 n] w base dv out (fixedE n 2) := by
 refine calls_of_wp Try.func100 rfl ?_
 rw [Try.ntmps100]
 refine wp_act (fun a : Act => Act.get a 0 = dv /\ Act.get a 1 = .int .i16 n /\ a.tmps.size = 9 /\ a.defers = []) ⟨by rw [Zj _ _ _ (by simp)]; rfl, by rw [Zj _ _ _ (by simp)]; rfl, by simp, rfl⟩ ?_
 rintro a ⟨a0, a1, aN, ad⟩
 refine wp_seq (wp_region_lit (Zv rfl Zi (wpList_nil ?_)))
 refine wp_seq (wp_region_lit (Zv rfl Zm (Zv rfl Zm (Zv rfl (x_convInt (n := n) (k := .i16) (k' := .u16) (by kernel_rfl) (by kernel_rfl) ?_) (wpl_call rfl (Zy (by kernel_rfl) rfl) (R := fun e w' => ∃ v, e = .returned v /\ OwnB w' base v (out ++ (fixedE n 2)) /\ Fine dv v w w') ?_ ?_)))))
 ·simp (disch := first | omega | simp only [Zs]; omega) only [Zo, Ze, Zn, Zq, a0, a1]
 ·rw [show ∀ a : Act, (#[Operand.tmp 5, .tmp 7] : Array Operand).map a.eval = #[Act.get a 5, Act.get a 7] from fun a => by simp [Ze]]
  simp (disch := first | omega | simp only [Zs]; omega) only [Zo, Ze, Zn, Zq, a0, a1]
  have h := app_u16 (n := IntKind.u16.wrap n) hown hb hl
  rw [fixedE_u16] at h
  exact h.out
 rintro e w' ⟨v', rfl, h1, h2⟩
 refine ⟨_, rfl, ?_⟩
 have bd := ad
 refine Zv rfl Zi (wpList_nil (wp_ret ?_))
 try simp only [Exit.then, Exit.inBlock]
 refine bodyPost_ret (results_tmp rfl _ _ _) ?_ ⟨_, rfl, ?_, ?_⟩
 ·simp only [Zd]; exact bd
 ·rw [show ∀ (a : Act), a.tmps.getD 4 undef = Act.get a 4 from fun _ => rfl]
  simp (disch := first | omega | simp only [Zs]; omega) only [Zo, Ze, Zn, Zq]
  exact h1
 ·rw [show ∀ (a : Act), a.tmps.getD 4 undef = Act.get a 4 from fun _ => rfl]
  simp (disch := first | omega | simp only [Zs]; omega) only [Zo, Ze, Zn, Zq]
  exact h2
theorem app_alen {w : World} {base : Nat} {dv : Value} {out : List UInt8} {n : Nat} (hown : OwnB w base dv out) (hb : base <= w.heap.size) (hl : out.length + 4 <= 4294967296) : PutC Try.prog 104 #[dv, .int .i64 (n : Nat)] w base dv out (cntE false n 4) := by
 refine calls_of_wp Try.func104 rfl ?_
 rw [Try.ntmps104]
 refine wp_act (fun a : Act => Act.get a 0 = dv /\ Act.get a 1 = .int .i64 (n : Nat) /\ a.tmps.size = 9 /\ a.defers = []) ⟨by rw [Zj _ _ _ (by simp)]; rfl, by rw [Zj _ _ _ (by simp)]; rfl, by simp, rfl⟩ ?_
 rintro a ⟨a0, a1, aN, ad⟩
 refine wp_seq (wp_region_lit (Zv rfl Zi (wpList_nil ?_)))
 refine wp_seq (wp_region_lit (Zv rfl Zm (Zv rfl Zm (Zv rfl (x_convInt (n := (n : Nat)) (k := .i64) (k' := .i32) (by kernel_rfl) (by kernel_rfl) ?_) (wpl_call rfl (Zy (by kernel_rfl) rfl) (R := fun e w' => ∃ v, e = .returned v /\ OwnB w' base v (out ++ (cntE false n 4)) /\ Fine dv v w w') ?_ ?_)))))
 ·simp (disch := first | omega | simp only [Zs]; omega) only [Zo, Ze, Zn, Zq, a0, a1]
 ·rw [show ∀ a : Act, (#[Operand.tmp 5, .tmp 7] : Array Operand).map a.eval = #[Act.get a 5, Act.get a 7] from fun a => by simp [Ze]]
  simp (disch := first | omega | simp only [Zs]; omega) only [Zo, Ze, Zn, Zq, a0, a1]
  have h := app_i32 (n := IntKind.i32.wrap n) hown hb hl
  rw [fixedE_i32] at h
  exact h.out
 rintro e w' ⟨v', rfl, h1, h2⟩
 refine ⟨_, rfl, ?_⟩
 have bd := ad
 refine Zv rfl Zi (wpList_nil (wp_ret ?_))
 try simp only [Exit.then, Exit.inBlock]
 refine bodyPost_ret (results_tmp rfl _ _ _) ?_ ⟨_, rfl, ?_, ?_⟩
 ·simp only [Zd]; exact bd
 ·rw [show ∀ (a : Act), a.tmps.getD 4 undef = Act.get a 4 from fun _ => rfl]
  simp (disch := first | omega | simp only [Zs]; omega) only [Zo, Ze, Zn, Zq]
  exact h1
 ·rw [show ∀ (a : Act), a.tmps.getD 4 undef = Act.get a 4 from fun _ => rfl]
  simp (disch := first | omega | simp only [Zs]; omega) only [Zo, Ze, Zn, Zq]
  exact h2
theorem app_calen {w : World} {base : Nat} {dv : Value} {out : List UInt8} {n : Nat} (hown : OwnB w base dv out) (hb : base <= w.heap.size) (hl : out.length + (cntE true n 4).length <= 4294967296) : PutC Try.prog 103 #[dv, .int .i64 (n : Nat)] w base dv out (cntE true n 4) := by
 refine calls_of_wp Try.func103 rfl ?_
 rw [Try.ntmps103]
 refine wp_act (fun a : Act => Act.get a 0 = dv /\ Act.get a 1 = .int .i64 (n : Nat) /\ a.tmps.size = 10 /\ a.defers = []) ⟨by rw [Zj _ _ _ (by simp)]; rfl, by rw [Zj _ _ _ (by simp)]; rfl, by simp, rfl⟩ ?_
 rintro a ⟨a0, a1, aN, ad⟩
 refine wp_seq (wp_region_lit (Zv rfl Zi (wpList_nil ?_)))
 refine wp_seq (wp_region_lit (Zv rfl Zm (Zv rfl Zm (Zv rfl (x_convInt (n := (n : Nat)) (k := .i64) (k' := .u32) (by kernel_rfl) (by kernel_rfl) ?_) (Zv rfl (x_add (k := .u32) (m := 1) (n := (IntKind.u32.wrap ((n : Nat)))) rfl ?_) (wpl_call rfl (Zy (by kernel_rfl) rfl) (R := fun e w' => ∃ v, e = .returned v /\ OwnB w' base v (out ++ (cntE true n 4)) /\ Fine dv v w w') ?_ ?_))))))
 ·simp (disch := first | omega | simp only [Zs]; omega) only [Zo, Ze, Zn, Zq, a0, a1]
 ·simp (disch := first | omega | simp only [Zs]; omega) only [Zo, Ze, Zn, Zq, a0, a1]
 ·rw [show ∀ a : Act, (#[Operand.tmp 5, .tmp 8] : Array Operand).map a.eval = #[Act.get a 5, Act.get a 8] from fun a => by simp [Ze]]
  simp (disch := first | omega | simp only [Zs]; omega) only [Zo, Ze, Zn, Zq, a0, a1]
  have e : IntKind.u32.wrap (1 + IntKind.u32.wrap (n : Int)) = ((n + 1) % 4294967296 : Nat) := by simp only [IntKind.wrap, IntKind.bits, IntKind.signed]; simp; omega
  rw [e]
  exact (app_uv (n := (n + 1) % 4294967296) (by omega) hown hb hl).out
 rintro e w' ⟨v', rfl, h1, h2⟩
 refine ⟨_, rfl, ?_⟩
 have bd := ad
 refine Zv rfl Zi (wpList_nil (wp_ret ?_))
 try simp only [Exit.then, Exit.inBlock]
 refine bodyPost_ret (results_tmp rfl _ _ _) ?_ ⟨_, rfl, ?_, ?_⟩
 ·simp only [Zd]; exact bd
 ·rw [show ∀ (a : Act), a.tmps.getD 4 undef = Act.get a 4 from fun _ => rfl]
  simp (disch := first | omega | simp only [Zs]; omega) only [Zo, Ze, Zn, Zq]
  exact h1
 ·rw [show ∀ (a : Act), a.tmps.getD 4 undef = Act.get a 4 from fun _ => rfl]
  simp (disch := first | omega | simp only [Zs]; omega) only [Zo, Ze, Zn, Zq]
  exact h2
theorem app_str {w : World} {base : Nat} {dv : Value} {out : List UInt8} {cs : List UInt8} (hown : OwnB w base dv out) (hb : base <= w.heap.size) (hl : out.length + (cntE false cs.length 2 ++ cs).length <= 4294967296) : PutC Try.prog 106 #[dv, .string (str cs)] w base dv out (cntE false cs.length 2 ++ cs) := by
 rw [List.length_append] at hl
 refine calls_of_wp Try.func106 rfl ?_
 rw [Try.ntmps106]
 refine wp_act (fun a : Act => Act.get a 0 = dv /\ Act.get a 1 = .string (str cs) /\ a.tmps.size = 13 /\ a.defers = []) ⟨by rw [Zj _ _ _ (by simp)]; rfl, by rw [Zj _ _ _ (by simp)]; rfl, by simp, rfl⟩ ?_
 rintro a ⟨a0, a1, aN, ad⟩
 refine wp_seq (wp_region_lit (Zv rfl Zi (wpList_nil ?_)))
 refine wp_seq (wp_region_lit (Zv rfl Zm (Zv rfl Zm (Zv rfl (x_lenText (cs := cs) (by kernel_rfl) rfl ?_) (Zv rfl (x_convInt (n := (cs.length : Nat)) (k := .i64) (k' := .i16) (by kernel_rfl) (by kernel_rfl) ?_) (wpl_call rfl (Zy (by kernel_rfl) rfl) (R := fun e w' => ∃ v, e = .returned v /\ OwnB w' base v (out ++ cntE false cs.length 2) /\ Fine dv v w w') ?_ ?_))))))
 ·simp (disch := first | omega | simp only [Zs]; omega) only [Zo, Ze, Zn, Zq, a1]
 ·simp (disch := first | omega | simp only [Zs]; omega) only [Zo, Ze, Zn, Zq, a0, a1]
 ·rw [show ∀ a : Act, (#[Operand.tmp 5, .tmp 8] : Array Operand).map a.eval = #[Act.get a 5, Act.get a 8] from fun a => by simp [Ze]]
  simp (disch := first | omega | simp only [Zs]; omega) only [Zo, Ze, Zn, Zq, a0, a1]
  have h := app_i16 (n := IntKind.i16.wrap (cs.length : Nat)) hown hb (by have := fixedE_length cs.length 2; simp only [cntE] at hl; simp at hl; omega)
  rw [fixedE_i16] at h
  exact h.out
 rintro e w1 ⟨v1, rfl, k1, k2⟩
 refine ⟨_, rfl, Zv rfl Zi (wpList_nil ?_)⟩
 refine wp_seq (wp_region_lit (Zv rfl Zm (Zv rfl Zm (wpl_ostr (base := base) (v := v1) (cs := cs) octs_info (by kernel_rfl) u8_zero ?_ ?_ k1 ?_ ?_ ?_))))
 ·simp (disch := first | omega | simp only [Zs]; omega) only [Zo, Ze, Zn, Zq]
 ·simp (disch := first | omega | simp only [Zs]; omega) only [Zo, Ze, Zn, Zq, a1]
 ·simp only [List.length_append]; omega
 ·have := k2.size; omega
 intro v' w' h1 h2'
 have h2 := k2.trans h2'
 have bd := ad
 refine Zv rfl Zi (wpList_nil (wp_ret ?_))
 try simp only [Exit.then, Exit.inBlock]
 refine bodyPost_ret (results_tmp rfl _ _ _) ?_ ⟨_, rfl, ?_, ?_⟩
 ·simp only [Zd]; exact bd
 ·rw [show ∀ (a : Act), a.tmps.getD 4 undef = Act.get a 4 from fun _ => rfl]
  simp (disch := first | omega | simp only [Zs]; omega) only [Zo, Ze, Zn, Zq]
  rw [List.append_assoc] at h1
  exact h1
 ·rw [show ∀ (a : Act), a.tmps.getD 4 undef = Act.get a 4 from fun _ => rfl]
  simp (disch := first | omega | simp only [Zs]; omega) only [Zo, Ze, Zn, Zq]
  exact h2
theorem app_cstr {w : World} {base : Nat} {dv : Value} {out : List UInt8} {cs : List UInt8} (hown : OwnB w base dv out) (hb : base <= w.heap.size) (hl : out.length + (cntE true cs.length 2 ++ cs).length <= 4294967296) : PutC Try.prog 105 #[dv, .string (str cs)] w base dv out (cntE true cs.length 2 ++ cs) := by
 rw [List.length_append] at hl
 refine calls_of_wp Try.func105 rfl ?_
 rw [Try.ntmps105]
 refine wp_act (fun a : Act => Act.get a 0 = dv /\ Act.get a 1 = .string (str cs) /\ a.tmps.size = 14 /\ a.defers = []) ⟨by rw [Zj _ _ _ (by simp)]; rfl, by rw [Zj _ _ _ (by simp)]; rfl, by simp, rfl⟩ ?_
 rintro a ⟨a0, a1, aN, ad⟩
 refine wp_seq (wp_region_lit (Zv rfl Zi (wpList_nil ?_)))
 refine wp_seq (wp_region_lit (Zv rfl Zm (Zv rfl Zm (Zv rfl (x_lenText (cs := cs) (by kernel_rfl) rfl ?_) (Zv rfl (x_convInt (n := (cs.length : Nat)) (k := .i64) (k' := .u32) (by kernel_rfl) (by kernel_rfl) ?_) (Zv rfl (x_add (k := .u32) (m := 1) (n := (IntKind.u32.wrap ((cs.length : Nat)))) rfl ?_) (wpl_call rfl (Zy (by kernel_rfl) rfl) (R := fun e w' => ∃ v, e = .returned v /\ OwnB w' base v (out ++ cntE true cs.length 2) /\ Fine dv v w w') ?_ ?_)))))))
 ·simp (disch := first | omega | simp only [Zs]; omega) only [Zo, Ze, Zn, Zq, a1]
 ·simp (disch := first | omega | simp only [Zs]; omega) only [Zo, Ze, Zn, Zq, a0, a1]
 ·simp (disch := first | omega | simp only [Zs]; omega) only [Zo, Ze, Zn, Zq, a0, a1]
 ·rw [show ∀ a : Act, (#[Operand.tmp 5, .tmp 9] : Array Operand).map a.eval = #[Act.get a 5, Act.get a 9] from fun a => by simp [Ze]]
  simp (disch := first | omega | simp only [Zs]; omega) only [Zo, Ze, Zn, Zq, a0, a1]
  have e : IntKind.u32.wrap (1 + IntKind.u32.wrap (cs.length : Int)) = ((cs.length + 1) % 4294967296 : Nat) := by simp only [IntKind.wrap, IntKind.bits, IntKind.signed]; simp; omega
  rw [e]
  exact (app_uv (n := (cs.length + 1) % 4294967296) (by omega) hown hb (by simp only [cntE] at hl; simp at hl; omega)).out
 rintro e w1 ⟨v1, rfl, k1, k2⟩
 refine ⟨_, rfl, Zv rfl Zi (wpList_nil ?_)⟩
 refine wp_seq (wp_region_lit (Zv rfl Zm (Zv rfl Zm (wpl_ostr (base := base) (v := v1) (cs := cs) octs_info (by kernel_rfl) u8_zero ?_ ?_ k1 ?_ ?_ ?_))))
 ·simp (disch := first | omega | simp only [Zs]; omega) only [Zo, Ze, Zn, Zq]
 ·simp (disch := first | omega | simp only [Zs]; omega) only [Zo, Ze, Zn, Zq, a1]
 ·simp only [List.length_append]; omega
 ·have := k2.size; omega
 intro v' w' h1 h2'
 have h2 := k2.trans h2'
 have bd := ad
 refine Zv rfl Zi (wpList_nil (wp_ret ?_))
 try simp only [Exit.then, Exit.inBlock]
 refine bodyPost_ret (results_tmp rfl _ _ _) ?_ ⟨_, rfl, ?_, ?_⟩
 ·simp only [Zd]; exact bd
 ·rw [show ∀ (a : Act), a.tmps.getD 4 undef = Act.get a 4 from fun _ => rfl]
  simp (disch := first | omega | simp only [Zs]; omega) only [Zo, Ze, Zn, Zq]
  rw [List.append_assoc] at h1
  exact h1
 ·rw [show ∀ (a : Act), a.tmps.getD 4 undef = Act.get a 4 from fun _ => rfl]
  simp (disch := first | omega | simp only [Zs]; omega) only [Zo, Ze, Zn, Zq]
  exact h2
end Go.Proofs.Ythkpmmjcmldjhaa
set_option linter.unusedSimpArgs false
set_option linter.unusedVariables false
namespace Go.Proofs.Ythkpmmjcmldjhaa
open Go Go.RowKit
section
variable {P : Program} {Γ : Wl} {ok ok' : OkV} {id id' i0 i1 i2 i3 b0 b1 : Nat} {c c0 c1 c2 : Code} {pre p1 p2 : Pre} {rs : List Nat} {q : Int -> Bool -> Bool}
 {y1 y2 y3 y4 y5 y6 y7 y8 y9 yg yh yg' yh' : TypeId} {s1 s2 s3 s4 s5 s6 s7 s8 s9 : String} {e1 e2 e3 e4 e5 e6 e7 e8 e9 : Array Edge} {ts : Array TypeId} {u t t1 t2 t3 t4 t5 t6 tv : Nat} {k : Int}
/-- 'version >= m && version <= k' -/
theorem tstw_and {m : Int} (hs : (Γ.free t1 && Γ.free t2 && Γ.free t3 && Γ.free t4 && Γ.free t5 && Γ.free t6 && t4 != t3 && t5 != t3) = true) :
  TstW P Γ (.region id #[⟨some t1, .move (.tmp Γ.ver), y1, s1, e1, none⟩, ⟨some t2, .binOp .geq yg (.tmp t1) (.const (.int .i16 m)) yh, y2, s2, e2, none⟩, ⟨some t3, .move (.tmp t2), y3, s3, e3, none⟩, ⟨some t4, .move (.tmp Γ.ver), y4, s4, e4, some (2, true)⟩,
   ⟨some t5, .binOp .leq yg' (.tmp t4) (.const (.int .i16 k)) yh', y5, s5, e5, some (2, true)⟩, ⟨some t6, .pick (.tmp t3) (.tmp t5) (.const (.bool false)), y6, s6, e6, none⟩] false) t6 (fun v _ => decide (m <= v) && decide (v <= k)) := by
 intro x out a w hA
 simp only [Bool.and_eq_true, bne_iff_ne] at hs
 obtain ⟨⟨⟨⟨⟨⟨⟨f1, f2⟩, f3⟩, f4⟩, f5⟩, f6⟩, n43⟩, n53⟩ := hs
 have z1 := hA.lt f1
 have z2 := hA.lt f2
 have z3 := hA.lt f3
 have z4 := hA.lt f4
 have z5 := hA.lt f5
 have z6 := hA.lt f6
 refine wp_mono (Q := fun e a' w' => e = .normal /\ w' = w /\ WA Γ x out a' w' /\ Act.get a' t6 = .bool (decide (m <= x.ver) && decide (x.ver <= k)) /\ SameBut (fun t => t = t1 \/ t = t2 \/ t = t3 \/ t = t4 \/ t = t5 \/ t = t6) a a') ?_ ?_
 ·refine wp_region_lit (Zv rfl Zm (Zv rfl (x_geq (k := .i16) (m := x.ver) (n := m) (by rw [Ze, Zq z1, Ze, hA.ver]) rfl) (Zv rfl Zm ?_)))
  refine wpl_abs (fun a' => WA Γ x out a' w /\ Act.get a' t3 = .bool (decide (m <= x.ver)) /\ SameBut (fun t => t = t1 \/ t = t2 \/ t = t3 \/ t = t4 \/ t = t5 \/ t = t6) a a') ⟨((hA.put f1 _).put f2 _).put f3 _, ?_, (((SameBut.refl a).put (.inl rfl) _).put (.inr (.inl rfl)) _).put (.inr (.inr (.inl rfl))) _⟩ ?_
  ·rw [Zq (by simp only [Zs]; exact z3), Ze, Zq (by simp only [Zs]; exact z2)]
  rintro a1 ⟨hA1, h3, hsb1⟩
  have q1 : a1.tmps.size = a.tmps.size := hsb1.size
  by_cases hv : m <= x.ver
  ·rw [decide_eq_true hv] at h3
   refine wpl_gval (k := 2) (d := t3) (b := true) rfl rfl h3 Zm ?_
   have h3' : Act.get (a1.put (some t4) (a1.eval (.tmp Γ.ver))) t3 = .bool true := by rw [Zn n43, h3]
   refine wpl_gval (k := 2) (d := t3) (b := true) rfl rfl h3' (x_leq (k := .i16) (m := x.ver) (n := k) (by rw [Ze, Zq (by rw [q1]; exact z4), Ze, hA1.ver]) rfl) ?_
   refine Zv rfl (x_pickT (v := .bool (decide (x.ver <= k))) (by rw [Ze, Zn n53]; exact h3') (by rw [Ze, Zq (by simp only [Zs]; rw [q1]; exact z5)])) (wpList_nil ⟨rfl, rfl, ((hA1.put f4 _).put f5 _).put f6 _, ?_, ((hsb1.put (.inr (.inr (.inr (.inl rfl)))) _).put (.inr (.inr (.inr (.inr (.inl rfl))))) _).put (.inr (.inr (.inr (.inr (.inr rfl))))) _⟩)
   rw [Zq (by simp only [Zs]; rw [q1]; exact z6), decide_eq_true hv]; rfl
  ·rw [decide_eq_false hv] at h3
   refine wpl_unwanted ((wanted_of (k := 2) (d := t3) rfl rfl h3).trans rfl) ?_
   have h3' : Act.get (a1.put (some t4) undef) t3 = .bool false := by rw [Zn n43, h3]
   refine wpl_unwanted ((wanted_of (k := 2) (d := t3) rfl rfl h3').trans rfl) ?_
   refine Zv rfl (x_pickF (v := .bool false) (by rw [Ze, Zn n53]; exact h3') rfl) (wpList_nil ⟨rfl, rfl, ((hA1.put f4 _).put f5 _).put f6 _, ?_, ((hsb1.put (.inr (.inr (.inr (.inl rfl)))) _).put (.inr (.inr (.inr (.inr (.inl rfl))))) _).put (.inr (.inr (.inr (.inr (.inr rfl))))) _⟩)
   rw [Zq (by simp only [Zs]; rw [q1]; exact z6), decide_eq_false hv]; rfl
 ·rintro e a' w' ⟨rfl, rfl, h1, h2, h3⟩
  refine ⟨rfl, rfl, h1, h2, h3.mono fun t ht => ?_⟩
  rcases ht with rfl | rfl | rfl | rfl | rfl | rfl <;> simp [W, writes]
theorem preD_stable {σ : St} {i : Nat} {E : Int -> Bool -> Tr -> List UInt8} : Stable (preD σ i E) [σ.s] := by
 rintro x a a' w w' bs hr hm ⟨F, blk, off, v, h1, h2, h3, h4, h5⟩
 exact ⟨F, blk, off, v, (hr σ.s (by simp)).trans h1, h2.later hm (fun e => by omega) (fun k hk e => by have := h3 k hk; omega), h3, h4, h5⟩
theorem hadW_not {k fr to nl tg d o : Int} {sub : List FD} {v : Int} (h : v < fr \/ (0 <= to /\ to < v)) : hadW (.mk k fr to nl tg d o sub) v = false := by
 rw [Bool.eq_false_iff]
 intro hc
 replace hc : (decide (tg < 0) && (decide (fr <= v) && (decide (to < 0) || decide (v <= to)))) = true := hc
 simp only [Bool.and_eq_true, Bool.or_eq_true, decide_eq_true_eq] at hc
 omega
theorem preH_stable {σ : St} {i : Nat} {f : FD} : Stable (preH σ i f) [σ.s] := preD_stable
theorem emit_lacks {σ : St} {i : Nat} {f : FD} (hh : ∀ v l, ok v l -> hadW f v = false) : Emit P Γ ok .skip (preH σ i f) := by
 refine emit_skip ?_
 rintro x a w bs ho ⟨F, blk, off, v, h1, h2, h3, h4, h5⟩
 simpa [hh _ _ ho] using h5
theorem emit_fields {σ : St} {i o : Nat} {f : FD} {fs : List FD} {ty : Ty} (hat : σ.lay.at i = some (o, ty)) (h1 : Emit P Γ ok c1 (preH σ i f)) (h2 : Emit P Γ ok c2 (preS σ (i + 1) fs)) (hl : leaves c1 [σ.s] = true) : Emit P Γ ok (.seq c1 c2) (preS σ i (f :: fs)) :=
 emit_mono (emit_seq h1 h2 preS_stable hl) fun x a w bs _ hp => preS_split hat hp
end
section
variable {P : Program} {Γ : Wl} {ok ok' : OkV} {id id' i0 i1 i2 i3 b0 b1 : Nat} {c c0 c1 c2 : Code} {pre p1 p2 : Pre} {rs : List Nat} {q : Int -> Bool -> Bool}
 {y1 y2 y3 y4 y5 y6 y7 y8 y9 yg yh yg' yh' z1 z2 z3 z4 z5 z6 : TypeId} {s1 s2 s3 s4 s5 s6 s7 s8 s9 r1 r2 r3 r4 r5 r6 : String} {e1 e2 e3 e4 e5 e6 e7 e8 e9 f1 f2 f3 f4 f5 f6 : Array Edge} {ts ts' ts1 ts2 : Array TypeId} {u t t1 t2 t3 t4 t5 t6 t7 t8 t9 tv : Nat} {k : Int} {d1 d2 d3 d4 d5 : Nat}
theorem ListV.shape {w : World} {F : Nat -> Prop} {e : Ty} {sz : Nat} {v : Value} {l : List Tr} (h : ListV w F e sz v l) : ∃ ao cap, v = .slice ao l.length cap /\ l.length <= 4294967295 /\ (ao = none -> l = []) := by
 rcases h with ⟨rfl, rfl⟩ | ⟨f, ⟨k, cap, C, tc, _, e, _⟩, h2, _⟩
 ·exact ⟨none, 0, rfl, by simp, fun _ => rfl⟩
 ·exact ⟨_, cap, e, h2, fun h => by cases h⟩
/-- the things of a list are to be written -/
def preR (tv : Nat) (e : Ty) (sz : Nat) (E : Int -> Bool -> Tr -> List UInt8) : Pre := fun x a w bs => ∃ F l, ListV w F e sz (Act.get a tv) l /\ (∀ k, F k -> k < x.base) /\ bs = l.flatMap (E x.ver x.flex)
theorem preR_stable {e : Ty} {sz : Nat} {E : Int -> Bool -> Tr -> List UInt8} : Stable (preR tv e sz E) [tv] := by
 rintro x a a' w w' bs hr hm ⟨F, l, h1, h2, h3⟩
 refine ⟨F, l, ?_, h2, h3⟩
 rw [hr tv (by simp)]
 exact h1.mod hm (fun k hk e => by have := h2 k hk; omega)
/-- a thing of a list is to be written -/
def preE (tv tI : Nat) (e : Ty) (sz : Nat) (E : Int -> Bool -> Tr -> List UInt8) : Pre := fun x a w bs => ∃ (F : Nat -> Prop) (l : List Tr) (f : Nat -> Nat -> Value) (j : Nat), RowsAt w F (Act.get a tv) l.length sz f /\ ∃ hj : j < l.length, Rep w F e (f j) l[j] /\ (∀ k, F k -> k < x.base) /\ Act.get a tI = .int .i64 (j : Nat) /\ bs = E x.ver x.flex l[j]
theorem emit_loop {LT sz : Nat} {e : Ty} {E : Int -> Bool -> Tr -> List UInt8} {tA tn ti tc td tE tI : Nat} {cb : Code} (h : Emit P Γ ok cb (preE tv tI e sz E))
  (hI : (elemSize P LT).isSome = true) (hts : ts[0]? = some LT)
  (hs : (Γ.free tv && Γ.free tA && Γ.free tn && Γ.free ti && Γ.free tc && Γ.free td && Γ.free tE && Γ.free tI && ([tA, tn, ti, tc, td, tE, tI].all fun t => t != tv) && [tA, tn, ti, tc, td, tE, tI].all (fun t => !(writes cb).contains t) && !(writes cb).contains tv && tn != ti && tn != tc && tn != td && tn != tE && tn != tI && tc != ti && tc != td && ti != td && tE != ti && tI != ti) = true) :
  Emit P Γ ok (.seq (.region i0 #[⟨some tA, .move (.tmp tv), y1, s1, e1, none⟩, ⟨some tn, .call ⟨.builtin .len, #[.tmp tA], ts⟩, y2, s2, e2, none⟩, ⟨some ti, .move (.const (.int .i64 0)), y3, s3, e3, none⟩] false)
   (.block b0 (.loop (.seq (.region i1 #[⟨some tc, .binOp .lss yg (.tmp ti) (.tmp tn) yh, y4, s4, e4, none⟩] false) (.seq (.cond (.tmp tc) .skip (.exit b0))
    (.seq (.block b1 (.seq (.region i2 #[⟨some tE, .move (.tmp ti), y5, s5, e5, none⟩, ⟨some tI, .assign (.tmp tE), y6, s6, e6, none⟩] false) cb)) (.region i3 #[⟨some td, .binOp .add yg' (.tmp ti) (.const (.int .i64 1)) yh', y7, s7, e7, none⟩, ⟨some ti, .move (.tmp td), y8, s8, e8, none⟩] false)))))))
   (preR tv e sz E) := by
 rintro x bs out a w ho hA ⟨F, l, hL, hF, rfl⟩ hl
 simp only [Bool.and_eq_true, Bool.not_eq_true', bne_iff_ne, List.all_cons, List.all_nil, and_true] at hs
 obtain ⟨⟨⟨⟨⟨⟨⟨⟨⟨⟨⟨⟨⟨⟨⟨⟨⟨⟨⟨⟨gv, gA⟩, gn⟩, gi⟩, gc⟩, gd⟩, gE⟩, gI⟩, vA, vn, vi, vc, vd, vE, vI⟩, wA, wn, wi, wc, wd, wE, wI⟩, wv⟩, nni⟩, nnc⟩, nnd⟩, nnE⟩, nnI⟩, nci⟩, ncd⟩, nid⟩, nEi⟩, nIi⟩ := hs
 obtain ⟨ao, cap, hv, hln, hnil⟩ := hL.shape
 have L : ∀ {t}, Γ.free t = true -> t < a.tmps.size := fun h => hA.lt h
 refine wp_seq (wp_region_lit (Zv rfl Zm (Zv rfl (x_len (n := l.length) (cap := cap) (ao := ao) hI hts ?_) (Zv rfl Zm (wpList_nil ?_)))))
 ·rw [Ze, Zq (L gA), Ze, hv]
 obtain ⟨a0, ha0⟩ : ∃ a0, a0 = ((a.put (some tA) (a.eval (.tmp tv))).put (some tn) (.int .i64 l.length)).put (some ti) (.int .i64 0) := ⟨_, rfl⟩
 have hA0 : WA Γ x out a0 w := by rw [ha0]; exact ((hA.put gA _).put gn _).put gi _
 have k0 : Act.get a0 tn = .int .i64 (l.length : Nat) := by rw [ha0, Zn (Ne.symm nni), Zq (by rw [Zs]; exact L gn)]
 have k1 : Act.get a0 ti = .int .i64 0 := by rw [ha0, Zq (by simp only [Zs]; exact L gi)]
 have k2 : Act.get a0 tv = Act.get a tv := by rw [ha0, Zn vi, Zn vn, Zn vA]
 have ksz : a0.tmps.size = a.tmps.size := by rw [ha0]; simp only [Zs]
 have hsb0 : SameBut (fun t => t ∈ [tA, tn, ti]) a a0 := by rw [ha0]; exact (((SameBut.refl a).put (by simp) _).put (by simp) _).put (by simp) _
 rw [show ((a.put (some tA) (a.eval (.tmp tv))).put (some tn) (.int .i64 l.length)).put (some ti) (Act.eval ((a.put (some tA) (a.eval (.tmp tv))).put (some tn) (.int .i64 l.length)) (.const (.int .i64 0))) = a0 from ha0.symm]
 clear ha0
 simp only [Exit.then]
 have hin : ∀ {t : Nat} {l' : List Nat}, l'.contains t = false -> ¬ t ∈ l' := fun h hm => by rw [List.contains_iff_mem.2 hm] at h; cases h
 refine wp_block (wp_range (S := [tc, ti, td, tE, tI] ++ writes cb) (fun i a' w' => WA Γ x (out ++ (l.take i).flatMap (E x.ver x.flex)) a' w' /\ Mod (fun k => x.base <= k) w w') ?_ k0 (by omega) k1 ⟨?_, .refl w⟩ ?_ ?_ ?_)
 ·have f1 : tn ≠ 1 := (Wl.free_spec gn).2.1
  have g : ([tc, ti, td, tE, tI] ++ writes cb).contains tn = false := by
   rw [Bool.eq_false_iff]; intro hc
   have := List.contains_iff_mem.1 hc
   simp only [List.mem_append, List.mem_cons, List.not_mem_nil, or_false] at this
   rcases this with h | h
   ·rcases h with h | h | h | h | h
    ·exact nnc h
    ·exact nni h
    ·exact nnd h
    ·exact nnE h
    ·exact nnI h
   ·exact hin wn h
  simp only [Bool.and_eq_true, Bool.not_eq_true', bne_iff_ne, decide_eq_true_eq]
  exact ⟨⟨⟨⟨⟨⟨⟨⟨⟨by simp, by simp⟩, by simp⟩, g⟩, nci⟩, ncd⟩, nid⟩, by rw [ksz]; exact L gc⟩, by rw [ksz]; exact L gi⟩, by rw [ksz]; exact L gd⟩
 ·simpa using hA0
 ·rintro i b b' w' hsb ⟨h1, h2⟩
  exact ⟨h1.same hsb (by simp [gc, gi, gd]), h2⟩
 ·rintro i b w' hi hsb hti ⟨hW, hm⟩
  have hbs := hsb.size
  have Lb : ∀ {t}, Γ.free t = true -> t < b.tmps.size := fun h => by rw [hbs, ksz]; exact L h
  have vin : ¬ tv ∈ [tc, ti, td, tE, tI] ++ writes cb := by
   intro hm
   simp only [List.mem_append, List.mem_cons, List.not_mem_nil, or_false] at hm
   rcases hm with h | h
   ·rcases h with h | h | h | h | h
    ·exact vc h.symm
    ·exact vi h.symm
    ·exact vd h.symm
    ·exact vE h.symm
    ·exact vI h.symm
   ·exact hin wv h
  refine wp_seq (wp_region_lit (Zv rfl Zm (Zv rfl Zi (wpList_nil ?_))))
  simp only [Exit.then]
  have q1 : Act.get ((b.put (some tE) (b.eval (.tmp ti))).put (some tI) (Act.eval (b.put (some tE) (b.eval (.tmp ti))) (.tmp tE))) tI = .int .i64 (i : Nat) := by
   rw [Zq (by rw [Zs]; exact Lb gI), Ze, Zq (Lb gE), Ze, hti]
  have q2 : Act.get ((b.put (some tE) (b.eval (.tmp ti))).put (some tI) (Act.eval (b.put (some tE) (b.eval (.tmp ti))) (.tmp tE))) tv = Act.get a tv := by
   rw [Zn vI, Zn vE, hsb.get _ vin, k2]
  have q3 : Act.get ((b.put (some tE) (b.eval (.tmp ti))).put (some tI) (Act.eval (b.put (some tE) (b.eval (.tmp ti))) (.tmp tE))) ti = .int .i64 (i : Nat) := by
   rw [Zn nIi, Zn nEi, hti]
  have q4 := (hW.put gE (b.eval (.tmp ti))).put gI (Act.eval (b.put (some tE) (b.eval (.tmp ti))) (.tmp tE))
  have q5 : SameBut (fun t => t ∈ [tc, ti, td, tE, tI] ++ writes cb) a0 ((b.put (some tE) (b.eval (.tmp ti))).put (some tI) (Act.eval (b.put (some tE) (b.eval (.tmp ti))) (.tmp tE))) := (hsb.put (by simp) _).put (by simp) _
  generalize (b.put (some tE) (b.eval (.tmp ti))).put (some tI) (Act.eval (b.put (some tE) (b.eval (.tmp ti))) (.tmp tE)) = b2 at *
  have hL' := hL.mod hm (fun k hk e => by have := hF k hk; omega)
  rcases hL' with ⟨_, h0⟩ | ⟨f, r1, r2, r3⟩
  ·rw [h0] at hi; simp at hi
  have htk : l.take (i + 1) = l.take i ++ [l[i]] := List.take_succ_eq_append_getElem hi
  have hlen : (out ++ (l.take i).flatMap (E x.ver x.flex)).length + (E x.ver x.flex l[i]).length <= 4294967296 := by
   have hd : l = l.take (i + 1) ++ l.drop (i + 1) := (List.take_append_drop _ _).symm
   rw [hd, htk] at hl
   simp only [List.flatMap_append, List.flatMap_cons, List.flatMap_nil, List.append_nil, List.length_append] at hl ⊢
   omega
  refine wp_mono (h x _ _ b2 w' ho q4 ⟨F, l, f, i, by rw [q2]; exact r1, hi, r3 i hi, hF, q1, rfl⟩ hlen) ?_
  rintro e' a2 w2 ⟨rfl, g1, g2, g3⟩
  refine Round.next ⟨?_, ?_, ?_, hm.trans g3⟩
  ·exact q5.trans (g2.mono fun t ht => List.mem_append_right _ ht)
  ·rw [g2.get ti (hin wi)]; exact q3
  ·rw [htk, List.flatMap_append, <- List.append_assoc]
   simpa using g1
 ·rintro b w' hsb ⟨hW, hm⟩
  rw [List.take_length] at hW
  refine ⟨rfl, hW, ?_, hm⟩
  refine (hsb0.mono fun t ht => ?_).trans (hsb.mono fun t ht => ?_)
  ·simp only [W, writes, List.mem_append] at *
   left; simp only [List.mem_cons, List.not_mem_nil, or_false] at ht
   rcases ht with rfl | rfl | rfl <;> simp
  ·simp only [W, writes, List.mem_append, List.mem_cons, List.not_mem_nil, or_false] at *
   rcases ht with (rfl | rfl | rfl | rfl | rfl) | ht <;> simp [*]
/-- how many things there are is to be written -/
def preC (tv : Nat) (nl : Bool) : Pre := fun x a w bs => ∃ (ao : Option Addr) (n cap : Nat), Act.get a tv = .slice ao n cap /\ n <= 4294967295 /\ bs = if (nl && ao.isNone) = true then nulE x.flex 4 else cntE x.flex n 4
/-- a function that puts a count behind octets -/
def CntC (P : Program) (f : FuncId) (fl : Bool) : Prop := ∀ w base dv out (n : Nat), OwnB w base dv out -> base <= w.heap.size -> out.length + (cntE fl n 4).length <= 4294967296 -> PutC P f #[dv, .int .i64 n] w base dv out (cntE fl n 4)
theorem emit_cnt {f LT : Nat} {fl : Bool} (hc : CntC P f fl) (hb : bodied P f = true) (hI : (elemSize P LT).isSome = true) (hts : ts[0]? = some LT) (hs : (Γ.ok && Γ.free t1 && Γ.free t2 && Γ.free t3 && Γ.free t4 && t1 != t2 && t1 != t3 && tv != t1) = true) (ho : ∀ v l, ok v l -> l = fl) :
  Emit P Γ ok (.region id #[⟨some t1, .move (.tmp 1), y1, s1, e1, none⟩, ⟨some t2, .move (.tmp tv), y2, s2, e2, none⟩, ⟨some t3, .call ⟨.builtin .len, #[.tmp t2], ts⟩, y3, s3, e3, none⟩, ⟨some t4, .call ⟨.value (.func f), #[.tmp t1, .tmp t3], ts'⟩, y4, s4, e4, none⟩, ⟨some 1, .assign (.tmp t4), y5, s5, e5, none⟩] false) (preC tv false) := by
 rintro x bs out a w hok' hA ⟨ao, n, cap, hv, hn, rfl⟩ hl
 simp only [Bool.and_eq_true, bne_iff_ne] at hs
 obtain ⟨⟨⟨⟨⟨⟨⟨hok, f1⟩, f2⟩, f3⟩, f4⟩, n12⟩, n13⟩, nv1⟩ := hs
 have e := ho _ _ hok'
 simp only [Bool.false_and, Bool.false_eq_true, if_false, e] at hl ⊢
 refine wp_region_lit (Zv rfl Zm (Zv rfl Zm (Zv rfl (x_len (n := n) (cap := cap) (ao := ao) hI hts ?_) (wpl_call rfl (Zy hb rfl) (R := fun e w' => ∃ z, e = .returned z /\ OwnB w' x.base z (out ++ cntE fl n 4) /\ Fine (Act.get a 1) z w w') ?_ ?_))))
 ·rw [Ze, Zq (by rw [Zs]; exact hA.lt f2), Ze, Zn (Ne.symm nv1), hv]
 ·rw [show ∀ a : Act, (#[Operand.tmp t1, .tmp t3] : Array Operand).map a.eval = #[Act.get a t1, Act.get a t3] from fun a => by simp [Ze]]
  rw [Zq (by simp only [Zs]; exact hA.lt f3), Zn (Ne.symm n13), Zn (Ne.symm n12), Zq (hA.lt f1), Ze]
  exact (hc w x.base _ out n hA.dst hA.base hl).out
 rintro e w' ⟨v', rfl, k1, k2⟩
 refine ⟨_, rfl, Zv rfl Zi (wpList_nil ⟨rfl, ?_, ?_, k2.low hA.dst⟩)⟩
 ·refine ((((hA.put f1 _).put f2 _).put f3 _).put f4 _).setD hok (w' := w') ?_ (by have := k2.size; have := hA.base; omega)
  rw [Ze, Zq (by simp only [Zs]; exact hA.lt f4)]
  exact k1
 ·exact (((((SameBut.refl a).put (by simp [W, writes]) _).put (by simp [W, writes]) _).put (by simp [W, writes]) _).put (by simp [W, writes]) _).put (by simp [W, writes]) _
theorem preC_stable {nl : Bool} : Stable (preC tv nl) [tv] := by
 rintro x a a' w w' bs hr hm ⟨ao, n, cap, h1, h2, h3⟩
 exact ⟨ao, n, cap, (hr tv (by simp)).trans h1, h2, h3⟩
/-- a list: its count, its things -/
def listE (nl : Bool) (E : Int -> Bool -> Tr -> List UInt8) : Int -> Bool -> Tr -> List UInt8 := fun ver fl x => if (nl && x.Z) = true then nulE fl 4 else cntE fl x.L.length 4 ++ x.L.flatMap (E ver fl)
theorem emit_list {e : Ty} {sz : Nat} {nl : Bool} {E : Int -> Bool -> Tr -> List UInt8} (h1 : Emit P Γ ok c1 (preC tv nl)) (h2 : Emit P Γ ok c2 (preR tv e sz E)) (hl : leaves c1 [tv] = true) : Emit P Γ ok (.seq c1 c2) (preV tv (.list e sz) (listE nl E)) := by
 refine emit_mono (emit_seq h1 h2 preR_stable hl) ?_
 rintro x a w bs ho ⟨F, t, hr, hF, rfl⟩
 rcases hr with ⟨_, _, hr⟩ | ⟨h, _⟩
 ·simp only [Rep] at hr
  rcases hr with ⟨hv, rfl⟩ | ⟨l, f, hR, hb, hel, rfl⟩
  ·refine ⟨if nl = true then nulE x.flex 4 else cntE x.flex 0 4, [], ?_, ⟨none, 0, 0, hv, by omega, by simp⟩, ⟨F, [], .inl ⟨hv, rfl⟩, hF, rfl⟩⟩
   simp only [listE, Tr.Z_nul, Tr.L_nul, Bool.and_true, List.flatMap_nil, List.append_nil, List.length_nil]
  ·obtain ⟨k, cap, C, tc, q1, q2, q3⟩ := hR
   refine ⟨cntE x.flex l.length 4, l.flatMap (E x.ver x.flex), ?_, ⟨_, l.length, cap, q2, hb, by simp⟩, ⟨F, l, .inr ⟨f, ⟨k, cap, C, tc, q1, q2, q3⟩, hb, hel⟩, hF, rfl⟩⟩
   simp only [listE, Tr.Z_list, Tr.L_list, Bool.and_false, Bool.false_eq_true, if_false]
 ·cases h
/-- what is written of a struct -/
def structW (fs : List FD) : Int -> Bool -> Tr -> List UInt8 := fun ver fl x => encsW fs ver fl x.L ++ (if fl then tagsE x.U else [])
/-- a thing of a list that is a struct -/
theorem emit_els {LT tI sz : Nat} {σe : St} {fs : List FD} (h : Emit P Γ ok c (preS σe 0 fs)) (hz : elemSize P LT = some sz) (hsz : σe.sz = sz) (hoke : (Ty.struct σe.lay σe.tg σe.sz).ok = true) (hs : (Γ.free t1 && Γ.free t2 && Γ.free t3 && Γ.free σe.s && t1 != t2 && tI != t1) = true) :
  Emit P Γ ok (.seq (.region id #[⟨some t1, .move (.tmp tv), y1, s1, e1, none⟩, ⟨some t2, .move (.tmp tI), y2, s2, e2, none⟩, ⟨some t3, .indexAddr LT (.tmp t1) (.tmp t2), y3, s3, e3, none⟩, ⟨some σe.s, .assign (.tmp t3), y5, s5, e5, none⟩] false) c) (preE tv tI (.struct σe.lay σe.tg σe.sz) sz (structW fs)) := by
 rintro x bs out a w ho hA ⟨F, l, f, j, hR, hj, hrep, hF, hI, rfl⟩ hl
 simp only [Bool.and_eq_true, bne_iff_ne] at hs
 obtain ⟨⟨⟨⟨⟨f1, f2⟩, f3⟩, fw⟩, n12⟩, nI1⟩ := hs
 obtain ⟨k, cap, C, tc, q1, q2, q3, q4, q5, q6, q7⟩ := hR
 obtain ⟨vs, u, hpart⟩ : ∃ vs u, l[j] = .part vs u := by simp only [Rep] at hrep; obtain ⟨vs, u, _, _, h⟩ := hrep; exact ⟨vs, u, h⟩
 have hC : Cur σe F k (0 + j * sz) (vs, u) w := cur_row q5 q6 q3 hj hsz hoke q7 (by rw [<- hpart]; exact hrep) (.refl w)
 refine wp_seq (wp_region_lit (Zv rfl Zm (Zv rfl Zm (Zv rfl (Zx (b := k) (o := 0) (n := l.length) (cap := cap) (i := j) (sz := sz) (k := .i64) hz ?_ ?_ hj) (Zv rfl Zi (wpList_nil ?_))))))
 ·rw [Ze, Zn (Ne.symm n12), Zq (hA.lt f1), Ze, q2]
 ·rw [Ze, Zq (by rw [Zs]; exact hA.lt f2), Ze, Zn (Ne.symm nI1), hI]
 have hb : structW fs x.ver x.flex l[j] = encsW fs x.ver x.flex ((vs, u) : SV).1 ++ (if x.flex then tagsE ((vs, u) : SV).2 else []) := by rw [hpart]; rfl
 refine wp_mono (h x _ out _ w ho ((((hA.put f1 _).put f2 _).put f3 _).put fw _) ⟨F, k, 0 + j * sz, (vs, u), ?_, hC, hF, hF _ q1, by rw [hb]; rfl⟩ hl) ?_
 ·rw [Zq (by simp only [Zs]; exact hA.lt fw), Ze, Zq (by simp only [Zs]; exact hA.lt f3)]
 rintro e a2 w2 ⟨rfl, g1, g2, g3⟩
 refine ⟨rfl, g1, ?_, g3⟩
 refine SameBut.trans ?_ (g2.mono fun t ht => by simp only [W, writes, List.mem_append] at *; exact .inr ht)
 exact ((((SameBut.refl a).put (by simp [W, writes]) _).put (by simp [W, writes]) _).put (by simp [W, writes]) _).put (by simp [W, writes]) _
end
end Go.Proofs.Ythkpmmjcmldjhaa
set_option linter.unusedSimpArgs false
set_option linter.unusedVariables false
namespace Go.Proofs.Ythkpmmjcmldjhaa
open Go Go.RowKit
/-- what is put behind octets of a text that may be none -/
def nstrE (fl : Bool) : Option (List UInt8) -> List UInt8
 | none => nulE fl 2
 | some bs => cntE fl bs.length 2 ++ bs
set_option maxRecDepth 100000 in
theorem app_nstr {w : World} {base : Nat} {dv v : Value} {out : List UInt8} {o : Option (List UInt8)} {F : Nat -> Prop} (hown : OwnB w base dv out) (hb : base <= w.heap.size) (ho : PStr w F v o) (hF : ∀ k, F k -> k < base) (hl : out.length + (nstrE false o).length <= 4294967296) :
  PutC Try.prog 102 #[dv, v] w base dv out (nstrE false o) := by
 refine calls_of_wp Try.func102 rfl ?_
 rw [Try.ntmps102]
 refine wp_act (fun a : Act => Act.get a 0 = dv /\ Act.get a 1 = v /\ a.tmps.size = 14 /\ a.defers = []) ⟨by rw [Zj _ _ _ (by simp)]; rfl, by rw [Zj _ _ _ (by simp)]; rfl, by simp, rfl⟩ ?_
 rintro a ⟨a0, a1, aN, ad⟩
 refine wp_seq (wp_region_lit (Zv rfl Zi (wpList_nil ?_)))
 obtain ⟨pa, hpa, hno⟩ : ∃ pa, v = .pointer pa /\ pa.isNone = o.isNone := by
  cases o with
  | none => exact ⟨none, ho, rfl⟩
  | some bs => obtain ⟨k, t, _, h, _⟩ := ho; exact ⟨_, h, rfl⟩
 refine wp_seq (wp_seq (wp_region_lit (Zv rfl Zm (Zv rfl (x_eqlPtr (m := pa) (by kernel_rfl) (fun _ => rfl) ?_) (wpList_nil ?_)))))
 ·simp (disch := first | omega | simp only [Zs]; omega) only [Zo, Ze, Zn, Zq, a1]
  exact hpa
 rw [hno]
 refine wp_act (fun a : Act => Act.get a 0 = dv /\ Act.get a 1 = v /\ Act.get a 6 = .bool o.isNone /\ a.tmps.size = 14 /\ a.defers = []) ⟨?_, ?_, ?_, ?_, ?_⟩ ?_
 ·simp (disch := first | omega | simp only [Zs]; omega) only [Zo, Ze, Zn, Zq, a0]
 ·simp (disch := first | omega | simp only [Zs]; omega) only [Zo, Ze, Zn, Zq, a1]
 ·simp (disch := first | omega | simp only [Zs]; omega) only [Zo, Ze, Zn, Zq]
 ·simp only [Zs]; exact aN
 ·simp only [Zd]; exact ad
 clear a0 a1 aN ad a
 rintro a ⟨a0, a1, a6, aN, ad⟩
 cases o with
 | none =>
  refine wp_cond_true (by rw [Ze]; exact a6) (wp_seq (wp_region_lit (Zv rfl Zm (wpl_call rfl (Zy (by kernel_rfl) rfl) (R := fun e w' => ∃ v, e = .returned v /\ OwnB w' base v (out ++ nulE false 2) /\ Fine dv v w w') ?_ ?_))))
  ·rw [show ∀ (a : Act) u, (#[Operand.tmp 7, .const u] : Array Operand).map a.eval = #[Act.get a 7, u] from fun a u => by simp [Ze]; rfl]
   simp (disch := first | omega | simp only [Zs]; omega) only [Zo, Ze, Zn, Zq, a0]
   exact (app_i16 (n := -1) hown hb hl).out
  rintro e w1 ⟨v1, rfl, k1, k2⟩
  refine ⟨_, rfl, Zv rfl Zi (wpList_nil (wp_ret ?_))⟩
  simp only [Exit.then, Exit.inBlock]
  refine bodyPost_ret (results_tmp rfl _ _ _) ?_ ⟨_, rfl, ?_, ?_⟩
  ·simp only [Zd]; exact ad
  ·rw [show ∀ (a : Act), a.tmps.getD 4 undef = Act.get a 4 from fun _ => rfl]
   simp (disch := first | omega | simp only [Zs]; omega) only [Zo, Ze, Zn, Zq]
   exact k1
  ·rw [show ∀ (a : Act), a.tmps.getD 4 undef = Act.get a 4 from fun _ => rfl]
   simp (disch := first | omega | simp only [Zs]; omega) only [Zo, Ze, Zn, Zq]
   exact k2
 | some bs =>
  obtain ⟨kb, tb, hk, hvp, hkb⟩ := ho
  refine wp_cond_false (by rw [Ze]; exact a6) (wp_skip ?_)
  simp only [Exit.then, Exit.inBlock]
  refine wp_seq (wp_region_lit (Zv rfl Zm (Zv rfl Zm (Zv rfl (x_nilCheck (q := ⟨kb, 0, none⟩) ?_) (Zv rfl (Zl (by kernel_rfl) (b := kb) (o := 0) (v := .string (str bs)) ?_ (by rw [Zc hkb]; rfl)) (wpl_call rfl (Zy (by kernel_rfl) rfl) (R := fun e w' => ∃ v, e = .returned v /\ OwnB w' base v (out ++ (cntE false bs.length 2 ++ bs)) /\ Fine dv v w w') ?_ ?_))))))
  ·simp (disch := first | omega | simp only [Zs]; omega) only [Zo, Ze, Zn, Zq, a1]
   exact hvp
  ·simp (disch := first | omega | simp only [Zs]; omega) only [Zo, Ze, Zn, Zq]
  ·rw [show ∀ a : Act, (#[Operand.tmp 9, .tmp 12] : Array Operand).map a.eval = #[Act.get a 9, Act.get a 12] from fun a => by simp [Ze]]
   simp (disch := first | omega | simp only [Zs]; omega) only [Zo, Ze, Zn, Zq, a0]
   exact (app_str hown hb hl).out
  rintro e w1 ⟨v1, rfl, k1, k2⟩
  refine ⟨_, rfl, Zv rfl Zi (wpList_nil (wp_ret ?_))⟩
  refine bodyPost_ret (results_tmp rfl _ _ _) ?_ ⟨_, rfl, ?_, ?_⟩
  ·simp only [Zd]; exact ad
  ·rw [show ∀ (a : Act), a.tmps.getD 4 undef = Act.get a 4 from fun _ => rfl]
   simp (disch := first | omega | simp only [Zs]; omega) only [Zo, Ze, Zn, Zq]
   exact k1
  ·rw [show ∀ (a : Act), a.tmps.getD 4 undef = Act.get a 4 from fun _ => rfl]
   simp (disch := first | omega | simp only [Zs]; omega) only [Zo, Ze, Zn, Zq]
   exact k2
set_option maxRecDepth 100000 in
theorem app_cnstr {w : World} {base : Nat} {dv v : Value} {out : List UInt8} {o : Option (List UInt8)} {F : Nat -> Prop} (hown : OwnB w base dv out) (hb : base <= w.heap.size) (ho : PStr w F v o) (hF : ∀ k, F k -> k < base) (hl : out.length + (nstrE true o).length <= 4294967296) :
  PutC Try.prog 101 #[dv, v] w base dv out (nstrE true o) := by
 refine calls_of_wp Try.func101 rfl ?_
 rw [Try.ntmps101]
 refine wp_act (fun a : Act => Act.get a 0 = dv /\ Act.get a 1 = v /\ a.tmps.size = 14 /\ a.defers = []) ⟨by rw [Zj _ _ _ (by simp)]; rfl, by rw [Zj _ _ _ (by simp)]; rfl, by simp, rfl⟩ ?_
 rintro a ⟨a0, a1, aN, ad⟩
 refine wp_seq (wp_region_lit (Zv rfl Zi (wpList_nil ?_)))
 obtain ⟨pa, hpa, hno⟩ : ∃ pa, v = .pointer pa /\ pa.isNone = o.isNone := by
  cases o with
  | none => exact ⟨none, ho, rfl⟩
  | some bs => obtain ⟨k, t, _, h, _⟩ := ho; exact ⟨_, h, rfl⟩
 refine wp_seq (wp_seq (wp_region_lit (Zv rfl Zm (Zv rfl (x_eqlPtr (m := pa) (by kernel_rfl) (fun _ => rfl) ?_) (wpList_nil ?_)))))
 ·simp (disch := first | omega | simp only [Zs]; omega) only [Zo, Ze, Zn, Zq, a1]
  exact hpa
 rw [hno]
 refine wp_act (fun a : Act => Act.get a 0 = dv /\ Act.get a 1 = v /\ Act.get a 6 = .bool o.isNone /\ a.tmps.size = 14 /\ a.defers = []) ⟨?_, ?_, ?_, ?_, ?_⟩ ?_
 ·simp (disch := first | omega | simp only [Zs]; omega) only [Zo, Ze, Zn, Zq, a0]
 ·simp (disch := first | omega | simp only [Zs]; omega) only [Zo, Ze, Zn, Zq, a1]
 ·simp (disch := first | omega | simp only [Zs]; omega) only [Zo, Ze, Zn, Zq]
 ·simp only [Zs]; exact aN
 ·simp only [Zd]; exact ad
 clear a0 a1 aN ad a
 rintro a ⟨a0, a1, a6, aN, ad⟩
 cases o with
 | none =>
  refine wp_cond_true (by rw [Ze]; exact a6) (wp_seq (wp_region_lit (Zv rfl Zm (wpl_call rfl (Zy (by kernel_rfl) rfl) (R := fun e w' => ∃ v, e = .returned v /\ OwnB w' base v (out ++ nulE true 2) /\ Fine dv v w w') ?_ ?_))))
  ·rw [show ∀ (a : Act) u, (#[Operand.tmp 7, .const u] : Array Operand).map a.eval = #[Act.get a 7, u] from fun a u => by simp [Ze]; rfl]
   simp (disch := first | omega | simp only [Zs]; omega) only [Zo, Ze, Zn, Zq, a0]
   have e : uvE 0 = [0] := by rw [uvE_small (by decide)]; rfl
   have h := app_uv (n := 0) (by decide) hown hb (by rw [e]; exact hl)
   rw [e] at h
   exact h.out
  rintro e w1 ⟨v1, rfl, k1, k2⟩
  refine ⟨_, rfl, Zv rfl Zi (wpList_nil (wp_ret ?_))⟩
  simp only [Exit.then, Exit.inBlock]
  refine bodyPost_ret (results_tmp rfl _ _ _) ?_ ⟨_, rfl, ?_, ?_⟩
  ·simp only [Zd]; exact ad
  ·rw [show ∀ (a : Act), a.tmps.getD 4 undef = Act.get a 4 from fun _ => rfl]
   simp (disch := first | omega | simp only [Zs]; omega) only [Zo, Ze, Zn, Zq]
   exact k1
  ·rw [show ∀ (a : Act), a.tmps.getD 4 undef = Act.get a 4 from fun _ => rfl]
   simp (disch := first | omega | simp only [Zs]; omega) only [Zo, Ze, Zn, Zq]
   exact k2
 | some bs =>
  obtain ⟨kb, tb, hk, hvp, hkb⟩ := ho
  refine wp_cond_false (by rw [Ze]; exact a6) (wp_skip ?_)
  simp only [Exit.then, Exit.inBlock]
  refine wp_seq (wp_region_lit (Zv rfl Zm (Zv rfl Zm (Zv rfl (x_nilCheck (q := ⟨kb, 0, none⟩) ?_) (Zv rfl (Zl (by kernel_rfl) (b := kb) (o := 0) (v := .string (str bs)) ?_ (by rw [Zc hkb]; rfl)) (wpl_call rfl (Zy (by kernel_rfl) rfl) (R := fun e w' => ∃ v, e = .returned v /\ OwnB w' base v (out ++ (cntE true bs.length 2 ++ bs)) /\ Fine dv v w w') ?_ ?_))))))
  ·simp (disch := first | omega | simp only [Zs]; omega) only [Zo, Ze, Zn, Zq, a1]
   exact hvp
  ·simp (disch := first | omega | simp only [Zs]; omega) only [Zo, Ze, Zn, Zq]
  ·rw [show ∀ a : Act, (#[Operand.tmp 9, .tmp 12] : Array Operand).map a.eval = #[Act.get a 9, Act.get a 12] from fun a => by simp [Ze]]
   simp (disch := first | omega | simp only [Zs]; omega) only [Zo, Ze, Zn, Zq, a0]
   exact (app_cstr hown hb hl).out
  rintro e w1 ⟨v1, rfl, k1, k2⟩
  refine ⟨_, rfl, Zv rfl Zi (wpList_nil (wp_ret ?_))⟩
  refine bodyPost_ret (results_tmp rfl _ _ _) ?_ ⟨_, rfl, ?_, ?_⟩
  ·simp only [Zd]; exact ad
  ·rw [show ∀ (a : Act), a.tmps.getD 4 undef = Act.get a 4 from fun _ => rfl]
   simp (disch := first | omega | simp only [Zs]; omega) only [Zo, Ze, Zn, Zq]
   exact k1
  ·rw [show ∀ (a : Act), a.tmps.getD 4 undef = Act.get a 4 from fun _ => rfl]
   simp (disch := first | omega | simp only [Zs]; omega) only [Zo, Ze, Zn, Zq]
   exact k2
end Go.Proofs.Ythkpmmjcmldjhaa
set_option linter.unusedSimpArgs false
set_option linter.unusedVariables false
namespace Go.Proofs.Ythkpmmjcmldjhaa
open Go Go.RowKit
theorem av_i16 {null : Int} {fl : Bool} : AppV Try.prog 100 (.int .i16) (leafE 2 null fl) := by
 intro w F base dv out v t hown hb hr hF hl
 rcases hr with ⟨_, _, hr⟩ | ⟨h, _⟩
 ·simp only [Rep] at hr
  obtain ⟨n, rfl, _, rfl⟩ := hr
  have e : leafE 2 null fl (.num n) = fixedE n (width 2) := by simp [leafE, Tr.N_num]
  rw [e] at hl ⊢
  rw [fixedE_length] at hl
  exact app_i16 hown hb hl
 ·cases h
theorem av_str {null : Int} (hn : null < 0) : AppV Try.prog 106 .str (leafE 8 null false) := by
 intro w F base dv out v t hown hb hr hF hl
 rcases hr with ⟨_, _, hr⟩ | ⟨h, _⟩
 ·simp only [Rep] at hr
  obtain ⟨bs, rfl, _, rfl⟩ := hr
  have e : leafE 8 null false (.oct bs) = cntE false bs.length 2 ++ bs := by simp [leafE, Tr.S_oct, Tr.Z_oct]
  rw [e] at hl ⊢
  exact app_str hown hb hl
 ·cases h
theorem av_cstr {null : Int} (hn : null < 0) : AppV Try.prog 105 .str (leafE 8 null true) := by
 intro w F base dv out v t hown hb hr hF hl
 rcases hr with ⟨_, _, hr⟩ | ⟨h, _⟩
 ·simp only [Rep] at hr
  obtain ⟨bs, rfl, _, rfl⟩ := hr
  have e : leafE 8 null true (.oct bs) = cntE true bs.length 2 ++ bs := by simp [leafE, Tr.S_oct, Tr.Z_oct]
  rw [e] at hl ⊢
  exact app_cstr hown hb hl
 ·cases h
theorem av_nstr {null : Int} (hn : 0 <= null) : AppV Try.prog 102 .pstr (leafE 8 null false) := by
 intro w F base dv out v t hown hb hr hF hl
 rcases hr with ⟨_, _, hr⟩ | ⟨h, _⟩
 ·simp only [Rep] at hr
  obtain ⟨o, ho, _, rfl⟩ := hr
  cases o with
  | none =>
   have e : leafE 8 null false (.ofOpt none) = nulE false 2 := by simp [leafE, Tr.ofOpt, Tr.Z_nul, hn]
   rw [e] at hl ⊢
   exact app_nstr (o := none) hown hb ho hF hl
  | some bs =>
   have e : leafE 8 null false (.ofOpt (some bs)) = cntE false bs.length 2 ++ bs := by simp [leafE, Tr.ofOpt, Tr.S_oct, Tr.Z_oct]
   rw [e] at hl ⊢
   exact app_nstr (o := some bs) hown hb ho hF hl
 ·cases h
theorem av_cnstr {null : Int} (hn : 0 <= null) : AppV Try.prog 101 .pstr (leafE 8 null true) := by
 intro w F base dv out v t hown hb hr hF hl
 rcases hr with ⟨_, _, hr⟩ | ⟨h, _⟩
 ·simp only [Rep] at hr
  obtain ⟨o, ho, _, rfl⟩ := hr
  cases o with
  | none =>
   have e : leafE 8 null true (.ofOpt none) = nulE true 2 := by simp [leafE, Tr.ofOpt, Tr.Z_nul, hn]
   rw [e] at hl ⊢
   exact app_cnstr (o := none) hown hb ho hF hl
  | some bs =>
   have e : leafE 8 null true (.ofOpt (some bs)) = cntE true bs.length 2 ++ bs := by simp [leafE, Tr.ofOpt, Tr.S_oct, Tr.Z_oct]
   rw [e] at hl ⊢
   exact app_cnstr (o := some bs) hown hb ho hF hl
 ·cases h
theorem ct_alen : CntC Try.prog 104 false := by
 intro w base dv out n hown hb hl
 exact app_alen hown hb (by simpa [cntE, fixedE_length] using hl)
theorem ct_calen : CntC Try.prog 103 true := by
 intro w base dv out n hown hb hl
 exact app_calen hown hb hl
end Go.Proofs.Ythkpmmjcmldjhaa
set_option linter.unusedSimpArgs false
set_option linter.unusedVariables false
namespace Go.Proofs.Ythkpmmjcmldjhaa
open Go Go.RowKit
theorem spec_end {w1 : World} {b TM : Nat} {x0 x1 y0 y1 : Value} {cells : Array Value} {T : TypeId} (hb : w1.heap[b]? = some (.cells #[x0, x1] TM (0, 0))) :
  (((w1.setCell ⟨b, 0, none⟩ y0).setCell ⟨b, 1, none⟩ y1).alloc (.cells cells T)).heap[b]? = some (.cells #[y0, y1] TM (0, 0)) /\ (((w1.setCell ⟨b, 0, none⟩ y0).setCell ⟨b, 1, none⟩ y1).alloc (.cells cells T)).heap[w1.heap.size]? = some (.cells cells T (0, 0)) /\
  Mod (only b) w1 (((w1.setCell ⟨b, 0, none⟩ y0).setCell ⟨b, 1, none⟩ y1).alloc (.cells cells T)) := by
 have h1 : (w1.setCell ⟨b, 0, none⟩ y0).heap[b]? = some (.cells #[y0, x1] TM (0, 0)) := by
  have := heap_setCell_same (o := 0) hb y0
  simpa using this
 have h2 : ((w1.setCell ⟨b, 0, none⟩ y0).setCell ⟨b, 1, none⟩ y1).heap[b]? = some (.cells #[y0, y1] TM (0, 0)) := by
  have := heap_setCell_same (o := 1) h1 y1
  simpa using this
 have m1 : Mod (only b) w1 (w1.setCell ⟨b, 0, none⟩ y0) := (Mod.refl w1).put _ _
 have m2 : Mod (only b) w1 ((w1.setCell ⟨b, 0, none⟩ y0).setCell ⟨b, 1, none⟩ y1) := m1.trans' (((Mod.refl (w1.setCell ⟨b, 0, none⟩ y0)).put 1 y1 : Mod (only b) _ _)) (fun _ _ h => h) (fun _ _ h => h)
 have e : ((w1.setCell ⟨b, 0, none⟩ y0).setCell ⟨b, 1, none⟩ y1).heap.size = w1.heap.size := by simp
 refine ⟨((Mod.refl (S := none') _).alloc _).some h2 (fun f => f), ?_, m2.alloc _⟩
 have := Zh ((w1.setCell ⟨b, 0, none⟩ y0).setCell ⟨b, 1, none⟩ y1) (.cells cells T)
 rwa [e] at this
end Go.Proofs.Ythkpmmjcmldjhaa
set_option linter.unusedSimpArgs false
set_option linter.unusedVariables false
namespace Go.Proofs.Ythkpmmjcmldjhaa
open Go Go.RowKit
theorem x_strOf {P : Program} {ρ : Operand -> Value} {w : World} {d : Option Tmp} {ty : TypeId} {p : String} {af : Array Edge} {g : Option (Nat × Bool)} {x : Operand} {src dst e : Nat} {v : Value} {bs : List UInt8} (h : strBytes P dst src e = true) (hx : ρ x = v) (ho : OctI w v bs) :
  (execOp ρ ⟨d, .convert src dst x, ty, p, af, g⟩).run P w = .ok (.value (.string (str bs))) w := by
 obtain ⟨h1, h2, h3⟩ := strBytes_spec h
 have hr : (convert src dst v).run P w = .ok (.string (str bs)) w := by
  rcases ho with ⟨rfl, ao, cap, rfl⟩ | ⟨sb, off, cap, c, t, fr, rfl, q2, q3, q4, q5⟩
  ·cases ao with
   | none => exact run_convert_bytes_nil _ src e h2 h3 _ _ dst h1
   | some a => exact run_convert_bytes_back w src dst e a cap [] h2 h3 h1 (fun j hj => by simp at hj)
  ·exact run_convert_bytes_back w src dst e ⟨sb, off, none⟩ cap bs h2 h3 h1 (fun j hj => by rw [Addr.add_mid, Zc q4]; exact q5 j hj)
 simp [execOp, hx, hr]
section
variable {P : Program} {Γ : Fl} {TT t3 t4 t5 t6 tv fc : Nat} {ok : Tr -> Prop}
 {y1 y2 y3 y4 ya yb yc yd : TypeId} {p1 p2 p3 p4 : String} {e1 e2 e3 e4 : Array Edge} {ts : Array TypeId}
/-- a text -/
theorem val_text {eb : Nat} (hf : fldOne P TT 1 1 = true) (hb : strBytes P yb ya eb = true) (hs : (Γ.free t4 && Γ.free tv) = true) :
  Val P Γ [t4, tv] [⟨some t4, .field TT (.tmp t3) 1, y1, p1, e1, none⟩, ⟨some tv, .convert ya yb (.tmp t4), y2, p2, e2, none⟩] t3 tv .str (fun y => .oct y.S) (fun y => y.S.length <= 32767) := by
 intro all Q rest x a w cs y hA h3 hcs hT hok hk
 simp only [Bool.and_eq_true] at hs
 obtain ⟨sv, lv, uv, f, g, rfl, hn, hS, _⟩ := tree_cells hT hcs
 refine Zv rfl (x_fieldO (v := sv) hf (by rw [Ze]; exact h3) rfl) (Zv rfl (x_strOf hb (v := sv) ?_ (hS.mod hA.mod)) ?_)
 ·rw [Ze, Zq (hA.lt hs.1)]
 refine hk _ _ ((hA.put hs.1 _).put hs.2 _) (((SameBut.refl a).put (by simp) _).put (by simp) _) (.refl w) ?_
 rw [Zq (by rw [Zs]; exact hA.lt hs.2)]
 exact .inl ⟨rfl, rfl, by simp only [Rep]; exact ⟨_, rfl, by omega, rfl⟩⟩
end
set_option maxRecDepth 100000 in
theorem textOf_c : ValC Try.prog 98 .pstr (fun y => if y.Z = true then .nul else .oct y.S) (fun y => y.S.length <= 32767) := by
 intro w0 w cs y hm0 hcs hT hok
 obtain ⟨sv, lv, uv, f, g, rfl, hn, hS, _⟩ := tree_cells hT hcs
 obtain ⟨yN, hyN⟩ : ∃ n, n = y.N := ⟨_, rfl⟩
 obtain ⟨yZ, hyZ⟩ : ∃ n, n = y.Z := ⟨_, rfl⟩
 rw [<- hyZ, <- hyN]
 refine calls_of_wp Try.func98 rfl ?_
 rw [Try.ntmps98]
 refine wp_act (fun a : Act => Act.get a 0 = .agg #[.int .i64 yN, sv, .bool yZ, lv, uv] /\ a.tmps.size = 9 /\ a.defers = []) ⟨by rw [Zj _ _ _ (by simp)]; rfl, by simp, rfl⟩ ?_
 rintro a ⟨a0, aN, ad⟩
 refine wp_seq (wp_region_lit (Zv rfl x_box (Zv rfl Zi (wpList_nil ?_))))
 rw [show a.eval (.tmp 0) = .agg #[.int .i64 yN, sv, .bool yZ, lv, uv] from a0]
 obtain ⟨r1, m1⟩ := box_tree (w := w) (cs := #[.int .i64 yN, sv, .bool yZ, lv, uv]) 39
 generalize w.alloc (.cells (Value.agg #[.int .i64 yN, sv, .bool yZ, lv, uv]).cells 39) = w1 at *
 obtain ⟨b1, hb1⟩ : ∃ b, b = w.heap.size := ⟨_, rfl⟩
 rw [<- hb1] at r1 ⊢
 have hS1 : OctI w1 sv y.S := (hS.mod hm0).mod m1
 refine wp_act (fun a : Act => Act.get a 1 = .pointer (some ⟨b1, 0, none⟩) /\ a.tmps.size = 9 /\ a.defers = []) ⟨?_, ?_, ?_⟩ ?_
 ·simp (disch := first | omega | simp only [Zs]; omega) only [Zo, Ze, Zn, Zq]
 ·simp only [Zs]; exact aN
 ·simp only [Zd]; exact ad
 clear a0 aN ad a
 rintro a ⟨a1, aN, ad⟩
 refine wp_seq (wp_seq (wp_region_lit (Zv rfl (Za (o := 2) (by kernel_rfl) (b := b1) (o0 := 0) ?_) (Zv rfl (Zl (by kernel_rfl) (b := b1) (o := 0 + 2) (v := .bool yZ) ?_ ?_) (wpList_nil ?_)))))
 ·rw [Ze, a1]
 ·simp (disch := first | omega | simp only [Zs]; omega) only [Zo, Ze, Zn, Zq]
 ·rw [Zc r1]; rfl
 cases hz : yZ with
 | true =>
  refine wp_cond_true ?_ (wp_seq (wp_region_lit (Zv rfl Zi (wpList_nil ?_))))
  ·simp (disch := first | omega | simp only [Zs]; omega) only [Zo, Ze, Zn, Zq, hz]
  refine wp_act (c := .ret) (fun b : Act => Act.get b 2 = .pointer none /\ b.defers = []) ⟨?_, ?_⟩ ?_
  ·simp (disch := first | omega | simp only [Zs]; omega) only [Zo, Ze, Zn, Zq]
   rfl
  ·simp only [Zd]; exact ad
  rintro b ⟨z0, zd⟩
  refine wp_ret ?_
  simp only [Exit.then]
  refine bodyPost_ret (results_tmp rfl _ _ _) zd ⟨_, congrArg Ending.returned z0, m1, .inl ⟨rfl, rfl, ?_⟩⟩
  rw [if_pos (by rw [<- hyZ, hz])]
  simp only [Rep]
  exact ⟨none, rfl, fun bs h => (by cases h), rfl⟩
 | false =>
  refine wp_cond_false ?_ (wp_skip ?_)
  ·simp (disch := first | omega | simp only [Zs]; omega) only [Zo, Ze, Zn, Zq, hz]
  simp only [Exit.then]
  obtain ⟨z, hz0, hzc⟩ : ∃ z : Value, zeroOf Try.prog 9 = some z /\ z.cells.size = 1 := ⟨.string ByteArray.empty, by kernel_rfl, rfl⟩
  refine wp_seq (wp_region_lit (Zv rfl (Za (o := 1) (by kernel_rfl) (b := b1) (o0 := 0) ?_) (Zv rfl (Zl (by kernel_rfl) (b := b1) (o := 0 + 1) (v := sv) ?_ ?_) (Zv rfl (x_strOf (e := 5) (by kernel_rfl) (v := sv) (bs := y.S) ?_ hS1) (Zv rfl (x_alloc hz0) ?_)))))
  ·simp (disch := first | omega | simp only [Zs]; omega) only [Zo, Ze, Zn, Zq, a1]
  ·simp (disch := first | omega | simp only [Zs]; omega) only [Zo, Ze, Zn, Zq]
  ·rw [Zc r1]; rfl
  ·simp (disch := first | omega | simp only [Zs]; omega) only [Zo, Ze, Zn, Zq]
  have r2 := Zh w1 (.cells z.cells 9)
  have m2 : Mod none' w1 (w1.alloc (.cells z.cells 9)) := (Mod.refl w1).alloc _
  generalize w1.alloc (.cells z.cells 9) = w2 at *
  obtain ⟨kb, hkb⟩ : ∃ b, b = w1.heap.size := ⟨_, rfl⟩
  rw [<- hkb] at r2 ⊢
  have hm1s := m1.size
  refine wpl_skip rfl (x_store1 (by kernel_rfl) (b := kb) (o := 0) (v := .string (str y.S)) (u := z.cells[0]'(by omega)) ?_ ?_ rfl (by rw [Zc r2, Array.getElem?_eq_getElem (by omega)]) (Zz r2)) (wpList_nil ?_)
  ·simp (disch := first | omega | simp only [Zs]; omega) only [Zo, Ze, Zn, Zq]
  ·simp (disch := first | omega | simp only [Zs]; omega) only [Zo, Ze, Zn, Zq]
  have r3 := heap_setCell_same (o := 0) r2 (.string (str y.S))
  have m3 : Mod (only kb) w2 (w2.setCell ⟨kb, 0, none⟩ (.string (str y.S))) := (Mod.refl w2).put _ _
  have hC : z.cells.setIfInBounds 0 (.string (str y.S)) = #[.string (str y.S)] := by
   apply Array.ext
   ·simpa using hzc
   ·intro i h1 h2
    have : i = 0 := by simp at h2; omega
    subst this; simp
  rw [hC] at r3
  generalize w2.setCell ⟨kb, 0, none⟩ (.string (str y.S)) = w3 at *
  have m13 : Mod none' w w3 := (m1.trans m2).trans' m3 (fun _ _ f => f) (fun j hj e => by have e' : j = kb := e; omega)
  refine wp_seq (wp_region_lit (Zv rfl Zi (wpList_nil ?_)))
  refine wp_act (c := .ret) (fun b : Act => Act.get b 2 = .pointer (some ⟨kb, 0, none⟩) /\ b.defers = []) ⟨?_, ?_⟩ ?_
  ·simp (disch := first | omega | simp only [Zs]; omega) only [Zo, Ze, Zn, Zq]
  ·simp only [Zd]; exact ad
  rintro b ⟨z0, zd⟩
  refine wp_ret ?_
  refine bodyPost_ret (results_tmp rfl _ _ _) zd ⟨_, congrArg Ending.returned z0, m13, .inl ⟨rfl, rfl, ?_⟩⟩
  rw [if_neg (by rw [<- hyZ, hz]; decide)]
  simp only [Rep]
  exact ⟨some y.S, ⟨kb, _, .inr (by omega), rfl, r3⟩, fun bs h => by cases h; omega, rfl⟩
end Go.Proofs.Ythkpmmjcmldjhaa
set_option linter.unusedSimpArgs false
set_option linter.unusedVariables false
namespace Go.Proofs.Ythkpmmjcmldjhaa
open Go Go.RowKit
theorem x_makeRoomN {P : Program} {ρ : Operand -> Value} {w : World} {d : Option Tmp} {ty : TypeId} {p : String} {af : Array Edge} {g : Option (Nat × Bool)} {x y : Operand} {t e n sz : Nat} (hI : elemInfo P t e sz = true) (hx : ρ x = .int .i64 0) (hy : ρ y = .int .i64 n) (hn : n <= 4294967296) :
  ∃ C : Array Value, C.size = n * sz /\ (execOp ρ ⟨d, .makeSlice t x y, ty, p, af, g⟩).run P w = .ok (.value (.slice (some ⟨w.heap.size, 0, none⟩) 0 n)) (w.alloc (.cells C e)) := by
 obtain ⟨hu, i, z, hi, hz, h2, h3, h4, h5, h6⟩ := elemInfo_spec hI
 have hb : (i.bytes : Int) * (n : Int) <= 281474976710656 := by
  have : i.bytes * n <= 1024 * 4294967296 := Nat.mul_le_mul h4 hn
  have h : ((i.bytes * n : Nat) : Int) <= 281474976710656 := by omega
  rwa [Int.natCast_mul] at h
 have hr := run_make (P := P) w t e i z hu hi hz .i64 .i64 0 n (by omega) (by omega) hb (by omega)
 refine ⟨_, ?_, by simp only [execOp, hx, hy, Sem.run_bind, hr, Result.andThen_ok]; rfl⟩
 simp [madeCells, h2]
section
variable {P : Program} {Γ : Fl} {σ : St} {x : Fx} {i j o sz e B : Nat} {ety : Ty} {v : SV} {a a' : Act} {w w' : World} {done : List Tr}
/-- a piece of code that puts the next thing behind -/
def AppE (P : Program) (Γ : Fl) (σ : St) (c : Code) (bx o : Nat) (ety : Ty) (sz e : Nat) (E : Tr -> Tr) (oke : Tr -> Prop) : Prop :=
 ∀ (x : Fx) (v : SV) (a : Act) (w : World) (B : Nat) (done : List Tr) (cs : Array Value) (y : Tr) (xb T : Nat), LS Γ σ x o ety sz e B v a w done -> Act.get a bx = .pointer (some ⟨xb, 0, none⟩) -> w.heap[xb]? = some (.cells cs T (0, 0)) -> (∀ C t g cap, w.heap[x.blk]? = some (.cells C t (0, 0)) -> C[0 + o]? = some (.slice (some ⟨g, 0, none⟩) done.length cap) -> xb ≠ g) -> cs.size = 5 -> TreeI x.w0 (from' cs 0) y -> oke y -> done.length < 32767 ->
  c.wp P (fun e' a' w' => e' = .normal /\ LS Γ σ x o ety sz e B v a' w' (done ++ [E y]) /\ SameBut (W c) a a') a w
/-- the slice is made -/
def MkC (P : Program) (Γ : Fl) (σ : St) (c : Code) (i j o : Nat) (ety : Ty) (sz e : Nat) : Prop :=
 ∀ (x : Fx) (v : SV) (a : Act) (w : World), FA Γ x a w -> Cur σ x.F x.blk 0 v w -> v.1[i]? = some .nul -> (x.g.L.getD j .zero).L.length <= 32767 -> c.wp P (fun e' a' w' => e' = .normal /\ ∃ B, LS Γ σ x o ety sz e B v a' w' []) a w
end
section
variable {P : Program} {Γ : Fl} {σ : St} {i j o k sz e T TT LT L5 fat t1 t2 t3 t4 t5 t6 t7 t8 : Nat} {ety : Ty} {E : Tr -> Tr} {oke : Tr -> Prop} {id i0 i1 i2 i3 i4 b0 b1 : Nat}
 {y1 y2 y3 y4 y5 y6 y7 y8 y9 ya yb yc yd : TypeId} {p1 p2 p3 p4 p5 p6 p7 p8 p9 pa pb pc : String} {e1 e2 e3 e4 e5 e6 e7 e8 e9 : Array Edge} {ts ts2 : Array TypeId}
/-- the slice that was made is stored -/
theorem mk_put {all : Array Oper} {Q : Exit -> Act -> World -> Prop} {x : Fx} {v : SV} {a b : Act} {w w1 : World} {n : Nat} {Cn : Array Value} (hI : elemInfo P LT e sz = true) (hat : σ.lay.at i = some (o, .list ety sz)) (hok : σ.okAt i o (.list ety sz) = true) (hsz : sized P LT 1 = true) (hot : Γ.off o 1 = true) (hAw : FA Γ x b w) (hA : FA Γ x a (w1.alloc (.cells Cn e))) (hC : Cur σ x.F x.blk 0 v w) (hz : v.1[i]? = some .nul)
  (hm : Mod none' w w1) (hCn : Cn.size = n * sz) (hn : n <= 4294967296) (h8 : Act.get a t8 = .pointer (some ⟨x.blk, 0 + o, none⟩)) (h6 : Act.get a t6 = .slice (some ⟨w1.heap.size, 0, none⟩) 0 n) (hQ : ∀ a' w' B, LS Γ σ x o ety sz e B v a' w' [] -> Q .normal a' w') :
  wpList P all Q [⟨none, .store LT (.tmp t8) (.tmp t6), y9, p9, e9, none⟩] a (w1.alloc (.cells Cn e)) := by
 obtain ⟨C0, t0, h0, h2, h3, h4⟩ := hC.lt.mem
 have hbw := lt_of_block h0
 have htw := hAw.tlt
 have m2 : Mod none' w1 (w1.alloc (.cells Cn e)) := (Mod.refl w1).alloc _
 have gn := Zh w1 (.cells Cn e)
 have hs2 : (w1.alloc (.cells Cn e)).heap.size = w1.heap.size + 1 := by simp
 generalize hw2 : w1.alloc (.cells Cn e) = w2 at *
 have h1 := (hm.trans m2).some h0 (fun f => f)
 have hs1 := hm.size
 simp only [St.okAt, Bool.and_eq_true] at hok
 have hin := Lay.at_in _ _ _ _ _ _ hok.1.1 hat
 simp only [Ty.size] at hin
 have hlt : 0 + o < C0.size := by omega
 -- what lay there is none
 have hnil : C0[0 + o]? = some (.slice none 0 0) := by
  obtain ⟨u, hu, hrep⟩ := RepL.get _ _ _ _ _ _ hat h3
  rw [hz] at hu
  obtain rfl := Option.some.inj hu
  simp only [Rep] at hrep
  rcases hrep with ⟨hv, _⟩ | ⟨l, f, _, _, _, hl⟩
  ·rw [Array.getElem?_eq_getElem hlt]
   have : from' C0 0 (o + 0) = C0[0 + o] := get_from' (by rw [Array.getElem?_eq_getElem (by omega)]; rfl)
   rw [<- this, hv]
  ·simp [Tr.list, Tr.nul] at hl
 refine wpl_skip rfl (x_store1 hsz (b := x.blk) (o := 0 + o) (v := .slice (some ⟨w1.heap.size, 0, none⟩) 0 n) (by rw [Ze, h8]) (by rw [Ze, h6]) rfl (by rw [Zc h1, hnil]) (Zz h1)) (wpList_nil ?_)
 rw [Zo]
 have m3 : Mod (only x.blk) w2 (w2.setCell ⟨x.blk, 0 + o, none⟩ (.slice (some ⟨w1.heap.size, 0, none⟩) 0 n)) := (Mod.refl w2).put _ _
 have hl := hAw.lo
 have hent := hAw.ent
 have hmz := hAw.mod.size
 refine hQ _ _ w1.heap.size ⟨hA.store m3 (fun C2 t2 hC2 => by
  rw [h1] at hC2
  obtain ⟨rfl, rfl⟩ : C0 = C2 /\ t0 = t2 := by simpa using hC2
  refine ⟨_, heap_setCell_same h1 _, fun q hq => ?_⟩
  have := Fl.off_spec hot q hq
  rw [Array.getElem?_setIfInBounds_ne (by omega)]), ⟨_, t0, w1.heap.size, n, [], heap_setCell_same h1 _, by rw [Array.getElem?_setIfInBounds, if_pos rfl, if_pos hlt]; rfl, ?_, ?_, fun i hi => by simp at hi⟩, by have := m3.size; omega, by omega, by omega, by omega, by omega⟩
 ·rw [sub_set]
  have hsame : C0.setIfInBounds (0 + o) (.slice none 0 0) = C0 := by
   apply Array.ext
   ·simp
   ·intro q q1 q2
    by_cases hq : 0 + o = q
    ·subst hq
     rw [Array.getElem?_eq_getElem hlt] at hnil
     simp only [Array.getElem_setIfInBounds_self]
     exact (Option.some.inj hnil).symm
    ·rw [Array.getElem_setIfInBounds, if_neg hq]
  rw [hsame]
  have hc : CurA σ (fun k => x.F k /\ k < w.heap.size) C0 v w := ⟨h2, h3, h4⟩
  exact ((hc.mod (hm.trans m2) (fun _ _ f => f) (fun k hk => ⟨hk.1, by omega⟩)).mod m3 (fun k hk e => hk.1.2.1 e) (fun _ h => h))
 ·refine ⟨by simp, .inr ⟨w1.heap.size, n, Cn, rfl, Nat.le_refl _, m3.some gn (fun e => by have e' : w1.heap.size = x.blk := e; omega), by simp, by simp only [maxLen]; omega, hCn, by simp⟩⟩
theorem mk_fill (hat' : AtC P fat) (hbd : bodied P fat = true) (hmT : many P TT 5 = true) (h3f : fldOne P TT 3 3 = true) (h5 : (elemSize P L5).isSome = true) (hts : ts2[0]? = some L5) (hI : elemInfo P LT e sz = true) (hsz : sized P LT 1 = true) (hot : Γ.off o 1 = true) (hat : σ.lay.at i = some (o, .list ety sz)) (hok : σ.okAt i o (.list ety sz) = true) (hf : fieldOff P T k = some o)
  (hs : (Γ.free t1 && Γ.free t2 && Γ.free t3 && Γ.free t4 && Γ.free t5 && Γ.free t6 && Γ.free t7 && Γ.free t8 && t1 != t2 && t1 != t3 && t1 != t4 && t1 != t5 && t1 != t6 && t6 != t7 && t6 != t8) = true) :
  MkC P Γ σ (.region id #[⟨some t1, .move (.tmp Γ.s), y1, p1, e1, none⟩, ⟨some t2, .load TT (.tmp Γ.tb), y2, p2, e2, none⟩, ⟨some t3, .call ⟨.value (.func fat), #[.tmp t2, .const (.int .i64 (j : Nat))], ts⟩, y3, p3, e3, none⟩, ⟨some t4, .field TT (.tmp t3) 3, y4, p4, e4, none⟩,
   ⟨some t5, .call ⟨.builtin .len, #[.tmp t4], ts2⟩, y5, p5, e5, none⟩, ⟨some t6, .makeSlice LT (.const (.int .i64 0)) (.tmp t5), y6, p6, e6, none⟩, ⟨some t7, .nilCheck (.tmp t1), y7, p7, e7, none⟩, ⟨some t8, .fieldAddr T (.tmp t7) k, y8, p8, e8, none⟩, ⟨none, .store LT (.tmp t8) (.tmp t6), y9, p9, e9, none⟩] false) i j o ety sz e := by
 intro x v a w hA hC hz hlen
 simp only [Bool.and_eq_true, bne_iff_ne] at hs
 obtain ⟨⟨⟨⟨⟨⟨⟨⟨⟨⟨⟨⟨⟨⟨f1, f2⟩, f3⟩, f4⟩, f5⟩, f6⟩, f7⟩, f8⟩, n12⟩, n13⟩, n14⟩, n15⟩, n16⟩, n67⟩, n68⟩ := hs
 obtain ⟨T0, hb0⟩ := hA.hb
 refine wp_region_lit ?_
 refine Zv rfl Zm (Zv rfl (x_loadN (cs := x.ct.toList) (b := x.tblk) (o := 0) (by rw [Array.length_toList, hA.ct]; exact hmT) ?_ (fun j v hv => by rw [Zc hb0, Nat.zero_add]; simpa using hv)) ?_)
 ·rw [Ze, Zn (Fl.free_spec f1).2.1, hA.tree]
 have hA2 := (hA.put f1 (a.eval (.tmp Γ.s))).put f2 (.agg x.ct.toList.toArray)
 have g1 : Act.get ((a.put (some t1) (a.eval (.tmp Γ.s))).put (some t2) (.agg x.ct.toList.toArray)) t1 = .pointer (some ⟨x.blk, 0, none⟩) := by rw [Zn (Ne.symm n12), Zq (hA.lt f1), Ze, hA.ptr]
 have g2 : Act.get ((a.put (some t1) (a.eval (.tmp Γ.s))).put (some t2) (.agg x.ct.toList.toArray)) t2 = .agg x.ct := by rw [Zq (by rw [Zs]; exact hA.lt f2)]
 generalize (a.put (some t1) (a.eval (.tmp Γ.s))).put (some t2) (.agg x.ct.toList.toArray) = a2 at *
 have ee : (#[Operand.tmp t2, .const (.int .i64 (j : Nat))] : Array Operand).map a2.eval = #[.agg x.ct, .int .i64 (j : Nat)] := by
  simp [Ze, g2]; rfl
 refine wpl_call rfl (Zy hbd rfl) (by rw [ee]; exact hat' hA.mod hA.ct hA.tr) ?_
 rintro e' w1 ⟨m1, cs, rfl, hcs, hT⟩
 obtain ⟨sv, lv, uv, f, g, rfl, hn, hS, hL, hLs, _⟩ := tree_cells hT hcs
 obtain ⟨ao, cap, hlv⟩ := hL.slice
 obtain ⟨n, hnn⟩ : ∃ n, n = (x.g.L.getD j .zero).L.length := ⟨_, rfl⟩
 rw [<- hnn] at hlv hlen
 refine ⟨_, rfl, Zv rfl (x_fieldO (v := lv) h3f (by rw [Ze, Zq (hA2.lt f3)]) rfl) (Zv rfl (x_len h5 hts (ao := ao) (cap := cap) (n := n) ?_) ?_)⟩
 ·rw [Ze, Zq (by rw [Zs]; exact hA2.lt f4), hlv]
 refine wpl_abs (fun b : Act => FA Γ x b w1 /\ Act.get b t1 = .pointer (some ⟨x.blk, 0, none⟩) /\ Act.get b t5 = .int .i64 (n : Nat)) ⟨(((hA2.new m1).put f3 _).put f4 _).put f5 _, ?_, ?_⟩ ?_
 ·rw [Zn (Ne.symm n15), Zn (Ne.symm n14), Zn (Ne.symm n13), g1]
 ·rw [Zq (by simp only [Zs]; exact hA2.lt f5)]
 rintro b ⟨hB, b1', b5'⟩
 obtain ⟨Cn, hCn, hrun⟩ := x_makeRoomN (P := P) (ρ := b.eval) (w := w1) (d := some t6) (ty := y6) (p := p6) (af := e6) (g := none) (x := .const (.int .i64 0)) (y := .tmp t5) (n := n) hI rfl (by rw [Ze]; exact b5') (by omega)
 have m2 : Mod none' w1 (w1.alloc (.cells Cn e)) := (Mod.refl w1).alloc _
 refine Zv rfl hrun (Zv rfl (x_nilCheck (q := ⟨x.blk, 0, none⟩) ?_) (Zv rfl (Za hf (b := x.blk) (o0 := 0) ?_) ?_))
 ·rw [Ze, Zn (Ne.symm n16), b1']
 ·rw [Ze, Zq (by rw [Zs]; exact hB.lt f7)]
 refine mk_put (t6 := t6) (t8 := t8) (n := n) hI hat hok hsz hot hA ((((hB.new m2).put f6 _).put f7 _).put f8 _) hC hz m1 hCn (by omega) ?_ ?_ (fun a' w' B h => ⟨rfl, B, h⟩)
 ·rw [Zq (by simp only [Zs]; exact hB.lt f8)]
 ·rw [Zn (Ne.symm n68), Zn (Ne.symm n67), Zq (hB.lt f6)]
end
end Go.Proofs.Ythkpmmjcmldjhaa
set_option linter.unusedSimpArgs false
set_option linter.unusedVariables false
namespace Go.Proofs.Ythkpmmjcmldjhaa
open Go Go.RowKit
section
variable {P : Program} {Γ : Fl} {σ : St} {o k sz e T TT LT fm bx d0 d1 d2 d3 d4 d5 d6 d7 d8 d9 d10 : Nat} {ety : Ty} {E : Tr -> Tr} {oke : Tr -> Prop} {id : Nat}
 {y0 y1 y2 y3 y4 y5 y6 y7 y8 y9 y10 y11 : TypeId} {p0 p1 p2 p3 p4 p5 p6 p7 p8 p9 p10 p11 : String} {ts : Array TypeId}
set_option maxHeartbeats 1000000 in
/-- one thing is put behind, by a pointer that is held against nil -/
theorem app_fill (hord : P.follows .mixedOrders = true) (hmT : many P TT 5 = true) (hm : ValC P fm ety E oke) (hbd : bodied P fm = true) (hI : elemInfo P LT e sz = true) (hone : one P LT = true) (hsz1 : sized P LT 1 = true) (hot : Γ.off o 1 = true) (hf : fieldOff P T k = some o) (hr : ety.ok = true) (hsz : ety.size = sz)
    (hs : ([d0, d1, d2, d3, d4, d5, d6, d7, d8].all (fun d => Γ.free d && d != bx) && decide ([d0, d1, d2, d3, d4, d5, d6, d7, d8] : List Nat).Nodup && [d9, d10].all (fun d => Γ.free d && !([d0, d1, d2, d3, d4, d5, d6, d7, d8] : List Nat).contains d) && d9 != d10) = true) :
    AppE P Γ σ (.region id #[⟨some d0, .move (.tmp Γ.s), y0, p0, #[], none⟩,
      ⟨some d1, .move (.tmp Γ.s), y1, p1, #[], none⟩,
      ⟨some d2, .nilCheck (.tmp d1), y2, p2, #[⟨1, .data⟩], none⟩,
      ⟨some d3, .fieldAddr T (.tmp d2) k, y3, p3, #[⟨2, .data⟩], none⟩,
      ⟨some d4, .load LT (.tmp d3), y4, p4, #[⟨3, .data⟩], none⟩,
      ⟨some d5, .load TT (.tmp bx), y5, p5, #[], none⟩,
      ⟨some d6, .call ⟨.value (.func fm), #[.tmp d5], ts⟩, y6, p6, #[⟨5, .data⟩], none⟩,
      ⟨some d7, .buildSlice LT 1 #[(0, .tmp d6)], y7, p7, #[⟨6, .data⟩], none⟩,
      ⟨some d8, .call ⟨.builtin .append, #[.tmp d4, .tmp d7], #[LT, LT]⟩, y8, p8, #[⟨4, .data⟩, ⟨7, .data⟩, ⟨6, .chain⟩], none⟩,
      ⟨some d9, .nilCheck (.tmp d0), y9, p9, #[⟨0, .data⟩, ⟨0, .phase⟩, ⟨1, .phase⟩, ⟨2, .phase⟩, ⟨3, .phase⟩, ⟨4, .phase⟩, ⟨5, .phase⟩, ⟨6, .phase⟩, ⟨7, .phase⟩, ⟨8, .phase⟩], none⟩,
      ⟨some d10, .fieldAddr T (.tmp d9) k, y10, p10, #[⟨9, .data⟩, ⟨0, .phase⟩, ⟨1, .phase⟩, ⟨2, .phase⟩, ⟨3, .phase⟩, ⟨4, .phase⟩, ⟨5, .phase⟩, ⟨6, .phase⟩, ⟨7, .phase⟩, ⟨8, .phase⟩], none⟩,
      ⟨none, .store LT (.tmp d10) (.tmp d8), y11, p11, #[⟨10, .data⟩, ⟨8, .data⟩, ⟨8, .chain⟩, ⟨0, .phase⟩, ⟨1, .phase⟩, ⟨2, .phase⟩, ⟨3, .phase⟩, ⟨4, .phase⟩, ⟨5, .phase⟩, ⟨6, .phase⟩, ⟨7, .phase⟩, ⟨8, .phase⟩], none⟩] true) bx o ety sz e E oke := by
  intro x v a w B done cs y xb T' hL hbx hxb hfr hcs hT hok hlen
  simp only [Bool.and_eq_true, List.all_eq_true, decide_eq_true_eq, bne_iff_ne, Bool.not_eq_true', List.contains_eq_mem, decide_eq_false_iff_not] at hs
  obtain ⟨⟨⟨hdl, hnd⟩, htl⟩, n910⟩ := hs
  have hA := hL.fa
  obtain ⟨C, t, g, cap, lrow, h1, h2, h3, h4⟩ := hL.mem
  obtain ⟨l1, l2, l3, l4, l5⟩ := hL.lo
  obtain ⟨ov, hov⟩ : ∃ ov, ov = Value.slice (some ⟨g, 0, none⟩) done.length cap := ⟨_, rfl⟩
  have hob : ∀ k, ov.ownBlock = some k -> k = g := fun k hk => by rw [hov] at hk; simpa [Value.ownBlock] using hk.symm
  have hgB : B <= g /\ g < w.heap.size := h4.own.lt g rfl
  have hnwS : ∀ k, x.nw w k -> ¬ (ov.ownBlock = some k) := fun k hk e => by have := hob k e; rcases hk with hk | hk <;> omega
  have hMx : ∀ W, Mod (fun k => ov.ownBlock = some k) w W -> Mod none' x.w0 W := fun W hm => hA.mod.trans' hm (fun _ _ f => f) (fun j hj e => by have := hob j e; omega)
  have hsN : ∀ d ∈ [d0, d1, d2, d3, d4, d5, d6, d7, d8], d < a.tmps.size := fun d hd => hA.lt (hdl d hd).1
  have hs0 : Γ.s ∉ [d0, d1, d2, d3, d4, d5, d6, d7, d8] := fun h => (Fl.free_spec (hdl _ h).1).2.2 rfl
  have htb0 : Γ.tb ∉ [d0, d1, d2, d3, d4, d5, d6, d7, d8] := fun h => (Fl.free_spec (hdl _ h).1).2.1 rfl
  have hrs0 : ∀ q, Γ.r = some q -> q ∉ [d0, d1, d2, d3, d4, d5, d6, d7, d8] := fun q hq h => (Fl.free_all (hdl _ h).1).2.2.2 hq
  have hbx0 : bx ∉ [d0, d1, d2, d3, d4, d5, d6, d7, d8] := fun h => (hdl _ h).2 rfl
  refine region_rlq (l := [_, _, _, _, _, _, _, _, _]) (tl := [_, _, _]) hord (Mod (fun k => ov.ownBlock = some k)) (fun a b h => h.none) (fun _ _ _ h h' => h.trans h') [d0, d1, d2, d3, d4, d5, d6, d7, d8]
    [fun v _ => v = .pointer (some ⟨x.blk, 0, none⟩),
     fun v _ => v = .pointer (some ⟨x.blk, 0, none⟩),
     fun v _ => v = .pointer (some ⟨x.blk, 0, none⟩),
     fun v _ => v = .pointer (some ⟨x.blk, 0 + o, none⟩),
     fun v _ => v = .slice (some ⟨g, 0, none⟩) done.length cap,
     fun v _ => v = .agg cs,
     fun v w' => RepS w' (x.nw w) ety v (E y),
     fun v w' => ∃ nb ms, v = .slice (some ⟨nb, 0, none⟩) 1 1 /\ w'.heap[nb]? = some (.cells ms e (0, 0)) /\ w.heap.size <= nb /\ ms.size = sz /\ ms.all (·.oneCell') = true /\ Rep w' (x.nw w) ety (from' ms 0) (E y)]
    (fun v w' => ∃ lrow', RowG (fun w F c (t : Tr) => Rep w F ety c t) e sz B (fun k => x.F k /\ k < B) w' v lrow' (done ++ [E y]) /\ ∃ g cap, v = .slice (some ⟨g, 0, none⟩) (done ++ [E y]).length cap)
    ?_ ?_ (by simp [regFormT]) hnd hsN (by simp) (by kernel_rfl) ⟨?_, ?_, ?_, ?_, ?_, ?_, ?_, ?_, ?_, trivial⟩ ?_
  · intro g' hg u1 w1 w2 hv hr'
    simp only [List.mem_cons, List.not_mem_nil, or_false] at hg
    rcases hg with rfl | rfl | rfl | rfl | rfl | rfl | rfl | rfl
    · exact hv
    · exact hv
    · exact hv
    · exact hv
    · exact hv
    · exact hv
    · exact RepS.mod hv hr' hnwS (fun _ h => h)
    · obtain ⟨nb, ms, q1, q2, q3, q4, q5, q6⟩ := hv
      exact ⟨nb, ms, q1, hr'.some q2 (fun e => by have := hob nb e; omega), q3, q4, q5, q6.mod hr' hnwS (fun _ h => h)⟩
  · rintro u1 w1 w2 ⟨lr, q1, q2⟩ hr'
    exact ⟨lr, q1.grow (rep_ok hr hsz) hr', q2⟩
  · intro a1 w1 hr' hp hs hd
    have t1 := (hs.get Γ.s hs0).trans hA.ptr
    exact Zw (x_moveV t1) ⟨_, rfl, relp_ne (by rfl) (.refl _), rfl⟩
  · intro a1 w1 hr' hp hs hd
    have t1 := (hs.get Γ.s hs0).trans hA.ptr
    exact Zw (x_moveV t1) ⟨_, rfl, relp_ne (by rfl) (.refl _), rfl⟩
  · intro a1 w1 hr' hp hs hd
    have q : Act.get a1 d1 = .pointer (some ⟨x.blk, 0, none⟩) := hd ⟨1, .data⟩ (by simp) rfl
    exact Zw (x_nilCheck (q := ⟨x.blk, 0, none⟩) (by rw [Ze]; exact q)) ⟨_, rfl, relp_ne (by rfl) (.refl _), rfl⟩
  · intro a1 w1 hr' hp hs hd
    have q : Act.get a1 d2 = .pointer (some ⟨x.blk, 0, none⟩) := hd ⟨2, .data⟩ (by simp) rfl
    exact Zw (Za hf (b := x.blk) (o0 := 0) (by rw [Ze]; exact q)) ⟨_, rfl, relp_ne (by rfl) (.refl _), rfl⟩
  · intro a1 w1 hr' hp hs hd
    have q : Act.get a1 d3 = .pointer (some ⟨x.blk, 0 + o, none⟩) := hd ⟨3, .data⟩ (by simp) rfl
    have c1 := hr'.some h1 (fun e => by have := hob _ e; omega)
    exact Zw (Zl hone (b := x.blk) (o := 0 + o) (by rw [Ze]; exact q) (by rw [Zc c1]; exact h2)) ⟨_, rfl, relp_ne (by rfl) (.refl _), rfl⟩
  · intro a1 w1 hr' hp hs hd
    have q := (hs.get bx hbx0).trans hbx
    have hxg : xb ≠ g := hfr C t g cap h1 h2
    have c1 := hr'.some hxb (fun e => hxg (hob _ e))
    exact Zw (x_loadN (cs := cs.toList) (b := xb) (o := 0) (by rw [Array.length_toList, hcs]; exact hmT) (by rw [Ze]; exact q) (fun j v hv => by rw [Zc c1, Nat.zero_add]; simpa using hv)) ⟨_, rfl, relp_ne (by rfl) (.refl _), by simp⟩
  · intro a1 w1 hr' hp hs hd
    have q : Act.get a1 d5 = .agg cs := hd ⟨5, .data⟩ (by simp) rfl
    have ee : (#[Operand.tmp d5] : Array Operand).map a1.eval = #[.agg cs] := by simp [Ze, q]
    refine owp_call (Zy hbd rfl) (by rw [ee]; exact hm x.w0 w1 cs y (hMx w1 hr') hcs hT hok) ?_
    rintro e' w2 ⟨v2, rfl, hm2, hrep⟩
    exact ⟨_, rfl, _, rfl, relp_ne (by rfl) hm2, hrep.mod (Mod.refl (S := none') w2) (fun _ _ f => f) (fun k hk => Fx.nw_mono (x := x) hr'.size hk)⟩
  · intro a1 w1 hr' hp hs hd
    have q : RepS w1 (x.nw w) ety (Act.get a1 d6) (E y) := hd ⟨6, .data⟩ (by simp) rfl
    obtain ⟨c1, c2, c3⟩ := q.cells hr
    refine Zw (x_buildSlice1 (v := Act.get a1 d6) hI (Ze _) (c1.trans hsz)) ⟨_, rfl, relp_ne (by rfl) ((Mod.refl w1).alloc _), w1.heap.size, _, rfl, Zh w1 _, hr'.size, c1.trans hsz, c2, c3.mod (S := none') ((Mod.refl w1).alloc _) (fun _ _ f => f) (fun _ h => h)⟩
  · intro a1 w1 hr' hp hs hd
    have q4 : Act.get a1 d4 = .slice (some ⟨g, 0, none⟩) done.length cap := hd ⟨4, .data⟩ (by simp) rfl
    obtain ⟨nb, ms, q5, q6, q7, q8, q9, q10⟩ : ∃ nb ms, Act.get a1 d7 = .slice (some ⟨nb, 0, none⟩) 1 1 /\ w1.heap[nb]? = some (.cells ms e (0, 0)) /\ w.heap.size <= nb /\ ms.size = sz /\ ms.all (·.oneCell') = true /\ Rep w1 (x.nw w) ety (from' ms 0) (E y) := hd ⟨7, .data⟩ (by simp) rfl
    have hpm := hp rfl
    have hG1 := h4.grow (rep_ok hr hsz) hpm
    obtain ⟨v', w2, hrun, k1, k2, k3, k4⟩ := x_append (P := P) (ρ := a1.eval) (w := w1) (d := some d8) (ty := y8) (p := p8) (af := #[⟨4, .data⟩, ⟨7, .data⟩, ⟨6, .chain⟩]) (g := none) (s := .tmp d4) (x := .tmp d7) (base := B) (n := done.length) (xs := lrow) (ad := ⟨nb, 0, none⟩) (m := 1) (c := 1) (news := ms.toList) hI (by rw [Ze]; exact q4) (by rw [Ze]; exact q5) hG1.own (by simp [q8]) (fun j u hu => by rw [Addr.add_mid, Zc q6, Nat.zero_add]; simpa using hu) (fun u hu => Array.all_eq_true_iff_forall_mem.1 q9 u (by simpa using hu)) (by omega) (by have := hpm.size; omega)
    have hps := hpm.size
    refine Zw hrun ⟨_, rfl, relp_eq (by rw [hov]; exact k2), lrow ++ ms.toList, hG1.push (rep_ok hr hsz) k2 (by simpa using k1) (by simp [q8]) k4 ?_, ?_⟩
    · have hlt := Rep.lt ety _ _ q10
      refine Rep.mod (Mod.refl (S := none') w1) (fun _ _ f => f) (fun k hk => ?_) _ _ _ (Rep.congr ety _ _ _ hr (fun j hj => by simp [from', List.getD_eq_getElem?_getD]) hlt)
      have hk1 := hk.1
      refine ⟨?_, fun e => ?_, hk.2⟩
      · rcases hk1 with hk1 | hk1
        · exact .inl ⟨⟨.inl hk1, by have := hA.lo; omega, by have := hA.lo; omega⟩, by omega⟩
        · exact .inr (by omega)
      · have e' : g = k := by simpa [Value.ownBlock] using e
        rcases hk1 with hk1 | hk1 <;> omega
    · rcases k1.2 with ⟨_, h0⟩ | ⟨g2, cap2, _, hv2, _⟩
      · omega
      · exact ⟨g2, cap2, by rw [hv2]; simp⟩
  · intro a1 w1 hr' hs hh
    obtain ⟨lrow', q1, q2⟩ : ∃ lrow', RowG (fun w F c (t : Tr) => Rep w F ety c t) e sz B (fun k => x.F k /\ k < B) w1 (Act.get a1 d8) lrow' (done ++ [E y]) /\ ∃ g cap, Act.get a1 d8 = .slice (some ⟨g, 0, none⟩) (done ++ [E y]).length cap := hh 8 (by simp)
    have sN : ∀ d, Γ.free d = true -> d < a1.tmps.size := fun d hd => by rw [hs.size]; exact hA.lt hd
    have hA1 : FA Γ x a1 w1 := (hA.same hs htb0 hs0 hrs0).world hr' (fun k e => by have := hob k e; subst this; exact ⟨by omega, by omega, by omega⟩)
    have c1 := hr'.some h1 (fun e => by have := hob _ e; omega)
    have fd9 := htl d9 (by simp)
    have fd10 := htl d10 (by simp)
    have q0 : Act.get a1 d0 = .pointer (some ⟨x.blk, 0, none⟩) := hh 0 (by simp)
    refine Zv rfl (x_nilCheck (q := ⟨x.blk, 0, none⟩) (by rw [Ze]; exact q0)) (Zv rfl (Za hf (b := x.blk) (o0 := 0) ?_) ?_)
    · rw [Ze, Zq (sN _ fd9.1)]
    have hone' : (Act.get a1 d8).oneCell' = true := by obtain ⟨_, _, e⟩ := q2; rw [e]; rfl
    refine wpl_skip rfl (x_store1 hsz1 (b := x.blk) (o := 0 + o) (v := Act.get a1 d8) (u := .slice (some ⟨g, 0, none⟩) done.length cap) ?_ ?_ hone' (by rw [Zc c1]; exact h2) (Zz c1)) (wpList_nil ⟨rfl, ?_, ?_⟩)
    · rw [Ze, Zq (by rw [Zs]; exact sN _ fd10.1)]
    · rw [Ze, Zn (fun e => fd10.2 (by simp [<- e])), Zn (fun e => fd9.2 (by simp [<- e]))]
    · rw [Zo]
      exact hL.push hot hr hsz h1 h2 (hr'.mono fun k _ e => by have := hob k e; subst this; exact ⟨rfl, hgB.1⟩) q1 q2 ((hA1.put fd9.1 _).put fd10.1 _)
    · rw [Zo]
      refine (((hs.mono fun t ht => ?_).put ?_ _).put ?_ _)
      · simp only [List.mem_cons, List.not_mem_nil, or_false] at ht
        rcases ht with rfl | rfl | rfl | rfl | rfl | rfl | rfl | rfl | rfl <;> simp [W, writes]
      all_goals simp [W, writes]
end
end Go.Proofs.Ythkpmmjcmldjhaa
set_option linter.unusedSimpArgs false
set_option linter.unusedVariables false
namespace Go.Proofs.Ythkpmmjcmldjhaa
open Go Go.RowKit
theorem set_again {α : Type} {l : List α} {i : Nat} {a : α} (h : l[i]? = some a) : l.set i a = l := by
 apply List.ext_getElem?
 intro j
 by_cases hj : i = j
 ·subst hj
  rw [h, List.getElem?_set_self (List.getElem?_eq_some_iff.1 h).1]
 ·rw [List.getElem?_set_ne hj]
section
variable {P : Program} {Γ : Fl} {σ : St} {i j o k sz e T TT LT L5 fat bx t1 t2 t3 t4 u1 u2 ul un ui uc v1 v2 x1 i0 i1 i2 i3 i4 b0 b1 : Nat} {ety : Ty} {E : Tr -> Tr} {oke : Tr -> Prop} {cm ca : Code}
 {y1 y2 y3 y4 y5 y6 y7 y8 y9 y10 y11 y12 y13 y14 y15 y16 ya yb yc yd yf : TypeId} {p1 p2 p3 p4 p5 p6 p7 p8 p9 p10 p11 p12 p13 p14 p15 p16 : String} {e1 e2 e3 e4 e5 e6 e7 e8 e9 e10 e11 e12 e13 e14 e15 e16 : Array Edge} {ts ts2 ts3 : Array TypeId}
set_option maxHeartbeats 1000000 in
/-- 'if !at(t, j).Null { v.F = make(..); for _, x := range at(t, j).L { v.F = append(v.F, ..) } }' -/
theorem fst_list (hat' : AtC P fat) (hbd : bodied P fat = true) (hmT : many P TT 5 = true) (h2f : fldOne P TT 2 2 = true) (h3f : fldOne P TT 3 3 = true) (h5 : elemSize P L5 = some 5) (hts : ts3[0]? = some L5) (hsT : sized P TT 5 = true) (hzT : zeroOf P TT = some (.agg #[.int .i64 0, .slice none 0 0, .bool false, .slice none 0 0, .slice none 0 0]))
  (hmk : MkC P Γ σ cm i j o ety sz e) (hap : AppE P Γ σ ca bx o ety sz e E oke) (hr : ety.ok = true) (hsz : ety.size = sz) (hat : σ.lay.at i = some (o, .list ety sz)) (hok : σ.okAt i o (.list ety sz) = true)
  (hs : (Γ.free t1 && Γ.free t2 && Γ.free t3 && Γ.free t4 && Γ.free u1 && Γ.free u2 && Γ.free ul && Γ.free un && Γ.free ui && Γ.free uc && Γ.free v1 && Γ.free v2 && Γ.free bx && Γ.free x1 && decide ([ul, un, ui, uc, v1, v2, bx, x1] : List Nat).Nodup && decide (ul ∉ writes ca) && decide (un ∉ writes ca) && decide (ui ∉ writes ca)) = true) :
  Fst P Γ σ (.seq (.region i0 #[⟨some t1, .load TT (.tmp Γ.tb), y1, p1, e1, none⟩, ⟨some t2, .call ⟨.value (.func fat), #[.tmp t1, .const (.int .i64 (j : Nat))], ts⟩, y2, p2, e2, none⟩, ⟨some t3, .field TT (.tmp t2) 2, y3, p3, e3, none⟩, ⟨some t4, .unOp .not ya (.tmp t3), y4, p4, e4, none⟩] false)
   (.cond (.tmp t4) (.seq cm (.seq (.region i1 #[⟨some u1, .load TT (.tmp Γ.tb), y5, p5, e5, none⟩, ⟨some u2, .call ⟨.value (.func fat), #[.tmp u1, .const (.int .i64 (j : Nat))], ts2⟩, y6, p6, e6, none⟩, ⟨some ul, .field TT (.tmp u2) 3, y7, p7, e7, none⟩, ⟨some un, .call ⟨.builtin .len, #[.tmp ul], ts3⟩, y8, p8, e8, none⟩, ⟨some ui, .move (.const (.int .i64 0)), y9, p9, e9, none⟩] false)
    (.block b0 (.loop (.seq (.region i2 #[⟨some uc, .binOp .lss yb (.tmp ui) (.tmp un) yc, y10, p10, e10, none⟩] false) (.seq (.cond (.tmp uc) .skip (.exit b0))
     (.seq (.block b1 (.seq (.region i3 #[⟨some v1, .indexAddr L5 (.tmp ul) (.tmp ui), y11, p11, e11, none⟩, ⟨some v2, .load TT (.tmp v1), y12, p12, e12, none⟩, ⟨some bx, .alloc TT, y13, p13, e13, none⟩, ⟨none, .store TT (.tmp bx) (.tmp v2), y14, p14, e14, none⟩] false) ca))
      (.region i4 #[⟨some x1, .binOp .add yd (.tmp ui) (.const (.int .i64 1)) yf, y15, p15, e15, none⟩, ⟨some ui, .move (.tmp x1), y16, p16, e16, none⟩] false)))))))) .skip)) i .nul
   (fun g => if (g.L.getD j .zero).Z = true then .nul else .list ((g.L.getD j .zero).L.map E) false) (fun g => (g.L.getD j .zero).L.length <= 32767 /\ ∀ x ∈ (g.L.getD j .zero).L, oke x) := by
 intro x v a w hA hC hz ⟨hlen, hall⟩
 simp only [Bool.and_eq_true, decide_eq_true_eq] at hs
 obtain ⟨⟨⟨⟨⟨⟨⟨⟨⟨⟨⟨⟨⟨⟨⟨⟨⟨f1, f2⟩, f3⟩, f4⟩, g1⟩, g2⟩, gl⟩, gn⟩, gi⟩, gc⟩, gv1⟩, gv2⟩, gbx⟩, gx1⟩, hnd⟩, wl⟩, wn⟩, wi⟩ := hs
 simp only [List.nodup_cons, List.mem_cons, List.not_mem_nil, or_false, not_or, not_false_eq_true, List.nodup_nil, and_true] at hnd
 obtain ⟨⟨lan, lai, lac, lav1, lav2, labx, lax1⟩, ⟨nai, nac, nav1, nav2, nabx, nax1⟩, ⟨iac, iav1, iav2, iabx, iax1⟩, ⟨cav1, cav2, cabx, cax1⟩, ⟨v1v2, v1bx, v1x1⟩, ⟨v2bx, v2x1⟩, bxx1⟩ := hnd
 obtain ⟨yj, hyj⟩ : ∃ y, y = x.g.L.getD j .zero := ⟨_, rfl⟩
 show Code.wp P _ (fun e' a' w' => e' = .normal /\ FA Γ x a' w' /\ Cur σ x.F x.blk 0 (v.1.set i (if (x.g.L.getD j .zero).Z = true then .nul else .list ((x.g.L.getD j .zero).L.map E) false), v.2) w') a w
 rw [<- hyj] at hlen hall ⊢
 -- whether it is null
 obtain ⟨T0, hb0⟩ := hA.hb
 refine wp_seq (wp_region_lit (Zv rfl (x_loadN (cs := x.ct.toList) (b := x.tblk) (o := 0) (by rw [Array.length_toList, hA.ct]; exact hmT) (by rw [Ze, hA.tree]) (fun j v hv => by rw [Zc hb0, Nat.zero_add]; simpa using hv)) ?_))
 have hA2 := hA.put f1 (.agg x.ct.toList.toArray)
 have q2 : Act.get (a.put (some t1) (.agg x.ct.toList.toArray)) t1 = .agg x.ct := by rw [Zq (hA.lt f1)]
 generalize a.put (some t1) (.agg x.ct.toList.toArray) = a2 at *
 have ee : (#[Operand.tmp t1, .const (.int .i64 (j : Nat))] : Array Operand).map a2.eval = #[.agg x.ct, .int .i64 (j : Nat)] := by
  simp [Ze, q2]; rfl
 refine wpl_call rfl (Zy hbd rfl) (by rw [ee]; exact hat' hA.mod hA.ct hA.tr) ?_
 rintro e' w1 ⟨m1, cs, rfl, hcs, hT⟩
 rw [<- hyj] at hT
 obtain ⟨sv, lv, uv, f, g, rfl, hn, hS, hL, hLs, _⟩ := tree_cells hT hcs
 refine ⟨_, rfl, Zv rfl (x_fieldO (v := .bool yj.Z) h2f (by rw [Ze, Zq (hA2.lt f2)]) rfl) (Zv rfl (x_notV (b := yj.Z) (c := !yj.Z) ?_ rfl) (wpList_nil ?_))⟩
 ·rw [Ze, Zq (by rw [Zs]; exact hA2.lt f3)]
 refine wp_act (fun b : Act => FA Γ x b w1 /\ Act.get b t4 = .bool (!yj.Z)) ⟨(((hA2.new m1).put f2 _).put f3 _).put f4 _, ?_⟩ ?_
 ·rw [Zq (by simp only [Zs]; exact hA2.lt f4)]
 rintro b ⟨hB, b4⟩
 have hC1 : Cur σ x.F x.blk 0 v w1 := hC.later m1 (fun f => f) (fun _ _ f => f)
 cases hyz : yj.Z with
 | true =>
  refine wp_cond_false (by rw [Ze, b4, hyz]; rfl) (wp_skip ⟨rfl, hB, ?_⟩)
  rw [if_pos rfl, set_again hz]
  exact hC1
 | false =>
  refine wp_cond_true (by rw [Ze, b4, hyz]; rfl) (wp_seq (wp_mono (hmk x v b w1 hB hC1 hz (by rw [<- hyj]; exact hlen)) ?_))
  rintro e' a3 w3 ⟨rfl, B, hL3⟩
  rw [if_neg (by simp)]
  clear b4 hB
  have hA3 := hL3.fa
  obtain ⟨T3, hb3⟩ := hA3.hb
  refine wp_seq (wp_region_lit (Zv rfl (x_loadN (cs := x.ct.toList) (b := x.tblk) (o := 0) (by rw [Array.length_toList, hA3.ct]; exact hmT) (by rw [Ze, hA3.tree]) (fun j v hv => by rw [Zc hb3, Nat.zero_add]; simpa using hv)) ?_))
  have hL4 := hL3.put g1 (.agg x.ct.toList.toArray)
  have q4 : Act.get (a3.put (some u1) (.agg x.ct.toList.toArray)) u1 = .agg x.ct := by rw [Zq (hA3.lt g1)]
  generalize a3.put (some u1) (.agg x.ct.toList.toArray) = a4 at *
  have ee4 : (#[Operand.tmp u1, .const (.int .i64 (j : Nat))] : Array Operand).map a4.eval = #[.agg x.ct, .int .i64 (j : Nat)] := by
   simp [Ze, q4]; rfl
  refine wpl_call rfl (Zy hbd rfl) (by rw [ee4]; exact hat' hA3.mod hA3.ct hA3.tr) ?_
  rintro e' w4 ⟨m4, cs4, rfl, hcs4, hT4⟩
  rw [<- hyj] at hT4
  obtain ⟨sv4, lv4, uv4, f4', g4', rfl, hn4, hS4, hE4, hLs4, _⟩ := tree_cells hT4 hcs4
  have hL5 := hL4.new hr hsz m4
  obtain ⟨ao, cap, hlv⟩ := hE4.slice
  have hA4 := hL4.fa
  refine ⟨_, rfl, Zv rfl (x_fieldO (v := lv4) h3f (by rw [Ze, Zq (hA4.lt g2)]) rfl) (Zv rfl (x_len (by rw [h5]; rfl) hts (ao := ao) (cap := cap) (n := yj.L.length) ?_) (Zv rfl Zm (wpList_nil ?_)))⟩
  ·rw [Ze, Zq (by rw [Zs]; exact hA4.lt gl), hlv]
  refine wp_act (fun b : Act => LS Γ σ x o ety sz e B v b w4 [] /\ Act.get b ul = lv4 /\ Act.get b un = .int .i64 (yj.L.length : Nat) /\ Act.get b ui = .int .i64 (0 : Nat)) ⟨(((hL5.put g2 _).put gl _).put gn _).put gi _, ?_, ?_, ?_⟩ ?_
  ·rw [Zn (Ne.symm lai), Zn (Ne.symm lan), Zq (by simp only [Zs]; exact hA4.lt gl)]
  ·rw [Zn (Ne.symm nai), Zq (by simp only [Zs]; exact hA4.lt gn)]
  ·rw [Zq (by simp only [Zs]; exact hA4.lt gi)]; rfl
  clear hL5 hL4 hA4 q4 ee4 hA3 hL3
  rintro a5 ⟨hL5, s1, s2, s3⟩
  refine wp_for2
   (I := fun m a w => ∃ q, q + m = yj.L.length /\ LS Γ σ x o ety sz e B v a w ((yj.L.take q).map E) /\ Act.get a ul = lv4 /\ Act.get a un = .int .i64 (yj.L.length : Nat) /\ Act.get a ui = .int .i64 (q : Nat))
   (J := fun m a w => ∃ q, q + (m + 1) = yj.L.length /\ LS Γ σ x o ety sz e B v a w ((yj.L.take q).map E) /\ Act.get a ul = lv4 /\ Act.get a un = .int .i64 (yj.L.length : Nat) /\ Act.get a ui = .int .i64 (q : Nat))
   (K := fun m a w => ∃ q, q + (m + 1) = yj.L.length /\ LS Γ σ x o ety sz e B v a w ((yj.L.take (q + 1)).map E) /\ Act.get a ul = lv4 /\ Act.get a un = .int .i64 (yj.L.length : Nat) /\ Act.get a ui = .int .i64 (q : Nat)) yj.L.length ?_ ?_ ?_ ?_
  ·exact ⟨0, by omega, by simpa using hL5, s1, s2, s3⟩
  ·rintro m a6 w6 ⟨q, hq, hL6, r1, r2, r3⟩
   have hA6 := hL6.fa
   refine wp_region_lit (Zv rfl (x_lss (k := .i64) (m := (q : Nat)) (n := (yj.L.length : Nat)) (by rw [Ze, r3]) (by rw [Ze, r2])) (wpList_nil ⟨rfl, ?_⟩))
   rw [Zq (hA6.lt gc)]
   cases m with
   | zero =>
    right
    have hqe : q = yj.L.length := by omega
    refine ⟨by congr 1; simp; omega, rfl, hL6.fa.put gc _, ?_⟩
    rw [hqe, List.take_length] at hL6
    exact hL6.fin hr hsz hat hok (by simp; omega)
   | succ m =>
    left
    refine ⟨m, rfl, by congr 1; simp; omega, q, by omega, hL6.put gc _, ?_, ?_, ?_⟩
    ·rw [Zn (Ne.symm lac), r1]
    ·rw [Zn (Ne.symm nac), r2]
    ·rw [Zn (Ne.symm iac), r3]
  ·rintro m a6 w6 ⟨q, hq, hL6, r1, r2, r3⟩
   have hql : q < yj.L.length := by omega
   have hA6 := hL6.fa
   rcases hE4 with ⟨h0, _⟩ | ⟨kb, off, cap', C, tC, fr, c1, c2, c3, c4, c5⟩
   ·omega
   have c4' := hA6.mod.some c4 (fun f => f)
   have hTq := hLs4 q hql
   refine wp_seq (wp_region_lit (Zv rfl (Zx (sz := 5) (i := q) (b := kb) (o := off) (n := yj.L.length) (cap := cap') (k := .i64) h5 (by rw [Ze, r1, c1]) (by rw [Ze, r3]) hql) ?_))
   have n1 : Act.get (a6.put (some v1) (.pointer (some ⟨kb, off + q * 5, none⟩))) v1 = .pointer (some ⟨kb, off + q * 5, none⟩) := Zq (hA6.lt gv1)
   refine Zv rfl (x_loadN (cs := [f4' q 0, f4' q 1, f4' q 2, f4' q 3, f4' q 4]) (b := kb) (o := off + q * 5) hmT (by rw [Ze]; exact n1) (range5 fun j hj => by rw [Zc c4']; exact c5 q hql j hj)) (Zv rfl (x_alloc hzT) ?_)
   obtain ⟨cq, hcq⟩ : ∃ cq : Array Value, cq = #[f4' q 0, f4' q 1, f4' q 2, f4' q 3, f4' q 4] := ⟨_, rfl⟩
   have hcq5 : cq.size = 5 := by rw [hcq]; rfl
   have hTc : TreeI x.w0 (from' cq 0) yj.L[q] := by rw [hcq]; exact hTq.congr (from5 (f4' q))
   have hall5 : cq.all (·.oneCell') = true := by rw [hcq]; exact all5 hTq.one
   rw [show ([f4' q 0, f4' q 1, f4' q 2, f4' q 3, f4' q 4] : List Value).toArray = cq by rw [hcq]]
   have r1' := Zh w6 (.cells (Value.agg #[.int .i64 0, .slice none 0 0, .bool false, .slice none 0 0, .slice none 0 0]).cells TT)
   have m7 : Mod none' w6 (w6.alloc (.cells (Value.agg #[.int .i64 0, .slice none 0 0, .bool false, .slice none 0 0, .slice none 0 0]).cells TT)) := (Mod.refl w6).alloc _
   generalize w6.alloc (.cells (Value.agg #[.int .i64 0, .slice none 0 0, .bool false, .slice none 0 0, .slice none 0 0]).cells TT) = w7 at *
   obtain ⟨xb, hxb⟩ : ∃ b, b = w6.heap.size := ⟨_, rfl⟩
   rw [<- hxb] at r1' ⊢
   refine wpl_skip rfl (x_storeN (cs := cq) (b := xb) (o := 0) (by rw [hcq5]; exact hsT) ?_ ?_ hall5 ?_) (wpList_nil ?_)
   ·rw [Ze, Zq (by simp only [Zs]; exact hA6.lt gbx)]
   ·rw [Ze, Zn (Ne.symm v2bx), Zq (by simp only [Zs]; exact hA6.lt gv2)]
   ·intro j hj
    rw [Zc r1', Zz r1', Nat.zero_add, Array.getElem?_eq_getElem (by show j < 5; omega)]
    exact ⟨rfl, rfl⟩
   rw [Zo]
   have k2 := put_tree (cs := cq) r1' (by rw [hcq5]; rfl)
   have m8 := mod_setCells xb w7 0 cq.toList
   have m68 : Mod none' w6 (w7.setCells xb 0 cq.toList) := m7.trans' m8 (fun _ _ f => f) (fun j hj e => by have e' : j = xb := e; omega)
   generalize w7.setCells xb 0 cq.toList = w8 at *
   have hL8 := (((hL6.new hr hsz m68).put gv1 (.pointer (some ⟨kb, off + q * 5, none⟩))).put gv2 (.agg cq)).put gbx (.pointer (some ⟨xb, 0, none⟩))
   have hlq : ((yj.L.take q).map E).length = q := by rw [List.length_map, List.length_take]; omega
   refine wp_mono (hap x v _ w8 B _ cq yj.L[q] xb TT hL8 (Zq (by simp only [Zs]; exact hA6.lt gbx)) k2 ?_ hcq5 hTc (hall _ (List.getElem_mem hql)) (by rw [hlq]; omega)) ?_
   ·intro C' t' g' cap'' hb' hc'
    obtain ⟨C0, t0, g0, cap0, lrow0, k1', k2', _, k4'⟩ := hL6.mem
    have e8 := m68.some k1' (fun f => f)
    rw [e8] at hb'
    obtain ⟨rfl, rfl⟩ : C0 = C' /\ t0 = t' := by simpa using hb'
    rw [k2'] at hc'
    have : g0 = g' := by simp at hc'; exact hc'.1
    have := (k4'.own.lt g0 rfl).2
    omega
   rintro e' a9 w9 ⟨rfl, hL9, hsb9⟩
   refine ⟨rfl, q, hq, ?_, ?_, ?_, ?_⟩
   ·rw [List.take_succ_eq_append_getElem hql, List.map_append]; exact hL9
   ·rw [hsb9.get _ wl, Zn (Ne.symm labx), Zn (Ne.symm lav2), Zn (Ne.symm lav1), r1]
   ·rw [hsb9.get _ wn, Zn (Ne.symm nabx), Zn (Ne.symm nav2), Zn (Ne.symm nav1), r2]
   ·rw [hsb9.get _ wi, Zn (Ne.symm iabx), Zn (Ne.symm iav2), Zn (Ne.symm iav1), r3]
  ·rintro m a6 w6 ⟨q, hq, hL6, r1, r2, r3⟩
   have hA6 := hL6.fa
   refine wp_region_lit (Zv rfl (x_add (k := .i64) (m := (q : Nat)) (n := 1) (by rw [Ze, r3]) rfl) (Zv rfl Zm (wpList_nil ⟨rfl, q + 1, by omega, (hL6.put gx1 _).put gi _, ?_, ?_, ?_⟩)))
   ·rw [Zn (Ne.symm lai), Zn (Ne.symm lax1), r1]
   ·rw [Zn (Ne.symm nai), Zn (Ne.symm nax1), r2]
   ·rw [Zq (by simp only [Zs]; exact hA6.lt gi), Ze, Zq (hA6.lt gx1)]
    congr 1
    rw [IntKind.wrap_i64]; omega
end
end Go.Proofs.Ythkpmmjcmldjhaa
set_option linter.unusedSimpArgs false
set_option linter.unusedVariables false
namespace Go.Proofs.Ythkpmmjcmldjhaa
open Go Go.RowKit
section
variable {P : Program} {Γ : Fl} {σ : St} {lay : Lay} {i j ot kt T TT TG LG U32 LB fset bx d0 d1 d2 d3 d4 d5 d6 d7 t1 u1 ul un ui uc v1 v2 x1 id i1 i2 i3 i4 b0 b1 : Nat} {cs : Code}
 {y0 y1 y2 y3 y4 y5 y6 y7 y8 y9 y10 y11 y12 y13 y14 y15 y16 yb yc yd yf : TypeId} {p0 p1 p2 p3 p4 p5 p6 p7 p8 p9 p10 p11 p12 p13 p14 p15 p16 : String} {e0 e1 e2 e3 e4 e5 e6 e7 e8 e9 e10 e11 e12 e13 e14 e15 e16 : Array Edge} {ts ts3 : Array TypeId}
theorem tag_make (hc : SetTagC P fset) (hbd : bodied P fset = true) (hf : fieldOff P T kt = some ot) (hg0 : fieldOff P TG 0 = some 0) (hg1 : fieldOff P TG 1 = some 1) (h32 : one P U32 = true) (hLB : one P LB = true) (hl : lay.ok 0 ot = true)
  (hs : ([d2, d3, d4, d5, d6].all (fun d => Γ.free d && d != bx) && decide ([d2, d3, d4, d5, d6] : List Nat).Nodup && Γ.free d7) = true) :
  TagE P Γ lay (.region id #[⟨some d2, .fieldAddr T (.tmp Γ.s) kt, y2, p2, e2, none⟩, ⟨some d3, .fieldAddr TG (.tmp bx) 0, y3, p3, e3, none⟩, ⟨some d4, .load U32 (.tmp d3), y4, p4, e4, none⟩,
   ⟨some d5, .fieldAddr TG (.tmp bx) 1, y5, p5, e5, none⟩, ⟨some d6, .load LB (.tmp d5), y6, p6, e6, none⟩, ⟨some d7, .call ⟨.value (.func fset), #[.tmp d2, .tmp d4, .tmp d6], ts⟩, y7, p7, e7, none⟩] false) bx ot := by
 intro x vs a w n B u xb T' vv p hL hbx hxb ho hp hu
 simp only [Bool.and_eq_true, List.all_eq_true, decide_eq_true_eq, bne_iff_ne] at hs
 obtain ⟨⟨hdl, hnd⟩, h7⟩ := hs
 simp only [List.nodup_cons, List.mem_cons, List.not_mem_nil, or_false, not_or, not_false_eq_true, List.nodup_nil, and_true] at hnd
 obtain ⟨⟨n23, n24, n25, n26⟩, ⟨n34, n35, n36⟩, ⟨n45, n46⟩, n56⟩ := hnd
 have f2 := hdl d2 (by simp)
 have f3 := hdl d3 (by simp)
 have f4 := hdl d4 (by simp)
 have f5 := hdl d5 (by simp)
 have f6 := hdl d6 (by simp)
 have hA := hL.fa
 have L := fun {t} (h : Γ.free t = true) => hA.lt (t := t) h
 refine wp_region_lit (Zv rfl (Za hf (b := x.blk) (o0 := 0) (by rw [Ze]; exact hA.ptr)) (Zv rfl (Za hg0 (b := xb) (o0 := 0) ?_) (Zv rfl (Zl h32 (b := xb) (o := 0 + 0) (v := .int .u32 p.1) ?_ (by rw [Zc hxb]; rfl)) (Zv rfl (Za hg1 (b := xb) (o0 := 0) ?_) (Zv rfl (Zl hLB (b := xb) (o := 0 + 1) (v := vv) ?_ (by rw [Zc hxb]; rfl)) ?_)))))
 ·rw [Ze, Zn f2.2]; exact hbx
 ·rw [Ze, Zq (by rw [Zs]; exact L f3.1)]
 ·rw [Ze, Zn f4.2, Zn f3.2, Zn f2.2]; exact hbx
 ·rw [Ze, Zq (by simp only [Zs]; exact L f5.1)]
 have hL2 := ((((hL.put f2.1 (.pointer (some ⟨x.blk, 0 + ot, none⟩))).put f3.1 (.pointer (some ⟨xb, 0 + 0, none⟩))).put f4.1 (.int .u32 p.1)).put f5.1 (.pointer (some ⟨xb, 0 + 1, none⟩))).put f6.1 vv
 have q2 : Act.get (((((a.put (some d2) (.pointer (some ⟨x.blk, 0 + ot, none⟩))).put (some d3) (.pointer (some ⟨xb, 0 + 0, none⟩))).put (some d4) (.int .u32 p.1)).put (some d5) (.pointer (some ⟨xb, 0 + 1, none⟩))).put (some d6) vv) d2 = .pointer (some ⟨x.blk, 0 + ot, none⟩) := by
  rw [Zn (Ne.symm n26), Zn (Ne.symm n25), Zn (Ne.symm n24), Zn (Ne.symm n23), Zq (L f2.1)]
 have q4 : Act.get (((((a.put (some d2) (.pointer (some ⟨x.blk, 0 + ot, none⟩))).put (some d3) (.pointer (some ⟨xb, 0 + 0, none⟩))).put (some d4) (.int .u32 p.1)).put (some d5) (.pointer (some ⟨xb, 0 + 1, none⟩))).put (some d6) vv) d4 = .int .u32 p.1 := by
  rw [Zn (Ne.symm n46), Zn (Ne.symm n45), Zq (by simp only [Zs]; exact L f4.1)]
 have q6 : Act.get (((((a.put (some d2) (.pointer (some ⟨x.blk, 0 + ot, none⟩))).put (some d3) (.pointer (some ⟨xb, 0 + 0, none⟩))).put (some d4) (.int .u32 p.1)).put (some d5) (.pointer (some ⟨xb, 0 + 1, none⟩))).put (some d6) vv) d6 = vv := by
  rw [Zq (by simp only [Zs]; exact L f6.1)]
 have hsb : SameBut (fun t => t = d2 \/ t = d3 \/ t = d4 \/ t = d5 \/ t = d6) a (((((a.put (some d2) (.pointer (some ⟨x.blk, 0 + ot, none⟩))).put (some d3) (.pointer (some ⟨xb, 0 + 0, none⟩))).put (some d4) (.int .u32 p.1)).put (some d5) (.pointer (some ⟨xb, 0 + 1, none⟩))).put (some d6) vv) :=
  (((((SameBut.refl a).put (.inl rfl) _).put (.inr (.inl rfl)) _).put (.inr (.inr (.inl rfl))) _).put (.inr (.inr (.inr (.inl rfl)))) _).put (.inr (.inr (.inr (.inr rfl)))) _
 refine wpl_abs (fun b => TgS Γ lay x ot n B vs b w u /\ Act.get b d2 = .pointer (some ⟨x.blk, 0 + ot, none⟩) /\ Act.get b d4 = .int .u32 p.1 /\ Act.get b d6 = vv /\ SameBut (fun t => t = d2 \/ t = d3 \/ t = d4 \/ t = d5 \/ t = d6) a b) ⟨hL2, q2, q4, q6, hsb⟩ ?_
 rintro b ⟨hLb, r2, r4, r6, hsb'⟩
 have ee : (#[Operand.tmp d2, .tmp d4, .tmp d6] : Array Operand).map b.eval = #[.pointer (some ⟨x.blk, 0 + ot, none⟩), .int .u32 p.1, vv] := by simp [Ze, r2, r4, r6]
 refine wpl_call rfl (Zy hbd rfl) (by rw [ee]; exact ts_set hc hLb ho hp hu (fun C C' w h1 h2 => lay_off (sz := 0) hl h1 h2)) ?_
 rintro e w2 ⟨r', rfl, hL3⟩
 refine ⟨_, rfl, wpList_nil ⟨rfl, hL3.put h7 _, ?_⟩⟩
 refine ((hsb'.mono fun t ht => ?_).put ?_ _)
 ·rcases ht with rfl | rfl | rfl | rfl | rfl <;> simp [W, writes]
 ·simp [W, writes]
end
end Go.Proofs.Ythkpmmjcmldjhaa
set_option linter.unusedSimpArgs false
set_option linter.unusedVariables false
namespace Go.Proofs.Ythkpmmjcmldjhaa
open Go Go.RowKit
section
variable {P : Program} {Γ : Fl} {σ : St} {K : Fx -> Exit -> Act -> World -> List Tr -> Prop} {c c1 c2 : Code} {i j ot : Nat} {f : FD} {fs : List FD}
/-- the struct is given back -/
def KM (σ : St) (ot r : Nat) : Fx -> Exit -> Act -> World -> List Tr -> Prop := fun x e a' w' vs => e = .ret /\ a'.defers = [] /\ Mod none' x.w0 w' /\ Mod none' x.w1 w' /\ Act.get a' r = .pointer (some ⟨x.rb, 0, none⟩) /\
 ∃ (C : Array Value) (t : Nat), w'.heap[x.rb]? = some (.cells C t (0, 0)) /\ C.size = σ.sz /\ C.all (·.oneCell') = true /\ Rep w' (fun k => k < x.w0.heap.size \/ x.e <= k) (.struct σ.lay (some ot) σ.sz) (from' C 0) (.part vs x.g.U)
theorem rest_ret {d r T id : Nat} {y1 y2 : TypeId} {p1 p2 : String} {e1 e2 : Array Edge} (htg : σ.tg = none) (h : TagsSet P Γ σ ot c) (hr : Γ.r = some r) (hmT : many P T σ.sz = true) (hsT : sized P T σ.sz = true) (hfull : (Ty.struct σ.lay (some ot) σ.sz).full = true) (hok : (Ty.struct σ.lay (some ot) σ.sz).ok = true) (hrn : Γ.rn = σ.sz) (hs : Γ.free d = true) :
  Rest P Γ σ (KM σ ot r) (.seq c (.seq (.region id #[⟨some d, .load T (.tmp Γ.s), y1, p1, e1, none⟩, ⟨none, .store T (.tmp r) (.tmp d), y2, p2, e2, none⟩] false) .ret)) i j [] := by
 intro x v a w hA hC hl _ _ hU
 refine wp_seq (wp_mono (h x v.1 a w hA (cur_notag htg hC) hU) ?_)
 rintro e a1 w1 ⟨rfl, hA1, hC1⟩
 have hl' : v.1.length = i := by simpa using hl
 rw [show v.1.take i ++ fillsW [] j x.g = v.1 by simp [fillsW, <- hl']]
 obtain ⟨C, t, h1, h2, h3, h4⟩ := hC1.mem
 obtain ⟨r1, r2, r3, r6, Cr, tr, r4, r5⟩ := hA1.res r hr
 have hsz : C.size ≥ σ.sz := by have : 0 + σ.sz <= C.size := h2; omega
 obtain ⟨cs, hcs⟩ : ∃ cs, cs = (C.toList.take σ.sz).toArray := ⟨_, rfl⟩
 have hcsz : cs.size = σ.sz := by rw [hcs]; simp; omega
 have hcsj : ∀ j, j < σ.sz -> from' cs 0 j = from' C 0 j := fun j hj => by
  rw [hcs]
  simp only [from', Nat.zero_add, Array.getD_eq_getD_getElem?, List.getElem?_toArray, List.getElem?_take, if_pos hj, Array.getElem?_toList]
 have hrep : Rep w1 x.F (.struct σ.lay (some ot) σ.sz) (from' cs 0) (.part v.1 x.g.U) := by
  refine Rep.congr _ (from' C 0) _ _ hok (fun j hj => hcsj j hj) ?_
  simp only [Rep]
  exact ⟨v.1, x.g.U, h3, h4, rfl⟩
 have hall : cs.all (·.oneCell') = true := by
  rw [Array.all_eq_true]
  intro q hq
  have := Rep.ones _ _ _ hfull hrep q (by simp only [Ty.size]; omega)
  simpa [from', hq] using this
 refine wp_seq (wp_region_lit (Zv rfl (x_loadN (cs := cs.toList) (b := x.blk) (o := 0) (by rw [Array.length_toList, hcsz]; exact hmT) (by rw [Ze]; exact hA1.ptr) (fun q u hu => ?_)) ?_))
 ·rw [Zc h1, Nat.zero_add]
  rw [hcs] at hu
  simp only [List.getElem?_take] at hu
  split at hu
  ·rw [Array.getElem?_toList] at hu; exact hu
  ·cases hu
 have hd : Γ.r ≠ some d := (Fl.free_all hs).2.2.2
 have r5' : Cr.size = σ.sz := r5.trans hrn
 refine wpl_skip rfl (x_storeN (cs := cs) (b := x.rb) (o := 0) (by rw [hcsz]; exact hsT) ?_ ?_ hall ?_) (wpList_nil (wp_ret ?_))
 ·rw [Ze, Zn (fun e => hd (by rw [hr, e]))]; exact r1
 ·rw [Ze, Zq (hA1.lt hs)]
 ·intro j hj
  rw [Zc r4, Zz r4, Nat.zero_add, Array.getElem?_eq_getElem (by omega)]
  exact ⟨rfl, rfl⟩
 have k2 := put_tree (cs := cs) r4 (by omega)
 have m8 := mod_setCells x.rb w1 0 cs.toList
 have hmz := hA1.we
 refine ⟨rfl, ?_, hA1.mod.trans' m8 (fun _ _ f => f) (fun q hq e => ?_), hA1.m1.1.trans' m8 (fun _ _ f => f) (fun q hq e => ?_), ?_, cs, tr, k2, hcsz, hall, ?_⟩
 ·simp only [Zd]; exact hA1.defers
 ·have e' : q = x.rb := e
  omega
 ·have e' : q = x.rb := e
  have := hA1.m1.2.2.2 r hr
  omega
 ·rw [Zo, Zn (fun e => hd (by rw [hr, e]))]; exact r1
 ·exact hrep.mod m8 (fun k hk e => by have e' : k = x.rb := e; rcases hk.1 with h | h <;> omega) (fun k hk => hk.1)
end
end Go.Proofs.Ythkpmmjcmldjhaa
set_option linter.unusedSimpArgs false
set_option linter.unusedVariables false
namespace Go.Proofs.Ythkpmmjcmldjhaa
open Go Go.RowKit
section
variable {P : Program} {σ : St} {fn : Func} {f ot N TT T i0 i1 : Nat} {rest : Code} {fs : List FD} {y1 y2 y3 : TypeId} {p1 p2 p3 : String} {e1 e2 e3 : Array Edge}
/-- a function that makes a struct within -/
theorem make_top (hf : P.funcs[f]? = some fn) (hN : fn.ntmps = N) (hres : fn.results = #[.cell 2 T]) (htg : σ.tg = none) (h4 : 4 <= N) (hbody : fn.body = some (.seq (.region i0 #[⟨some 1, .box TT (.tmp 0), y1, p1, e1, none⟩, ⟨some 2, .alloc T, y2, p2, e2, none⟩] false) (.seq (.region i1 #[⟨some 3, .alloc T, y3, p3, e3, none⟩] false) rest)))
  (hot : ot < σ.sz) {z : Value} (hz : zeroOf P T = some z) (hzs : z.cells.size = σ.sz) (hz0 : ∀ w F, RepL w F σ.lay (from' z.cells 0) (zerosW fs)) (hzt : z.cells[ot]? = some (.map none)) (hmT : many P T σ.sz = true)
  (hrest : Rest P ⟨N, 1, 3, some ot, some 2, σ.sz⟩ σ (KM σ ot 2) rest 0 0 fs) : ValC P f (.struct σ.lay (some ot) σ.sz) (fun y => .part (fillsW fs 0 y) y.U) (fun y => goksW fs 0 y /\ UOk y.U) := by
 rintro w0 w cs y hm0 hcs hT ⟨hg, hU⟩
 refine calls_of_wp hf hbody ?_
 rw [hN]
 refine wp_act (fun a : Act => Act.get a 0 = .agg cs /\ a.tmps.size = N /\ a.defers = []) ⟨by rw [Zj _ _ _ (by simp)]; rfl, by simp; omega, rfl⟩ ?_
 rintro a ⟨a0, aN, ad⟩
 refine wp_seq (wp_region_lit (Zv rfl x_box (Zv rfl (x_alloc hz) (wpList_nil ?_))))
 rw [show a.eval (.tmp 0) = .agg cs from a0]
 obtain ⟨r1, m1⟩ := box_tree (w := w) (cs := cs) TT
 generalize w.alloc (.cells (Value.agg cs).cells TT) = w1 at *
 have r2 := Zh w1 (.cells z.cells T)
 have m2 : Mod none' w1 (w1.alloc (.cells z.cells T)) := (Mod.refl w1).alloc _
 have z2 : (w1.alloc (.cells z.cells T)).heap.size = w1.heap.size + 1 := by simp
 generalize w1.alloc (.cells z.cells T) = w2 at *
 refine wp_seq (wp_region_lit (Zv rfl (x_alloc hz) (wpList_nil ?_)))
 have r3 := Zh w2 (.cells z.cells T)
 have m3 : Mod none' w2 (w2.alloc (.cells z.cells T)) := (Mod.refl w2).alloc _
 have z3 : (w2.alloc (.cells z.cells T)).heap.size = w2.heap.size + 1 := by simp
 generalize w2.alloc (.cells z.cells T) = w3 at *
 have hb1 := lt_of_block r1
 have hs0 := hm0.size
 have m03 : Mod none' w0 w3 := ((hm0.trans m1).trans m2).trans m3
 have hlt : 0 + ot < z.cells.size := by omega
 have hFA : FA ⟨N, 1, 3, some ot, some 2, σ.sz⟩ ⟨w2.heap.size, w.heap.size, cs, y, w0, w3.heap.size, w1.heap.size, w⟩ (((a.put (some 1) (.pointer (some ⟨w.heap.size, 0, none⟩))).put (some 2) (.pointer (some ⟨w1.heap.size, 0, none⟩))).put (some 3) (.pointer (some ⟨w2.heap.size, 0, none⟩))) w3 :=
  ⟨by simp only [Zs]; exact aN, by simp only [Zd]; exact ad, by show Act.get _ 1 = _; rw [Zn (d := 3) (t := 1) (by decide), Zn (d := 2) (t := 1) (by decide), Zq (by omega)], by show Act.get _ 3 = _; rw [Zq (by simp only [Zs]; omega)], ⟨_, (m2.trans m3).some r1 (fun f => f)⟩, hcs, hT, m03, ⟨by show w0.heap.size <= w2.heap.size; omega, hs0, by show w2.heap.size ≠ w.heap.size; omega⟩, Nat.le_refl _, fun q hq => by
   obtain rfl : ot = q := by simpa using hq
   exact ⟨z.cells, T, r3, by rw [Nat.zero_add]; exact hzt⟩, by show w0.heap.size <= w3.heap.size; omega, fun q hq => by
   obtain rfl : 2 = q := by simpa using hq
   refine ⟨by rw [Zn (d := 3) (t := 2) (by decide), Zq (by simp only [Zs]; omega)], by show w1.heap.size < w3.heap.size; omega, by show w1.heap.size ≠ w2.heap.size; omega, by show w0.heap.size <= w1.heap.size; omega, z.cells, T, m3.some r2 (fun f => f), hzs⟩, (m1.trans m2).trans m3, by show w.heap.size <= w2.heap.size; omega, by show w.heap.size <= w3.heap.size; omega, fun q hq => by show w.heap.size <= w1.heap.size; omega⟩
 have hC1 : Cur σ (Fx.F ⟨w2.heap.size, w.heap.size, cs, y, w0, w3.heap.size, w1.heap.size, w⟩) w2.heap.size 0 (zerosW fs, []) w3 := by
  refine ⟨z.cells, T, r3, by omega, hz0 _ _, ?_⟩
  rw [htg]
 refine wp_mono (hrest _ (zerosW fs, []) _ w3 hFA hC1 (by simp [zerosW_length]) (fun k hk => ?_) hg hU) ?_
 ·show (zerosW fs)[0 + k]? = _
  rw [Nat.zero_add]
  exact zerosW_at fs k hk
 rintro e a2 w4 ⟨rfl, g1, g2, hmz, g3, C, t, g4, g5, g6, g7⟩
 refine bodyPost_ret (results_cellN hres (b := w1.heap.size) (o := 0) (cs := C.toList) g3 (by rw [Array.length_toList, g5]; exact hmT) (fun j v hv => by rw [Zc g4, Nat.zero_add]; simpa using hv)) g1 ⟨_, rfl, hmz, .inr ⟨C, by simp, g5, g6, ?_⟩⟩
 exact g7.mod (Mod.refl (S := none') w4) (fun _ _ f => f) (fun k hk => hk.imp id fun h => by have : w3.heap.size <= k := h; omega)
end
end Go.Proofs.Ythkpmmjcmldjhaa
set_option linter.unusedSimpArgs false
set_option linter.unusedVariables false
namespace Go.Proofs.Ythkpmmjcmldjhaa
open Go Go.RowKit
section
variable {fr to nl g d of : Int} {sub : List FD} {y : Tr}
theorem fk_i16 : Tr.num (IntKind.i16.wrap y.N) = fillW (.mk 2 fr to nl g d of sub) y := by simp [fillW, fillL, expL]
theorem fk_str (h : nl < 0) : Tr.oct y.S = fillW (.mk 8 fr to nl g d of sub) y := by simp [fillW, fillL, show ¬ 0 <= nl by omega]
theorem fk_pstr (h : 0 <= nl) : (if y.Z = true then Tr.nul else .oct y.S) = fillW (.mk 8 fr to nl g d of sub) y := by simp [fillW, fillL, h]
theorem fk_list : (if y.Z = true then Tr.nul else .list (y.L.map fun x => Tr.part (fillsW sub 0 x) x.U) false) = fillW (.mk 11 fr to nl g d 10 sub) y := by simp [fillW]
theorem fo_text (h : gokW (.mk 8 fr to nl g d of sub) y) : y.S.length <= 32767 := by simp [gokW, gokL] at h; exact h
theorem fo_list (h : gokW (.mk 11 fr to nl g d 10 sub) y) : y.L.length <= 32767 /\ ∀ x ∈ y.L, goksW sub 0 x /\ UOk x.U := by simpa [gokW] using h
end
end Go.Proofs.Ythkpmmjcmldjhaa
set_option linter.unusedSimpArgs false
set_option linter.unusedVariables false
namespace Go.Proofs.Ythkpmmjcmldjhaa
open Go Go.RowKit
abbrev fs_UpdateFeaturesResponse : List FD := [.mk 3 0 (-1) (-1) (-1) 0 0 [], .mk 2 0 (-1) (-1) (-1) 0 0 [], .mk 8 0 (-1) 0 (-1) 0 0 [], .mk 11 0 1 (-1) (-1) 0 10 [.mk 8 0 (-1) (-1) (-1) 0 0 [], .mk 2 0 (-1) (-1) (-1) 0 0 [], .mk 8 0 (-1) 0 (-1) 0 0 []]]
abbrev fl_UpdateFeaturesResponse : Int -> Bool := fun ver => decide ((0 : Int) <= ver)
abbrev ok_UpdateFeaturesResponse : OkV := fun ver fl => 0 <= ver /\ ver <= 2 /\ fl = fl_UpdateFeaturesResponse ver
abbrev aUpdateFeaturesResponse : St := ⟨0, .cons 0 (.int .i16) (.cons 1 (.int .i32) (.cons 2 (.int .i16) (.cons 3 .pstr (.cons 4 (.list (.struct (.cons 0 .str (.cons 1 (.int .i16) (.cons 2 .pstr .nil))) (some 3) 4) 4) .nil)))), some 5, 6⟩
abbrev aUpdateFeaturesResponse_1 : St := ⟨12, .cons 0 .str (.cons 1 (.int .i16) (.cons 2 .pstr .nil)), some 3, 4⟩
set_option maxRecDepth 100000 in
theorem app_UpdateFeaturesResponse : AppToC Try.prog 49 aUpdateFeaturesResponse (fun ver => decide ((0 : Int) <= ver)) ok_UpdateFeaturesResponse fs_UpdateFeaturesResponse := by
 refine app_top (m := 16) (N := 135) Try.func49 rfl rfl (by kernel_rfl) (by kernel_rfl) rfl rfl (by decide) (by decide) rfl ?_
 refine emitw_fields (σ := aUpdateFeaturesResponse) (i := 1) rfl ?_ ?_ (by rfl)
 ·refine emit_had (σ := aUpdateFeaturesResponse) (i := 1) (E := fun _ fl x => leafE 3 (-1) fl x) ?_ (by intro v l h; simp [ok_UpdateFeaturesResponse, fl_UpdateFeaturesResponse] at h; exact hadW_of (by decide) (by omega) (by omega)) (fun v l t _ => by simp [encW])
  refine emit_leaf (σ := aUpdateFeaturesResponse) (i := 1) (o := 1) (ty := .int .i32) ?_ (by rfl) (by kernel_rfl) (by kernel_rfl) rfl rfl
  refine emit_call (av_i32 (null := (-1)) (fl := true)) (by kernel_rfl) (by rfl) (fun v l t h => by first | rfl | (obtain ⟨_, h⟩ := h; have h : l = true := h; subst h; rfl) | (obtain ⟨_, h⟩ := h; have h : l = false := h; subst h; rfl))
 ·refine emitw_fields (σ := aUpdateFeaturesResponse) (i := 2) rfl ?_ ?_ (by rfl)
  ·refine emit_had (σ := aUpdateFeaturesResponse) (i := 2) (E := fun _ fl x => leafE 2 (-1) fl x) ?_ (by intro v l h; simp [ok_UpdateFeaturesResponse, fl_UpdateFeaturesResponse] at h; exact hadW_of (by decide) (by omega) (by omega)) (fun v l t _ => by simp [encW])
   refine emit_leaf (σ := aUpdateFeaturesResponse) (i := 2) (o := 2) (ty := .int .i16) ?_ (by rfl) (by kernel_rfl) (by kernel_rfl) rfl rfl
   refine emit_call (av_i16 (null := (-1)) (fl := true)) (by kernel_rfl) (by rfl) (fun v l t h => by first | rfl | (obtain ⟨_, h⟩ := h; have h : l = true := h; subst h; rfl) | (obtain ⟨_, h⟩ := h; have h : l = false := h; subst h; rfl))
  ·refine emitw_fields (σ := aUpdateFeaturesResponse) (i := 3) rfl ?_ ?_ (by rfl)
   ·refine emit_had (σ := aUpdateFeaturesResponse) (i := 3) (E := fun _ fl x => leafE 8 0 fl x) ?_ (by intro v l h; simp [ok_UpdateFeaturesResponse, fl_UpdateFeaturesResponse] at h; exact hadW_of (by decide) (by omega) (by omega)) (fun v l t _ => by simp [encW])
    refine emit_leaf (σ := aUpdateFeaturesResponse) (i := 3) (o := 3) (ty := .pstr) ?_ (by rfl) (by kernel_rfl) (by kernel_rfl) rfl rfl
    refine emit_cond (rs := [_]) (tstw_flex (by rfl)) ?_ ?_ preV_stable (by rfl)
    ·refine emit_call (av_cnstr (null := 0) (by decide)) (by kernel_rfl) (by rfl) (fun v l t h => by first | rfl | (obtain ⟨_, h⟩ := h; have h : l = true := h; subst h; rfl) | (obtain ⟨_, h⟩ := h; have h : l = false := h; subst h; rfl))
    ·refine emit_call (av_nstr (null := 0) (by decide)) (by kernel_rfl) (by rfl) (fun v l t h => by first | rfl | (obtain ⟨_, h⟩ := h; have h : l = true := h; subst h; rfl) | (obtain ⟨_, h⟩ := h; have h : l = false := h; subst h; rfl))
   ·refine emitw_fields (σ := aUpdateFeaturesResponse) (i := 4) rfl ?_ ?_ (by rfl)
    ·refine emit_cond (rs := [0]) (tstw_and (by rfl)) ?_ ?_ (preH_stable (σ := aUpdateFeaturesResponse) (i := 4)) (by rfl)
     ·refine emit_had (σ := aUpdateFeaturesResponse) (i := 4) (E := listE false (structW ([.mk 8 0 (-1) (-1) (-1) 0 0 [], .mk 2 0 (-1) (-1) (-1) 0 0 [], .mk 8 0 (-1) 0 (-1) 0 0 []]))) ?_ (by intro v l h; simp [ok_UpdateFeaturesResponse, fl_UpdateFeaturesResponse] at h; exact hadW_of (by decide) (by omega) (by omega)) (fun v l t _ => by simp [encW, listE] <;> rfl)
      refine emit_leaf (σ := aUpdateFeaturesResponse) (i := 4) (o := 4) (ty := .list (.struct (.cons 0 .str (.cons 1 (.int .i16) (.cons 2 .pstr .nil))) (some 3) 4) 4) ?_ (by rfl) (by kernel_rfl) (by kernel_rfl) rfl rfl
      refine emit_list ?_ ?_ (by rfl)
      ·refine emit_cond (rs := [_]) (tstw_flex (by rfl)) ?_ ?_ preC_stable (by rfl)
       ·refine emit_cnt ct_calen (by kernel_rfl) (by kernel_rfl) rfl (by rfl) (fun v l h => h.2)
       ·refine emit_cnt ct_alen (by kernel_rfl) (by kernel_rfl) rfl (by rfl) (fun v l h => h.2)
      ·refine emit_loop ?_ (by kernel_rfl) rfl (by rfl)
       refine emit_els (σe := aUpdateFeaturesResponse_1) ?_ (by kernel_rfl) rfl (by rfl) (by rfl)
       refine emit_fields (σ := aUpdateFeaturesResponse_1) (i := 0) rfl ?_ ?_ (by rfl)
       ·refine emit_had (σ := aUpdateFeaturesResponse_1) (i := 0) (E := fun _ fl x => leafE 8 (-1) fl x) ?_ (by intro v l h; simp [ok_UpdateFeaturesResponse, fl_UpdateFeaturesResponse] at h; exact hadW_of (by decide) (by omega) (by omega)) (fun v l t _ => by simp [encW])
        refine emit_leaf (σ := aUpdateFeaturesResponse_1) (i := 0) (o := 0) (ty := .str) ?_ (by rfl) (by kernel_rfl) (by kernel_rfl) rfl rfl
        refine emit_cond (rs := [_]) (tstw_flex (by rfl)) ?_ ?_ preV_stable (by rfl)
        ·refine emit_call (av_cstr (null := (-1)) (by decide)) (by kernel_rfl) (by rfl) (fun v l t h => by first | rfl | (obtain ⟨_, h⟩ := h; have h : l = true := h; subst h; rfl) | (obtain ⟨_, h⟩ := h; have h : l = false := h; subst h; rfl))
        ·refine emit_call (av_str (null := (-1)) (by decide)) (by kernel_rfl) (by rfl) (fun v l t h => by first | rfl | (obtain ⟨_, h⟩ := h; have h : l = true := h; subst h; rfl) | (obtain ⟨_, h⟩ := h; have h : l = false := h; subst h; rfl))
       ·refine emit_fields (σ := aUpdateFeaturesResponse_1) (i := 1) rfl ?_ ?_ (by rfl)
        ·refine emit_had (σ := aUpdateFeaturesResponse_1) (i := 1) (E := fun _ fl x => leafE 2 (-1) fl x) ?_ (by intro v l h; simp [ok_UpdateFeaturesResponse, fl_UpdateFeaturesResponse] at h; exact hadW_of (by decide) (by omega) (by omega)) (fun v l t _ => by simp [encW])
         refine emit_leaf (σ := aUpdateFeaturesResponse_1) (i := 1) (o := 1) (ty := .int .i16) ?_ (by rfl) (by kernel_rfl) (by kernel_rfl) rfl rfl
         refine emit_call (av_i16 (null := (-1)) (fl := true)) (by kernel_rfl) (by rfl) (fun v l t h => by first | rfl | (obtain ⟨_, h⟩ := h; have h : l = true := h; subst h; rfl) | (obtain ⟨_, h⟩ := h; have h : l = false := h; subst h; rfl))
        ·refine emit_fields (σ := aUpdateFeaturesResponse_1) (i := 2) rfl ?_ ?_ (by rfl)
         ·refine emit_had (σ := aUpdateFeaturesResponse_1) (i := 2) (E := fun _ fl x => leafE 8 0 fl x) ?_ (by intro v l h; simp [ok_UpdateFeaturesResponse, fl_UpdateFeaturesResponse] at h; exact hadW_of (by decide) (by omega) (by omega)) (fun v l t _ => by simp [encW])
          refine emit_leaf (σ := aUpdateFeaturesResponse_1) (i := 2) (o := 2) (ty := .pstr) ?_ (by rfl) (by kernel_rfl) (by kernel_rfl) rfl rfl
          refine emit_cond (rs := [_]) (tstw_flex (by rfl)) ?_ ?_ preV_stable (by rfl)
          ·refine emit_call (av_cnstr (null := 0) (by decide)) (by kernel_rfl) (by rfl) (fun v l t h => by first | rfl | (obtain ⟨_, h⟩ := h; have h : l = true := h; subst h; rfl) | (obtain ⟨_, h⟩ := h; have h : l = false := h; subst h; rfl))
          ·refine emit_call (av_nstr (null := 0) (by decide)) (by kernel_rfl) (by rfl) (fun v l t h => by first | rfl | (obtain ⟨_, h⟩ := h; have h : l = true := h; subst h; rfl) | (obtain ⟨_, h⟩ := h; have h : l = false := h; subst h; rfl))
         ·refine emit_tags ?_ ?_ (by rfl) (by rfl) (by rfl)
          ·refine emit_tagn (σ := aUpdateFeaturesResponse_1) (o := 3) ?_ ?_ ?_ ?_ ?_ ?_ ?_ <;> first | rfl | decide | kernel_rfl
          ·refine emit_tage (σ := aUpdateFeaturesResponse_1) (o := 3) ?_ ?_ ?_ ?_ ?_ <;> first | rfl | decide | kernel_rfl
     ·exact emit_lacks (by intro v l h; simp [ok_UpdateFeaturesResponse, fl_UpdateFeaturesResponse] at h; exact hadW_not (by omega))
    ·refine emitw_tags ?_ (emitw_end (by rfl))
     refine emit_tags ?_ ?_ (by rfl) (by rfl) (by rfl)
     ·refine emit_tagn (σ := aUpdateFeaturesResponse) (o := 5) ?_ ?_ ?_ ?_ ?_ ?_ ?_ <;> first | rfl | decide | kernel_rfl
     ·refine emit_tage (σ := aUpdateFeaturesResponse) (o := 5) ?_ ?_ ?_ ?_ ?_ <;> first | rfl | decide | kernel_rfl
end Go.Proofs.Ythkpmmjcmldjhaa
set_option linter.unusedSimpArgs false
set_option linter.unusedVariables false
namespace Go.Proofs.Ythkpmmjcmldjhaa
open Go Go.RowKit
abbrev gUpdateFeaturesResponseResult : St := ⟨0, .cons 0 .str (.cons 1 (.int .i16) (.cons 2 .pstr .nil)), none, 4⟩
abbrev ft_UpdateFeaturesResponseResult : List FD := [.mk 8 0 (-1) (-1) (-1) 0 0 [], .mk 2 0 (-1) (-1) (-1) 0 0 [], .mk 8 0 (-1) 0 (-1) 0 0 []]
set_option maxRecDepth 100000 in
theorem mk_UpdateFeaturesResponseResult : ValC Try.prog 99 (.struct gUpdateFeaturesResponseResult.lay (some 3) 4) (fun y => .part (fillsW ft_UpdateFeaturesResponseResult 0 y) y.U) (fun y => goksW ft_UpdateFeaturesResponseResult 0 y /\ UOk y.U) := by
 refine make_top (z := .agg #[.string (str []), .int .i16 0, .pointer none, .map none]) (T := 124) Try.func99 rfl rfl rfl (by decide) rfl (by decide) (by kernel_rfl) rfl (fun w F => ?_) rfl (by kernel_rfl) ?_
 ·exact Lay.zero_rep gUpdateFeaturesResponseResult.lay _ (by repeat' (first | rfl | trivial | apply And.intro))
 ·refine rest_cons ?_ ?_
  ·exact fst_mono (fst_make (mids := [_, _]) (i := 0) (j := 0) (o := 0) (k := 0) (T := 124) (ty := .str) iat_C (by kernel_rfl) (by kernel_rfl) (val_text (eb := 5) (by kernel_rfl) (by kernel_rfl) (by kernel_rfl)) rfl (by kernel_rfl) (by kernel_rfl) (by kernel_rfl) (by kernel_rfl) (by kernel_rfl)) rfl (fun _ _ => fk_str (by decide)) (fun _ h => fo_text h)
  refine rest_cons ?_ ?_
  ·exact fst_mono (fst_make (mids := [_, _]) (i := 1) (j := 1) (o := 1) (k := 1) (T := 124) (ty := .int .i16) iat_C (by kernel_rfl) (by kernel_rfl) (val_num (kd := .i16) (by kernel_rfl) (by kernel_rfl) (by kernel_rfl) (by kernel_rfl)) rfl (by kernel_rfl) (by kernel_rfl) (by kernel_rfl) (by kernel_rfl) (by kernel_rfl)) rfl (fun _ _ => fk_i16) (fun _ h => trivial)
  refine rest_cons ?_ ?_
  ·exact fst_mono (fst_make (mids := [_]) (i := 2) (j := 2) (o := 2) (k := 2) (T := 124) (ty := .pstr) iat_C (by kernel_rfl) (by kernel_rfl) (val_call textOf_c (by kernel_rfl) (by kernel_rfl)) rfl (by kernel_rfl) (by kernel_rfl) (by kernel_rfl) (by kernel_rfl) (by kernel_rfl)) rfl (fun _ _ => fk_pstr (by decide)) (fun _ h => fo_text h)
  refine rest_ret (T := 124) rfl ?_ rfl (by kernel_rfl) (by kernel_rfl) (by kernel_rfl) (by kernel_rfl) rfl (by kernel_rfl)
  exact tags_set rfl (by kernel_rfl) (by kernel_rfl) (by kernel_rfl) rfl (by kernel_rfl) (by kernel_rfl) (by kernel_rfl) (tag_make (T := 124) (kt := 3) (TG := 64) setTag_spec (by kernel_rfl) (by kernel_rfl) (by kernel_rfl) (by kernel_rfl) (by kernel_rfl) (by kernel_rfl) (by kernel_rfl) (by kernel_rfl)) (by kernel_rfl)
abbrev gUpdateFeaturesResponse : St := ⟨0, .cons 0 (.int .i16) (.cons 1 (.int .i32) (.cons 2 (.int .i16) (.cons 3 .pstr (.cons 4 (.list (.struct (.cons 0 .str (.cons 1 (.int .i16) (.cons 2 .pstr .nil))) (some 3) 4) 4) .nil)))), none, 6⟩
set_option maxRecDepth 100000 in
theorem fill_UpdateFeaturesResponse : FillC Try.prog 48 gUpdateFeaturesResponse 5 fs_UpdateFeaturesResponse := by
 refine fill_top Try.func48 rfl rfl rfl (by decide) rfl (by decide) ?_
 refine rest_cons ?_ ?_
 ·exact fst_mono (fst_fill (mids := [_, _]) (i := 1) (j := 0) (o := 1) (k := 1) (T := 75) (ty := .int .i32) iat_C (by kernel_rfl) (by kernel_rfl) (val_num (kd := .i32) (by kernel_rfl) (by kernel_rfl) (by kernel_rfl) (by kernel_rfl)) rfl (by kernel_rfl) (by kernel_rfl) (by kernel_rfl) (by kernel_rfl) (by kernel_rfl)) rfl (fun _ _ => fk_i32) (fun _ h => trivial)
 refine rest_cons ?_ ?_
 ·exact fst_mono (fst_fill (mids := [_, _]) (i := 2) (j := 1) (o := 2) (k := 2) (T := 75) (ty := .int .i16) iat_C (by kernel_rfl) (by kernel_rfl) (val_num (kd := .i16) (by kernel_rfl) (by kernel_rfl) (by kernel_rfl) (by kernel_rfl)) rfl (by kernel_rfl) (by kernel_rfl) (by kernel_rfl) (by kernel_rfl) (by kernel_rfl)) rfl (fun _ _ => fk_i16) (fun _ h => trivial)
 refine rest_cons ?_ ?_
 ·exact fst_mono (fst_fill (mids := [_]) (i := 3) (j := 2) (o := 3) (k := 3) (T := 75) (ty := .pstr) iat_C (by kernel_rfl) (by kernel_rfl) (val_call textOf_c (by kernel_rfl) (by kernel_rfl)) rfl (by kernel_rfl) (by kernel_rfl) (by kernel_rfl) (by kernel_rfl) (by kernel_rfl)) rfl (fun _ _ => fk_pstr (by decide)) (fun _ h => fo_text h)
 refine rest_cons ?_ ?_
 ·exact fst_mono (fst_list (i := 4) (j := 3) (o := 4) (e := 124) (sz := 4) (ety := .struct (.cons 0 .str (.cons 1 (.int .i16) (.cons 2 .pstr .nil))) (some 3) 4) iat_C (by kernel_rfl) (by kernel_rfl) (by kernel_rfl) (by kernel_rfl) (by kernel_rfl) rfl (by kernel_rfl) rfl (mk_fill (T := 75) (k := 4) iat_C (by kernel_rfl) (by kernel_rfl) (by kernel_rfl) (by kernel_rfl) rfl (by kernel_rfl) (by kernel_rfl) (by kernel_rfl) rfl (by kernel_rfl) (by kernel_rfl) (by kernel_rfl)) (app_fill (T := 75) (k := 4) (by kernel_rfl) (by kernel_rfl) mk_UpdateFeaturesResponseResult (by kernel_rfl) (by kernel_rfl) (by kernel_rfl) (by kernel_rfl) (by kernel_rfl) (by kernel_rfl) (by kernel_rfl) rfl (by kernel_rfl)) (by kernel_rfl) rfl rfl (by kernel_rfl) (by kernel_rfl)) (by simp [zeroW]) (fun _ _ => fk_list) (fun _ h => fo_list h)
 refine rest_tags rfl ?_
 exact tags_set rfl (by kernel_rfl) (by kernel_rfl) (by kernel_rfl) rfl (by kernel_rfl) (by kernel_rfl) (by kernel_rfl) (tag_fill (T := 75) (kt := 5) (TG := 64) (by kernel_rfl) setTag_spec (by kernel_rfl) (by kernel_rfl) (by kernel_rfl) (by kernel_rfl) (by kernel_rfl) (by kernel_rfl) (by kernel_rfl) (by kernel_rfl)) (by kernel_rfl)
theorem set_UpdateFeaturesResponse : SetC Try.prog 47 { gUpdateFeaturesResponse with tg := some 5 } :=
 set_rule Try.func47 rfl rfl rfl (by kernel_rfl) (by kernel_rfl) rfl rfl rfl (by decide)
theorem make_UpdateFeaturesResponse : MakeC Try.prog 20 fl_UpdateFeaturesResponse ok_UpdateFeaturesResponse fs_UpdateFeaturesResponse := by
 refine make_rule (σ := gUpdateFeaturesResponse) (σa := aUpdateFeaturesResponse) (ot := 5) (zc := #[.int .i16 0, .int .i32 0, .int .i16 0, .pointer none, .slice none 0 0, .map none]) Try.func20 rfl rfl rfl (by kernel_rfl) (by kernel_rfl) (by kernel_rfl) (by kernel_rfl) (by kernel_rfl) (by kernel_rfl) (by kernel_rfl) (by decide) (fun w F => ?_) rfl set_UpdateFeaturesResponse fill_UpdateFeaturesResponse app_UpdateFeaturesResponse rfl rfl rfl
 exact Lay.zero_rep gUpdateFeaturesResponse.lay _ (by repeat' (first | rfl | trivial | apply And.intro))
end Go.Proofs.Ythkpmmjcmldjhaa
set_option linter.unusedSimpArgs false
set_option linter.unusedVariables false
namespace Go.Proofs.Ythkpmmjcmldjhaa
open Go Go.RowKit
theorem dnull_UpdateFeaturesResponse (w : World) (b : Nat) : Calls Try.prog 97 #[.pointer (some ⟨b, 0, none⟩)] w fun e w' => ∃ r, e = .returned r /\ Mod none' w w' := by
 refine calls_of_wp Try.func97 rfl (wp_skip ?_)
 exact ⟨rfl, .tuple #[], by simp [results, show Try.f97.results = #[] from rfl], .tuple #[], rfl, .refl _⟩
theorem newp_UpdateFeaturesResponse : NewP Try.prog 44 := newp_rule (z := .agg #[.int .i16 0, .int .i32 0, .int .i16 0, .pointer none, .slice none 0 0, .map none]) Try.func44 rfl rfl rfl (by kernel_rfl) dnull_UpdateFeaturesResponse (by kernel_rfl)
theorem max_UpdateFeaturesResponse (w : World) : Calls Try.prog 18 #[] w fun e w' => e = .returned (.int .i64 (2 : Int)) /\ Mod none' w w' := by
 refine calls_of_wp Try.func18 rfl ?_
 refine wp_act (fun a : Act => a.tmps.size = 4 /\ a.defers = []) ⟨rfl, rfl⟩ ?_
 rintro a ⟨aN, ad⟩
 refine wp_seq (wp_region_lit (Zv rfl Zi (wpList_nil ?_)))
 refine wp_seq (wp_region_lit (wpl_call rfl (Zy (by kernel_rfl) rfl) (R := fun e w' => ∃ b, e = .returned (.pointer (some ⟨b, 0, none⟩)) /\ Mod none' w w') (by simpa using newp_UpdateFeaturesResponse w) ?_))
 rintro e w1 ⟨b, rfl, m1⟩
 refine ⟨_, rfl, wpl_call rfl (Zy (by kernel_rfl) rfl) (R := fun e w' => e = .returned (.int .i16 2) /\ w1 = w') ?_ ?_⟩
 ·go_enter Try.func45, Try.ntmps45
  go_wp2
  go_ret
  exact ⟨rfl, rfl⟩
 rintro e w2 ⟨rfl, rfl⟩
 refine ⟨_, rfl, Zv rfl (x_convInt (n := 2) (k := .i16) (k' := .i64) (by kernel_rfl) (by kernel_rfl) ?_) (Zv rfl Zi (wpList_nil ?_))⟩
 ·simp (disch := first | omega | simp only [Zs]; omega) only [Zo, Ze, Zn, Zq]
 refine wp_act (c := .ret) (fun a : Act => Act.get a 0 = .int .i64 2 /\ a.defers = []) ⟨?_, ?_⟩ ?_
 ·simp (disch := first | omega | simp only [Zs]; omega) only [Zo, Ze, Zn, Zq]
  rfl
 ·simp only [Zd]; exact ad
 rintro a9 ⟨z0, zd⟩
 exact wp_ret (bodyPost_ret (results_tmp rfl _ _ _) zd ⟨congrArg Ending.returned z0, m1⟩)
set_option maxHeartbeats 4000000 in
set_option maxRecDepth 100000 in
theorem spec_sUpdateFeaturesResponseResult (w : World) : Calls Try.prog 46 #[] w fun e w' => ∃ k, e = .returned (.slice (some ⟨k, 0, none⟩) 3 3) /\ Mod none' w w' /\ ∀ W, Mod (fun k => k < w.heap.size) w' W -> FdsI W (.slice (some ⟨k, 0, none⟩) 3 3) ([.mk 8 0 (-1) (-1) (-1) 0 0 [], .mk 2 0 (-1) (-1) (-1) 0 0 [], .mk 8 0 (-1) 0 (-1) 0 0 []]) := by
 go_enter Try.func46, Try.ntmps46
 go_wp2
 go_ret
 exact ⟨_, rfl, (Mod.refl w).alloc _, fun W hW => FdsI.of (fs := [.mk 8 0 (-1) (-1) (-1) 0 0 [], .mk 2 0 (-1) (-1) (-1) 0 0 [], .mk 8 0 (-1) 0 (-1) 0 0 []]) [.slice none 0 0, .slice none 0 0, .slice none 0 0] (hW.some (Zh w _) (Nat.not_lt.2 (Nat.le_refl _))) rfl (by decide) rfl ⟨FdsI.none' _, FdsI.none' _, FdsI.none' _, trivial⟩⟩
set_option maxHeartbeats 4000000 in
set_option maxRecDepth 100000 in
theorem spec_UpdateFeaturesResponse (w : World) : Calls Try.prog 19 #[] w fun e w' => ∃ v, e = .returned (.agg #[v, .int .i64 0]) /\ Mod none' w w' /\ FdsI w' v fs_UpdateFeaturesResponse := by
 go_enter Try.func19, Try.ntmps19
 go_wp2_with (first | (go_at_call 46; refine (spec_sUpdateFeaturesResponseResult _).mono ?_; rintro e w1 ⟨k1, rfl, hm1, hf1⟩; have hx1 : w1.heap[w.heap.size]? = some (.cells #[.slice none 0 0, .int .i64 0] 31 (0, 0)) := hm1.some (Zh w _) (fun f => f); have qa1 : w1.cell? ⟨w.heap.size, 0, none⟩ = some (.slice none 0 0) := (Zc hx1).trans rfl; have qb1 : w1.cell? ⟨w.heap.size, 1, none⟩ = some (.int .i64 0) := (Zc hx1).trans rfl; have qc1 : w1.frozen? ⟨w.heap.size, 0, none⟩ = false := (Zz hx1).trans rfl; have qd1 : w1.frozen? ⟨w.heap.size, 1, none⟩ = false := (Zz hx1).trans rfl; have qs1 : w.heap.size < w1.heap.size := lt_of_block hx1; have hb1 := Lib.hid hx1; clear hx1))
 obtain ⟨hA, hB, hM⟩ := spec_end (y0 := .slice (some ⟨w1.heap.size, 0, none⟩) 4 4) (y1 := .int .i64 0) (cells := #[.int .i64 3, .int .i64 0, .int .i64 (-1), .int .i64 (-1), .int .i64 (-1), .int .i64 0, .int .i64 0, .slice none 0 0, .int .i64 2, .int .i64 0, .int .i64 (-1), .int .i64 (-1), .int .i64 (-1), .int .i64 0, .int .i64 0, .slice none 0 0, .int .i64 8, .int .i64 0, .int .i64 (-1), .int .i64 0, .int .i64 (-1), .int .i64 0, .int .i64 0, .slice none 0 0, .int .i64 11, .int .i64 0, .int .i64 1, .int .i64 (-1), .int .i64 (-1), .int .i64 0, .int .i64 10, .slice (some ⟨k1, 0, none⟩) 3 3]) (T := 50) hb1.out
 refine bodyPost_ret (results_cellN rfl (b := w.heap.size) (o := 0) (cs := [.slice (some ⟨w1.heap.size, 0, none⟩) 4 4, .int .i64 0]) rfl (by kernel_rfl) (fun j u hu => by rw [Zc hA, Nat.zero_add]; simpa using hu)) rfl
  ⟨_, rfl, Mod.trans' (((Mod.refl w).alloc _).trans hm1) hM (fun _ _ f => f) (fun j hj e => by have : j = w.heap.size := e; omega), FdsI.of (fs := fs_UpdateFeaturesResponse) [.slice none 0 0, .slice none 0 0, .slice none 0 0, .slice (some ⟨k1, 0, none⟩) 3 3] hB rfl (by decide) rfl ⟨FdsI.none' _, FdsI.none' _, FdsI.none' _, hf1 _ (Mod.trans' (Mod.refl (S := none') w1) hM (fun _ _ f => f.elim) (fun i _ e => by have e1 : i = w.heap.size := e; show i < (World.alloc _ _).heap.size; simp; omega)), trivial⟩⟩
set_option maxHeartbeats 1000000 in
set_option maxRecDepth 20000 in
theorem law_UpdateFeaturesResponse {w : World} {n : Int} {ct : Array Value} {t : Tr} (hn : 0 <= n /\ n <= 255) (hct : ct.size = 5) (ht : TreeI w (from' ct 0) t) (hlen : ∀ ver fl, (partW fs_UpdateFeaturesResponse ver fl t).length <= 4294967295) :
  Calls Try.prog 4 #[.int .u8 n, .agg ct] w fun e w' => e = .returned (.bool true) /\ Mod none' w w' := by
 refine calls_of_wp Try.func4 rfl ?_
 show Code.wp _ _ _ { tmps := (#[.int .u8 n, .agg ct] : Array Value) ++ Array.replicate (31 - (#[.int .u8 n, .agg ct] : Array Value).size) undef, defers := [] } w
 refine wp_act (fun a : Act => Act.get a 0 = .int .u8 n /\ Act.get a 1 = .agg ct /\ a.tmps.size = 31 /\ a.defers = []) ⟨?_, ?_, ?_, rfl⟩ ?_
 ·rw [Zj _ _ _ (by simp)]; rfl
 ·rw [Zj _ _ _ (by simp)]; rfl
 ·simp
 rintro a ⟨a0, a1, aN, ad⟩
 refine wp_seq (wp_region_lit (Zv rfl x_box (Zv rfl Zi (wpList_nil ?_))))
 rw [show (a.eval (.tmp 1)).cells = ct from by rw [Ze, a1]; rfl]
 have b3 := Zh w (.cells ct 26)
 have m0 : Mod none' w (w.alloc (.cells ct 26)) := (Mod.refl w).alloc _
 generalize w.alloc (.cells ct 26) = w0 at *
 obtain ⟨x3, hx3⟩ : ∃ x, x = w.heap.size := ⟨_, rfl⟩
 rw [<- hx3] at b3 ⊢
 refine wp_act (fun a : Act => Act.get a 0 = .int .u8 n /\ Act.get a 3 = .pointer (some ⟨x3, 0, none⟩) /\ a.tmps.size = 31 /\ a.defers = []) ⟨?_, ?_, ?_, ?_⟩ ?_
 ·simp (disch := first | omega | simp only [Zs]; omega) only [Zo, Ze, Zn, Zq, a0]
 ·simp (disch := first | omega | simp only [Zs]; omega) only [Zo, Ze, Zn, Zq]
 ·simp only [Zs]; exact aN
 ·simp only [Zd]; exact ad
 clear a0 a1 aN ad
 rintro a ⟨a0, a3, aN, ad⟩
 refine wp_seq (wp_seq (wp_region_lit (Zv rfl (x_loadN (cs := ct.toList) (b := x3) (o := 0) (by rw [Array.length_toList, hct]; kernel_rfl) ?_ ?_) (wpl_call rfl (Zy (by kernel_rfl) rfl) (R := SomeBool w0) ?_ ?_))))
 ·simp (disch := first | omega | simp only [Zs]; omega) only [Zo, Ze, Zn, Zq, a3]
 ·intro j u hu
  rw [Zc b3, Nat.zero_add]; simpa using hu
 ·rw [show ∀ a : Act, (#[Operand.tmp 8] : Array Operand).map a.eval = #[Act.get a 8] from fun a => by simp [Ze]]
  simp (disch := first | omega | simp only [Zs]; omega) only [Zo, Ze, Zn, Zq, Array.toArray_toList]
  exact zz1_c hct (ht.mod m0)
 rintro e w1 ⟨b, rfl, m1⟩
 refine ⟨_, rfl, Zv rfl (x_notV (b := b) (c := !b) ?_ rfl) (wpList_nil ?_)⟩
 ·simp (disch := first | omega | simp only [Zs]; omega) only [Zo, Ze, Zn, Zq]
 cases b with
 | false =>
  refine wp_cond_true ?_ (wp_seq (wp_region_lit (Zv rfl Zi (wpList_nil (wp_ret ?_)))))
  ·simp (disch := first | omega | simp only [Zs]; omega) only [Zo, Ze, Zn, Zq]
   rfl
  ·simp only [Exit.then]
   refine bodyPost_ret (results_tmp rfl _ _ _) ?_ ⟨?_, m0.trans m1⟩
   ·simp only [Zd]; exact ad
   ·rw [show ∀ (a : Act), a.tmps.getD 4 undef = Act.get a 4 from fun _ => rfl]
    simp (disch := first | omega | simp only [Zs]; omega) only [Zo, Ze, Zn, Zq]
    rfl
 | true =>
 refine wp_cond_false ?_ (wp_skip ?_)
 ·simp (disch := first | omega | simp only [Zs]; omega) only [Zo, Ze, Zn, Zq]
  rfl
 refine wp_act (fun a : Act => Act.get a 0 = .int .u8 n /\ Act.get a 3 = .pointer (some ⟨x3, 0, none⟩) /\ a.tmps.size = 31 /\ a.defers = []) ⟨?_, ?_, ?_, ?_⟩ ?_
 ·simp (disch := first | omega | simp only [Zs]; omega) only [Zo, Ze, Zn, Zq, a0]
 ·simp (disch := first | omega | simp only [Zs]; omega) only [Zo, Ze, Zn, Zq, a3]
 ·simp only [Zs]; exact aN
 ·simp only [Zd]; exact ad
 clear a0 a3 aN ad
 rintro a ⟨a0, a3, aN, ad⟩
 refine wp_seq (wp_region_lit (wpl_call rfl (Zy (by kernel_rfl) rfl) (R := fun e w' => e = .returned (.int .i64 (2 : Int)) /\ Mod none' w1 w') (by simpa using max_UpdateFeaturesResponse w1) ?_))
 rintro e w2 ⟨rfl, m2⟩
 refine ⟨_, rfl, Zv rfl Zi (wpList_nil ?_)⟩
 refine wp_seq (wp_seq (wp_region_lit (Zv rfl Zm (Zv rfl (x_lss (k := .i64) (m := 2) (n := 0) ?_ rfl) (wpList_nil ?_)))))
 ·simp (disch := first | omega | simp only [Zs]; omega) only [Zo, Ze, Zn, Zq]
 refine wp_cond_false ?_ (wp_skip ?_)
 ·simp (disch := first | omega | simp only [Zs]; omega) only [Zo, Ze, Zn, Zq]
  rfl
 refine wp_act (fun a : Act => Act.get a 0 = .int .u8 n /\ Act.get a 3 = .pointer (some ⟨x3, 0, none⟩) /\ Act.get a 5 = .int .i64 2 /\ a.tmps.size = 31 /\ a.defers = []) ⟨?_, ?_, ?_, ?_, ?_⟩ ?_
 ·simp (disch := first | omega | simp only [Zs]; omega) only [Zo, Ze, Zn, Zq, a0]
 ·simp (disch := first | omega | simp only [Zs]; omega) only [Zo, Ze, Zn, Zq, a3]
 ·simp (disch := first | omega | simp only [Zs]; omega) only [Zo, Ze, Zn, Zq]
 ·simp only [Zs]; exact aN
 ·simp only [Zd]; exact ad
 clear a0 a3 aN ad
 rintro a ⟨a0, a3, a5, aN, ad⟩
 have hv : IntKind.i64.wrap ((2 : Int) + 1) ≠ 0 := by decide
 obtain ⟨k, hk⟩ : ∃ k, k = (IntKind.i64.wrap n).tmod (IntKind.i64.wrap ((2 : Int) + 1)) := ⟨_, rfl⟩
 have hver : ∀ w, Calls Try.prog 12 #[.int .u8 n, .int .i64 2] w fun e w' => e = .returned (.int .i64 k) /\ w = w' := fun w => by rw [hk]; exact version_spec hv w
 have hkr : 0 <= k /\ k <= 2 := by
  have e1 : IntKind.i64.wrap n = n := by rw [IntKind.wrap_i64]; omega
  have e2 : IntKind.i64.wrap ((2 : Int) + 1) = 2 + 1 := by decide
  rw [hk, e1, e2, Int.tmod_eq_emod_of_nonneg hn.1]
  omega
 clear hk
 have hk16 : IntKind.i16.wrap k = k := by
  simp only [IntKind.wrap, IntKind.bits, IntKind.signed]; simp; split <;> omega
 -- the fields
 refine wp_seq (wp_region_lit (wpl_call rfl (Zy (by kernel_rfl) rfl) (R := fun e w' => ∃ v, e = .returned (.agg #[v, .int .i64 0]) /\ Mod none' w2 w' /\ FdsI w' v fs_UpdateFeaturesResponse) (by simpa using spec_UpdateFeaturesResponse w2) ?_))
 rintro e w3 ⟨v, rfl, m3, hfs⟩
 obtain ⟨fa, fcap, hfv⟩ := hfs.slice
 subst hfv
 refine ⟨_, rfl, Zv rfl Zm (Zv rfl Zm (wpl_call rfl (Zy (by kernel_rfl) rfl) (R := fun e w' => e = .returned (.int .i64 k) /\ w3 = w') ?_ ?_))⟩
 ·rw [show ∀ a : Act, (#[Operand.tmp 15, Operand.tmp 16] : Array Operand).map a.eval = #[Act.get a 15, Act.get a 16] from fun a => by simp [Ze]]
  simp (disch := first | omega | simp only [Zs]; omega) only [Zo, Ze, Zn, Zq, a0, a5]
  exact hver w3
 rintro e w' ⟨rfl, rfl⟩
 refine ⟨_, rfl, Zv rfl (x_alloc zeroMsg) (wpl_skip rfl (x_storeN (cs := #[.slice fa fs_UpdateFeaturesResponse.length fcap, .int .i64 0]) (b := w3.heap.size) (o := 0) (by kernel_rfl) ?_ ?_ (by simp [Value.oneCell']) (there_new rfl)) (Zv rfl Zi (wpList_nil ?_)))⟩
 ·simp (disch := first | omega | simp only [Zs]; omega) only [Zo, Ze, Zn, Zq]
 ·simp (disch := first | omega | simp only [Zs]; omega) only [Zo, Ze, Zn, Zq]
 obtain ⟨b6, m4⟩ := store_new w3 31 (zc := (Value.agg #[.slice none 0 0, .int .i64 0]).cells) (cs := #[.slice fa fs_UpdateFeaturesResponse.length fcap, .int .i64 0]) rfl
 generalize (w3.alloc (.cells (Value.agg #[.slice none 0 0, .int .i64 0]).cells 31)).setCells w3.heap.size 0 (#[Value.slice fa fs_UpdateFeaturesResponse.length fcap, .int .i64 0] : Array Value).toList = w4 at *
 obtain ⟨x6, hx6⟩ : ∃ x, x = w3.heap.size := ⟨_, rfl⟩
 rw [<- hx6] at b6 ⊢
 refine wp_act (fun a : Act => Act.get a 3 = .pointer (some ⟨x3, 0, none⟩) /\ Act.get a 6 = .pointer (some ⟨x6, 0, none⟩) /\ Act.get a 7 = .int .i64 k /\ a.tmps.size = 31 /\ a.defers = []) ⟨?_, ?_, ?_, ?_, ?_⟩ ?_
 ·simp (disch := first | omega | simp only [Zs]; omega) only [Zo, Ze, Zn, Zq, a3]
 ·simp (disch := first | omega | simp only [Zs]; omega) only [Zo, Ze, Zn, Zq]
 ·simp (disch := first | omega | simp only [Zs]; omega) only [Zo, Ze, Zn, Zq]
 ·simp only [Zs]; exact aN
 ·simp only [Zd]; exact ad
 clear a0 a3 a5 aN ad
 rintro a ⟨a3, a6, a7, aN, ad⟩
 have m04 := ((m1.trans m2).trans m3).trans m4
 have b3' := m04.some b3 (fun f => f)
 have ht4 := (ht.mod m0).mod m04
 have hfs4 := hfs.mod m4
 have hflx : fl_UpdateFeaturesResponse k = flexW 0 k := by
  simp only [fl_UpdateFeaturesResponse, flexW]
  first | rfl | (rw [Bool.eq_iff_iff]; simp)
 obtain ⟨Y, hY⟩ : ∃ Y, Y = Tr.mk 0 [] false (fitsW fs_UpdateFeaturesResponse 0 k t) (cutW (unkW t.U)) := ⟨_, rfl⟩
 obtain ⟨bs, hbs⟩ : ∃ bs, bs = partW fs_UpdateFeaturesResponse k (flexW 0 k) t := ⟨_, rfl⟩
 have hYU : Y.U = cutW (unkW t.U) := by rw [hY]; rfl
 have henc : encP fs_UpdateFeaturesResponse k (fl_UpdateFeaturesResponse k) (fillsW fs_UpdateFeaturesResponse 0 Y, Y.U) = bs := by
  rw [hYU, hY, fills_fitz fs_UpdateFeaturesResponse k t (by decide), encP_set (by decide) ht.ok, hbs, hflx]
 have hgok : goksW fs_UpdateFeaturesResponse 0 Y := by rw [hY]; exact goks_fit ht.ok _ _
 have hUok : UOk Y.U := by rw [hYU]; exact cutW_ok (unk_ok t.U (TreeI.keys ht))
 have hlb : bs.length <= 4294967295 := hbs ▸ hlen _ _
 have mg : ∀ a w', Mod none' w4 w' -> a = x6 -> True := fun _ _ _ _ => trivial
 refine wp_seq (region_rlt (l := [_, _, _, _, _, _, _, _, _, _, _, _, _]) (tl := [_]) rfl (Mod none') (Mod.refl w4).drew (fun _ _ _ h h' => h.trans h') [18, 19, 20, 21, 22, 23, 24, 25, 26, 27, 28, 29, 30]
  [fun v _ => v = .int .i64 k, fun v _ => v = .pointer (some ⟨x6, 0 + 0, none⟩), fun v _ => v = .slice fa fs_UpdateFeaturesResponse.length fcap, fun v _ => v = .int .i64 k, fun v _ => v = .agg ct, fun v w' => TreeV w' (fun _ => True) v Y, fun v w' => TreeV w' (fun _ => True) v Y, fun v w' => OctI w' v bs,
   fun v _ => v = .agg #[.slice fa fs_UpdateFeaturesResponse.length fcap, .int .i64 0], fun v _ => v = .int .i64 k, fun v _ => v = .agg ct, fun v w' => OctI w' v bs, fun v _ => v = .bool true]
  ?_ (by simp [regFormT]) (by decide) (fun d hd => by rw [aN]; simp at hd; omega) (by simp) (by kernel_rfl) ⟨?_, ?_, ?_, ?_, ?_, ?_, ?_, ?_, ?_, ?_, ?_, ?_, ?_, trivial⟩ ?_)
 ·intro g hg u1 w1 w2 hv hr
  simp only [List.mem_cons, List.not_mem_nil, or_false] at hg
  rcases hg with rfl | rfl | rfl | rfl | rfl | rfl | rfl | rfl | rfl | rfl | rfl | rfl | rfl
  ·exact hv
  ·exact hv
  ·exact hv
  ·exact hv
  ·exact hv
  ·exact hv.mod hr (fun _ _ f => f) (fun _ h => h)
  ·exact hv.mod hr (fun _ _ f => f) (fun _ h => h)
  ·exact hv.mod hr
  ·exact hv
  ·exact hv
  ·exact hv
  ·exact hv.mod hr
  ·exact hv
 ·intro a1 w1 hr hs hd
  exact Zw (x_moveV ((hs.get 7 (by decide)).trans a7)) ⟨_, rfl, .refl _, rfl⟩
 ·intro a1 w1 hr hs hd
  exact Zw (Za (show fieldOff Try.prog 31 0 = some 0 by kernel_rfl) (b := x6) (o0 := 0) (by rw [Ze]; exact (hs.get 6 (by decide)).trans a6)) ⟨_, rfl, .refl _, rfl⟩
 ·intro a1 w1 hr hs hd
  have q : Act.get a1 19 = .pointer (some ⟨x6, 0 + 0, none⟩) := hd ⟨1, .data⟩ (by simp) rfl
  exact Zw (Zl (by kernel_rfl) (b := x6) (o := 0 + 0) (by rw [Ze]; exact q) (by rw [Zc (hr.some b6 (fun f => f))]; rfl)) ⟨_, rfl, .refl _, rfl⟩
 ·intro a1 w1 hr hs hd
  exact Zw (x_moveV ((hs.get 7 (by decide)).trans a7)) ⟨_, rfl, .refl _, rfl⟩
 ·intro a1 w1 hr hs hd
  exact Zw (x_loadN (cs := ct.toList) (b := x3) (o := 0) (by rw [Array.length_toList, hct]; kernel_rfl) (by rw [Ze]; exact (hs.get 3 (by decide)).trans a3) (fun j v hv => by rw [Zc (hr.some b3' (fun f => f)), Nat.zero_add]; simpa using hv)) ⟨_, rfl, .refl _, by simp⟩
 ·intro a1 w1 hr hs hd
  have q20 : Act.get a1 20 = .slice fa fs_UpdateFeaturesResponse.length fcap := hd ⟨2, .data⟩ (by simp) rfl
  have q21 : Act.get a1 21 = .int .i64 k := hd ⟨3, .data⟩ (by simp) rfl
  have q22 : Act.get a1 22 = .agg ct := hd ⟨4, .data⟩ (by simp) rfl
  have ee : (#[Operand.tmp 20, .tmp 21, .tmp 22] : Array Operand).map a1.eval = #[.slice fa fs_UpdateFeaturesResponse.length fcap, .int .i64 k, .agg ct] := by simp [Ze, q20, q21, q22]
  refine owp_call (Zy (by kernel_rfl) rfl) (by rw [ee]; exact fit_c (fits_ok fs_UpdateFeaturesResponse (by decide)) (by decide) (Mod.refl w1) (hfs4.mod hr) hct (ht4.mod hr)) ?_
  rintro e w2 ⟨v, rfl, hm, hv⟩
  exact ⟨_, rfl, _, rfl, hm, hY ▸ hv.mod (Mod.refl (S := none') w2) (fun _ _ f => f) (fun _ _ => trivial)⟩
 ·intro a1 w1 hr hs hd
  obtain ⟨us, q, q2, q3, q4⟩ : TreeV w1 (fun _ => True) (Act.get a1 23) Y := hd ⟨5, .data⟩ (by simp) rfl
  have ee : (#[Operand.tmp 23] : Array Operand).map a1.eval = #[.agg us] := by simp [Ze, q]
  refine owp_call (Zy (by kernel_rfl) rfl) (by rw [ee]; exact given_spec _ Y (Nat.lt_succ_self _) us w1 _ q2 q4) ?_
  rintro e w2 ⟨v, rfl, hm, hv⟩
  exact ⟨_, rfl, _, rfl, hm, hv.mod (Mod.refl (S := none') w2) (fun _ _ f => f) (fun _ _ => trivial)⟩
 ·intro a1 w1 hr hs hd
  obtain ⟨us, q, q2, q3, q4⟩ : TreeV w1 (fun _ => True) (Act.get a1 24) Y := hd ⟨6, .data⟩ (by simp) rfl
  have q18 : Act.get a1 18 = .int .i64 k := hd ⟨0, .data⟩ (by simp) rfl
  have ee : (#[Operand.tmp 18, .tmp 24] : Array Operand).map a1.eval = #[.int .i64 k, .agg us] := by simp [Ze, q, q18]
  have hmk := make_UpdateFeaturesResponse w1 us Y k q2 q4.toI (by rw [hk16]; exact ⟨hkr.1, hkr.2, rfl⟩) hgok hUok (by rw [hk16, henc]; omega)
  rw [hk16, henc] at hmk
  refine owp_call (Zy (by kernel_rfl) rfl) (by rw [ee]; exact hmk) ?_
  rintro e w2 ⟨z, rfl, hm, hown⟩
  obtain ⟨nl, _, ho⟩ := hown.oct
  exact ⟨_, rfl, _, rfl, hm, OctI.of_oct ho⟩
 ·intro a1 w1 hr hs hd
  exact Zw (x_loadN (cs := [.slice fa fs_UpdateFeaturesResponse.length fcap, .int .i64 0]) (b := x6) (o := 0) (by kernel_rfl) (by rw [Ze]; exact (hs.get 6 (by decide)).trans a6) (fun j u hu => by rw [Zc (hr.some b6 (fun f => f)), Nat.zero_add]; simpa using hu)) ⟨_, rfl, .refl _, rfl⟩
 ·intro a1 w1 hr hs hd
  exact Zw (x_moveV ((hs.get 7 (by decide)).trans a7)) ⟨_, rfl, .refl _, rfl⟩
 ·intro a1 w1 hr hs hd
  exact Zw (x_loadN (cs := ct.toList) (b := x3) (o := 0) (by rw [Array.length_toList, hct]; kernel_rfl) (by rw [Ze]; exact (hs.get 3 (by decide)).trans a3) (fun j v hv => by rw [Zc (hr.some b3' (fun f => f)), Nat.zero_add]; simpa using hv)) ⟨_, rfl, .refl _, by simp⟩
 ·intro a1 w1 hr hs hd
  have q26 : Act.get a1 26 = .agg #[.slice fa fs_UpdateFeaturesResponse.length fcap, .int .i64 0] := hd ⟨8, .data⟩ (by simp) rfl
  have q27 : Act.get a1 27 = .int .i64 k := hd ⟨9, .data⟩ (by simp) rfl
  have q28 : Act.get a1 28 = .agg ct := hd ⟨10, .data⟩ (by simp) rfl
  have ee : (#[Operand.tmp 26, .tmp 27, .tmp 28] : Array Operand).map a1.eval = #[.agg #[.slice fa fs_UpdateFeaturesResponse.length fcap, .int .i64 0], .int .i64 k, .agg ct] := by simp [Ze, q26, q27, q28]
  refine owp_call (Zy (by kernel_rfl) rfl) (by rw [ee]; exact write_c (by decide) (hfs4.mod hr) hct (ht4.mod hr) (hlen _ _)) ?_
  rintro e w2 ⟨z, rfl, hm, hown⟩
  obtain ⟨nl, _, ho⟩ := hown.oct
  exact ⟨_, rfl, _, rfl, hm, hbs ▸ OctI.of_oct ho⟩
 ·intro a1 w1 hr hs hd
  have q25 : OctI w1 (Act.get a1 25) bs := hd ⟨7, .data⟩ (by simp) rfl
  have q29 : OctI w1 (Act.get a1 29) bs := hd ⟨11, .data⟩ (by simp) rfl
  have ee : (#[Operand.tmp 25, .tmp 29] : Array Operand).map a1.eval = #[Act.get a1 25, Act.get a1 29] := by simp [Ze]
  refine owp_call (Zy (by kernel_rfl) rfl) (by rw [ee]; exact same_octs q25.s q29.s) ?_
  rintro e w2 hpost
  first
   | (obtain ⟨rfl, rfl⟩ := hpost; exact ⟨_, rfl, _, rfl, .refl _, rfl⟩)
   | (obtain ⟨rfl, hm⟩ := hpost; exact ⟨_, rfl, _, rfl, hm, rfl⟩)
 ·intro a1 w1 hr hs hh
  have q30 : Act.get a1 30 = .bool true := hh 12 (by simp)
  refine Zv rfl Zi (wpList_nil ?_)
  refine wp_ret (bodyPost_ret (results_tmp rfl _ _ _) ?_ ⟨?_, m0.trans (m04.trans hr)⟩)
  ·simp only [Zd]; exact hs.defers.trans ad
  ·rw [show ∀ (a : Act) t, a.tmps.getD t undef = Act.get a t from fun _ _ => rfl]
   rw [Zq (by rw [hs.size, aN]; decide), Ze, q30]
end Go.Proofs.Ythkpmmjcmldjhaa
set_option linter.unusedSimpArgs false
set_option linter.unusedVariables false
namespace Go.Proofs.Ythkpmmjcmldjhaa.CUpdateFeaturesResponse
open Go Go.ChangeShapes Go.WideShapes Go.ChangeAt Go.RowKit Go.Proofs.Ythkpmmjcmldjhaa
section
variable {H : Type} {enc : TypeId × Value -> H} {P : Program}
theorem post_of_below' {f : Func} {s : ChangeSpec} {apart fresh handsOn again : Bool} {W W' : World} {args : Array Value} {v : Value} {ds gs : List (DataW H)} {before pa pv : List MemPlace}
  (hW : DataW.Whole enc P f.params.toList s.vars apart W args.toList ds gs before)
  (hres : ∀ (b : Nat) (sp : Nat -> Bool) (hd : Bool), DataW.TrodAll enc P W' b sp hd f.resultTypes.toList (v.resultList f.resultTypes.size) (s.fn H (ds ++ gs)).results [])
  (hargs : ∀ sp : Nat -> Bool, (∀ p ∈ before, sp p.block = true) -> DataW.TrodAll enc P W' 0 sp true f.params.toList args.toList (s.fn H (ds ++ gs)).args pa)
  (hvars : ∀ sp : Nat -> Bool, (∀ p ∈ before, sp p.block = true) -> DataW.TrodVars enc P W' sp s.vars (s.fn H (ds ++ gs)).vars pv)
  (hps : before = pa ++ pv) (hb : Below W.heap.size W W')
  (hok : ∀ (j : Nat) (t : TypeId) (r : Value), f.resultTypes[j]? = some t -> (v.resultList f.resultTypes.size)[j]? = some r -> Value.okWide P W' .any 0 t r) :
  s.post enc P f apart fresh handsOn again W args v W' := by
 have hlt : ∀ p ∈ before, p.block < W.heap.size := fun p hp => hW.lt p hp
 have hold : ∀ p ∈ before, (fun b => decide (b < W.heap.size)) p.block = true := fun p hp => by simpa using hlt p hp
 refine ⟨ds, gs, before, [], pa, pv, hW, hres _ _ _, hargs _ hold, hvars _ hold, World.keptBut_mono (fun p hp => ⟨hp, ?_⟩) (hb.frame (· ∈ before)), fun _ => ?_⟩
 ·rw [hps, List.mem_append] at hp
  exact Or.inr hp
 ·obtain ⟨_, _, _, _, _, hz, hn⟩ := hW
  refine ⟨hok, _, _, ([] ++ pa) ++ pv, ⟨[] ++ pa, pv, trodAll_append (hargs _ (fun _ _ => rfl)) (hres _ _ _), hvars _ (fun _ _ => rfl), rfl, ?_, ?_⟩, ?_⟩
  ·intro b off hp
   have hin : MemPlace.cell b off ∈ before := by rw [hps]; simpa using hp
   rw [hb.frozen (hlt _ hin)]
   exact hz b off hin
  ·intro ha
   have := hn ha
   rw [hps] at this
   simpa using this
  ·intro p hp _
   rw [hps]
   simpa using hp
end
theorem own : ownKnob Try.prog.godebug = none := by kernel_rfl
theorem rowsFull : ∀ t e, t < Try.prog.types.size -> Try.prog.underlying t = some (.slice e) -> 0 < Try.prog.cellsOf e := slices_full_of Try.prog (by kernel_rfl)
theorem carryAll {H : Type} {enc : TypeId × Value -> H} {P : Program} {w w' : World} {base : Nat} {spare : Nat -> Bool} {held : Bool} : ∀ {ts : List TypeId} {vs : List Value} {ds : List (DataW H)} {ps : List MemPlace}, DataW.TrodAll enc P w base spare held ts vs ds ps -> (∀ p ∈ ps, w.sameAt w' p) -> DataW.TrodAll enc P w' base spare held ts vs ds ps
 | [], [], [], _, h, _ => h
 | _ :: _, _ :: _, _ :: _, _, ⟨p, q, ⟨n, h1⟩, h2, e⟩, hs => ⟨p, q, ⟨n, DataW.trod_carry n _ _ _ h1 (fun x hx => hs x (by rw [e]; exact List.mem_append_left _ hx))⟩, carryAll h2 (fun x hx => hs x (by rw [e]; exact List.mem_append_right _ hx)), e⟩
set_option maxRecDepth 100000 in
theorem contract (H : Type) (enc : TypeId × Value -> H) (W : World) (base : Nat) (args : Array Value) (ds gs : List (DataW H)) (before : List MemPlace)
  (hval : ∀ (j : Nat) t v, Try.f4.params[j]? = some t -> args[j]? = some v -> Value.okWide Try.prog W .any base t v)
  (hW : DataW.Whole enc Try.prog Try.f4.params.toList Rows.fnMakeUpdateFeaturesResponseSpec.vars false W args.toList ds gs before)
  (hk : Rows.uptoSmall H (ds ++ gs) = true) :
  Calls Try.prog 4 args W fun e W' => ∃ v, e = .returned v /\ Rows.fnMakeUpdateFeaturesResponseSpec.post enc Try.prog Try.f4 false true false false W args v W' := by
 have hW' := hW
 have hlt : ∀ p ∈ before, p.block < W.heap.size := fun p hp => hW.lt p hp
 obtain ⟨p, q, hA0, hV, rfl, hfz, hnd⟩ := hW
 have hA : DataW.TrodAll enc Try.prog W 0 (fun _ => true) true Try.f4.params.toList args.toList ds p := hA0
 rw [Try.params4] at hA hval
 have hAA := hA
 obtain ⟨v0, vs0, d0, ds0, p0, q0, hargs, rfl, rfl, h0, r0⟩ := trodAll_cons hA
 obtain ⟨v1, vs1, d1, ds1, p1, q1, rfl, rfl, rfl, h1, r1⟩ := trodAll_cons r0
 obtain ⟨rfl, rfl, rfl⟩ := trodAll_nil r1
 obtain rfl : args = #[v0, v1] := by cases args; simp_all
 obtain ⟨rfl, rfl⟩ := trodVars_none hV
 obtain ⟨n, rfl, rfl, rfl, hwn⟩ := open_int Try.underlying5 (hval 0 5 v0 rfl rfl) h0
 clear hA0
 obtain ⟨ct, rfl, hct⟩ := okWide_struct Try.underlying26 (hval 1 26 v1 rfl rfl)
 rw [cellsTree] at hct
 obtain ⟨fuel, hf⟩ := h1
 obtain ⟨t, hti, hbulk⟩ := open_tree fuel _ _ hf
 have ht : TreeI W (from' ct 0) t := hti.congr (fun j hj => by simp [from', Value.cells, Array.getD, List.getD, hct, hj])
 have hn : 0 <= n /\ n <= 255 := by
  simp [Lit.wf, IntKind.min, IntKind.max, IntKind.signed, IntKind.bits] at hwn
  omega
 have hlen : ∀ ver fl, (partW fs_UpdateFeaturesResponse ver fl t).length <= 4294967295 := fun ver fl => upto_len (by decide) ht.ok (by have h3 : t.bulk <= Rows.uptoBulk d1 := hbulk; have h2 := of_decide_eq_true hk; simp only [List.append_nil, Rows.uptoBulkAll] at h2; omega)
 refine (law_UpdateFeaturesResponse hn hct ht hlen).mono fun e W' ⟨he, hm⟩ => ?_
 subst he
 refine ⟨_, rfl, post_of_below' (pv := []) hW' (fun _ _ _ => trodAll_cons_mk (shut_bool Try.underlying4 _) trodAll_mk0) (fun sp hsp => ?_) (fun _ _ => rfl) rfl hm.below
  (ok_one (by kernel_rfl) rfl (okWide_bool_mk Try.underlying4 _))⟩
 rw [Try.params4]
 refine carryAll (DataW.TrodAll.respare (kids_rows (by kernel_rfl) (by kernel_rfl)) rowsFull (by decide +kernel) hAA (fun x hx => hsp x (by simpa using hx))) (fun x hx => hm.below.same (hlt x (by simpa using hx)))
abbrev wArgs : Array Value := #[.int .u8 0, .agg #[.int .i64 0, .slice none 0 0, .bool false, .slice none 0 0, .slice none 0 0]]
set_option maxRecDepth 100000 in
theorem lifted (os : Os) (started : os.Started) (H : Type) (enc : TypeId × Value -> H) (F : Stop.Interp) :
  ReturnsInHanded {} Try.checked os 4 .any ((Rows.OpenSpec.upto Rows.fnMakeUpdateFeaturesResponseSpec).pre6 enc Try.prog Try.f4 Rows.fnMakeUpdateFeaturesResponseUptoRow.domain false) (((Rows.OpenSpec.upto Rows.fnMakeUpdateFeaturesResponseSpec).at F).post enc Try.prog Try.f4 false true false false) := by
 refine returnsInHanded_of_cond (C := Try.checked) (s := Rows.OpenSpec.upto Rows.fnMakeUpdateFeaturesResponseSpec) (k := Rows.uptoSmall) rfl own started (by kernel_rfl) Try.func4
  (OpenSpec.witness (enc := enc) (C := Try.checked) (s := Rows.OpenSpec.upto Rows.fnMakeUpdateFeaturesResponseSpec) (k := Rows.uptoSmall) rfl false ⟨#[], wArgs, []⟩ 8 (by kernel_rfl) (by kernel_rfl) (by kernel_rfl)
   (x := ([.lit (.int .u8 0), .agg [.lit (.int .i64 0), .nil, .lit (.bool false), .nil, .nil]], [], [])) (by kernel_rfl) rfl (by kernel_rfl)) ?_
 intro W base args ds gs before hval hW _ hk _
 exact contract H enc W base args ds gs before hval hW hk
set_option maxRecDepth 100000 in
theorem clo : Program.closure Try.prog 4 = [4, 9, 33, 75, 18, 44, 97, 45, 19, 46, 12, 16, 40, 39, 90, 42, 91, 41, 92, 15, 20, 47, 48, 78, 98, 99, 80, 49, 82, 121, 100, 120, 101, 87, 122, 133, 105, 102, 106, 103, 104, 88, 89, 124, 123, 135, 134, 136, 137, 138, 139, 150, 140, 151, 152, 159, 153, 160, 161, 154, 162, 163, 164, 155, 156, 157, 158, 17, 43, 93, 94, 125, 96, 127, 126, 128, 95, 13] := by kernel_rfl
set_option maxRecDepth 100000 in
theorem eP : Program.inPlace Try.prog 4 = ["internal/reflectlite.ValueOf", "internal/reflectlite.Swapper", "(internal/reflectlite.Value).Len"] := by unfold Program.inPlace; rw [clo]; kernel_rfl
set_option maxRecDepth 100000 in
theorem eU : Program.unfollowed Try.prog 4 = true := by unfold Program.unfollowed; rw [clo]; kernel_rfl
theorem eR : Program.recurses Try.prog 4 = true := by unfold Program.recurses; rw [eU]; rfl
set_option maxRecDepth 100000 in
theorem eV : Program.varsNamed Try.prog 4 = [] := by unfold Program.varsNamed; rw [clo]; kernel_rfl
set_option maxRecDepth 100000 in
theorem facts : joinedFacts Try.prog 4 Try.f4 (Rows.OpenSpec.upto Rows.fnMakeUpdateFeaturesResponseSpec).bare Rows.fnMakeUpdateFeaturesResponseUptoRow = true := by
 unfold joinedFacts
 rw [eP, eU, eR, eV]
 kernel_rfl
theorem said : Rows.FnMakeUpdateFeaturesResponseUptoSaid :=
 OpenClaim.holds_of_cond 4 Try.f4 rfl rfl rfl rfl rfl rfl rfl ⟨rfl, rfl, rfl, rfl, rfl⟩ rfl rfl rfl rfl rfl (by kernel_rfl) Try.func4 facts
  (of_decide_eq_true (by kernel_rfl)) (by unfold Func.isWrapper; first | (rw [if_pos (by decide +kernel)]; kernel_rfl) | (rw [if_neg (by decide +kernel)]; exact ⟨rfl, rfl⟩))
  (fun os started H enc _ F => lifted os started H enc F)
end Go.Proofs.Ythkpmmjcmldjhaa.CUpdateFeaturesResponse
