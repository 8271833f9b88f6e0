/-
  Reading a message as a whole: what stands ahead of its fields, and behind them.
-/
import Derived.Test.YtcldbjehliladaaDoorPRc
set_option linter.unusedSimpArgs false
set_option linter.unusedVariables false
namespace Go.Proofs.YtcldbjehliladaaDoor
open Go Go.RowKit
/-- code that reads what is left, and ends -/
def Whole (P : Program) (Γ : Sl) (σ : St) (c : Code) (f : FT) : Prop :=
 ∀ x F blk off v s a w, Amb Γ x s a w -> Act.get a σ.s = .pointer (some ⟨blk, off, none⟩) -> Cur σ F blk off v w -> Sep x F blk w -> f x.ver x.flex v s ≠ .stuck ->
  c.wp P (fun e a' w' => e = .ret /\ a'.defers = [] /\ Stp x blk off σ.sz w w' /\ match f x.ver x.flex v s with
   | .ok v' s' => Act.get a' Γ.res = endErr x.ev s'.bad /\ Cur σ F blk off v' w'
   | .early => Act.get a' Γ.res = x.ev
   | .stuck => False) a w
/-- 'Default' of a struct -/
def DfC (P : Program) (fd : FuncId) (σ : St) (d : SV -> SV) : Prop := ∀ F blk off v w, Cur σ F blk off v w -> (∀ k, F k -> k ≠ blk) -> Calls P fd #[.pointer (some ⟨blk, off, none⟩)] w fun e w' =>
 (∃ r, e = .returned r) /\ Mod (only blk) w w' /\ Cur σ F blk off (d v) w' /\
  ∀ C t, w.heap[blk]? = some (.cells C t (0, 0)) -> ∃ C', w'.heap[blk]? = some (.cells C' t (0, 0)) /\ C'.size = C.size /\ ∀ j, j < off \/ off + σ.sz <= j -> C'[j]? = C[j]?
section
variable {P : Program} {Γ : Sl} {σ : St} {f g : FT} {id id' : Nat}
 {y1 y2 y3 y4 y5 y6 : TypeId} {p1 p2 p3 p4 p5 p6 : String} {e1 e2 e3 e4 e5 e6 : Array Edge} {ts : Array TypeId}
theorem whole_seq {c1 c2 : Code} (h1 : Blk P Γ σ c1 f) (h2 : Whole P Γ σ c2 g) (hs : (writes c1).contains σ.s = false) : Whole P Γ σ (.seq c1 c2) (fun ver fl v s => (f ver fl v s).then (g ver fl)) := by
 intro x F blk off v s a w hA hp hC hS hns
 have hs' : ¬ σ.s ∈ writes c1 := by simpa using hs
 have hns1 : f x.ver x.flex v s ≠ .stuck := fun e => hns (by simp [e, R.then])
 refine wp_seq (wp_mono (h1 x F blk off v s a w hA hp hC hS hns1) ?_)
 intro e a1 w1 h
 cases e with
 | normal =>
  obtain ⟨v1, s1, e1, hA1, hC1, hsb, hst⟩ := h
  simp only [e1, R.then] at hns ⊢
  refine wp_mono (h2 x F blk off v1 s1 a1 w1 hA1 ((hsb.get _ hs').trans hp) hC1 (hS.later hst.mod.size) hns) ?_
  rintro e a2 w2 ⟨h1, h2, h3, h4⟩
  exact ⟨h1, h2, hst.trans h3, h4⟩
 | ret => exact ⟨rfl, h.2.2.1, h.2.2.2, by simp only [h.1, R.then]; exact h.2.1⟩
 | _ => exact h.elim
theorem whole_end {fc t : Nat} (hc : ∀ {w : World} {rb sb : Nat} {s : RS} {ev : Value}, ErrIs w ev -> Rd w rb sb s -> Calls P fc #[.pointer (some ⟨rb, 0, none⟩)] w fun e w' => e = .returned (endErr ev s.bad) /\ w = w')
  (hb : bodied P fc = true) (hs : (Γ.free t && Γ.free Γ.res) = true) :
  Whole P Γ σ (.seq (.region id #[⟨some t, .call ⟨.value (.func fc), #[.tmp Γ.b], ts⟩, y1, p1, e1, none⟩, ⟨some Γ.res, .assign (.tmp t), y2, p2, e2, none⟩] false) .ret) idF := by
 intro x F blk off v s a w hA hp hC hS _
 simp only [Bool.and_eq_true] at hs
 obtain ⟨s1, s2⟩ := hs
 refine wp_seq (wp_region_lit ?_)
 have e0 : (#[Operand.tmp Γ.b] : Array Operand).map a.eval = #[.pointer (some ⟨x.rb, 0, none⟩)] := by simp [Ze, hA.b]
 refine wpl_call rfl (Zy hb rfl) (by rw [e0]; exact hc hA.err hA.rd) ?_
 rintro e w' ⟨rfl, rfl⟩
 refine ⟨_, rfl, Zv rfl Zi (wpList_nil ?_)⟩
 refine wp_ret ⟨rfl, ((Zd _ _ _).trans ((Zd _ _ _).trans hA.defers)), .refl w, ?_, hC⟩
 rw [Zq (by rw [Zs]; exact hA.lt s2), Ze, Zq (hA.lt s1)]
end
/-- the slots of the code that reads a message -/
def slPlain (N : Nat) : Sl := ⟨N, 7, 8, 2, none, 6⟩
/-- the reader's struct as the code builds it -/
structure RdT (P : Program) (TR : Nat) : Prop where
 built : ∀ v : Value, v.cells = #[v] -> P.built TR [(0, v)] = some #[v, .bool false]
 zero : ∃ z, zeroOf P TR = some z /\ z.cells.size = 2
 size : sized P TR 2 = true
theorem src_one {w : World} {v : Value} {sb : Nat} {bs : List UInt8} {nil : Bool} (h : Src w v sb bs nil) : v.cells = #[v] := by
 rcases h with ⟨_, h, _⟩ | ⟨_, off, cap, c, t, fr, h, _⟩ <;> (rw [h]; rfl)
section
variable {P : Program} {ρ : Operand -> Value} {w : World} {d : Option Tmp} {ty : TypeId} {p : String} {af : Array Edge} {g : Option (Nat × Bool)}
theorem x_build {T : TypeId} {parts : Array (Nat × Operand)} {cells : Array Value} (h : P.built T (parts.map fun q => (q.1, ρ q.2)).toList = some cells) :
  (execOp ρ ⟨d, .build T parts, ty, p, af, g⟩).run P w = .ok (.value (.agg cells)) w := by
 simp only [execOp, Sem.run_bind, run_build w T _ cells h, Result.andThen_ok]
 rfl
end
theorem Zj (args : Array Value) (n t : Nat) (h : t < args.size) : Act.get { tmps := args ++ Array.replicate n undef, defers := [] } t = args[t] := by
 simp only [Act.get, Array.getD_eq_getD_getElem?]
 rw [Array.getElem?_append_left h, Array.getElem?_eq_getElem h]
 rfl
end Go.Proofs.YtcldbjehliladaaDoor
