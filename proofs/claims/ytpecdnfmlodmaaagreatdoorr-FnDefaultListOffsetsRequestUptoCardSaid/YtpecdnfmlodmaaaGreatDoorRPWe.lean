/-
  What package spec tells of trees: a value that is no part is told as it was written, or as it is by default.
  The reader of package spec: whether fields are told as they are by default.
  The reader of package spec: whether a part is told as it was written.
-/
import Derived.Lib.Hide
import Derived.Test.YtpecdnfmlodmaaaGreatDoorRPWp
set_option linter.unusedSimpArgs false
set_option linter.unusedVariables false
namespace Go.Proofs.YtpecdnfmlodmaaaGreatDoorR
open Go Go.RowKit
theorem OctI.s {w : World} {v : Value} {s : List UInt8} (h : OctI w v s) : OctS w v s := by
 rcases h with ⟨rfl, ao, cap, h⟩ | ⟨sb, off, cap, c, t, fr, h1, h2, h3, h4, h5⟩
 ·exact ⟨ao, cap, h, by simp, fun h => by simp at h⟩
 ·exact ⟨_, cap, h1, by omega, fun _ => ⟨sb, off, c, t, fr, rfl, h4, h5⟩⟩
theorem TreeR.toI {w : World} {F : Nat -> Prop} {c : Nat -> Value} {t : Tr} (h : TreeR w F c t) : TreeI w c t := by
 have hE : ∀ {v : Value} {n sz : Nat} {f : Nat -> Nat -> Value}, Elems w F v n sz f -> ElemsI w v n sz f := fun h => by
  rcases h with ⟨h1, h2⟩ | ⟨k, off, cap, C, t, fr, h1, h2, h3, h4, h5, h6⟩
  ·exact .inl ⟨h1, _, _, by rw [h2]⟩
  ·exact .inr ⟨k, off, cap, C, t, fr, h2, h3, h4, h5, h6⟩
 induction h with
 | mk h0 hn h1 h2 hb h3 h3' h4 h4' ih => exact .mk h0 hn (OctI.of_oct h1) h2 (hE h3) ih (hE h4) (fun i hi => ⟨(h4' i hi).1, (h4' i hi).2.1, by obtain ⟨nl, ho⟩ := (h4' i hi).2.2; exact OctI.of_oct ho⟩)
theorem andI64 {n : Int} : bits BinOp.and IntKind.i64 n 1 = n % 2 := by
 have e1 : ((1 : Int) % 2 ^ 64).toNat = 1 := by decide
 show IntKind.i64.wrap (((n % 2 ^ 64).toNat &&& ((1 : Int) % 2 ^ 64).toNat : Nat) : Int) = n % 2
 rw [e1, Nat.and_one_is_mod, IntKind.wrap_i64]
 omega
theorem number_c {w : World} {k n : Int} (hn : fits .i64 n) (hk : k = 0 \/ k = 1 \/ k = 2 \/ k = 3 \/ k = 4 \/ k = 5 \/ k = 6) : Calls Tryz.prog 91 #[.int .i64 k, .int .i64 n] w fun e w' => e = .returned (.int .i64 (numberW k n)) /\ w = w' := by
 rcases hk with rfl | rfl | rfl | rfl | rfl | rfl | rfl
 ·go_enter Tryz.func91, Tryz.ntmps91
  go_wp2
  go_ret
  refine ⟨?_, rfl⟩
  first | (rw [andI64]; rfl) | (show Ending.returned (Value.int .i64 (bits BinOp.and IntKind.i64 n 1)) = _; rw [andI64]; rfl)
 ·go_enter Tryz.func91, Tryz.ntmps91
  go_wp2
  go_ret
  refine ⟨?_, rfl⟩
  simp only [numberW, IntKind.wrap, IntKind.bits, IntKind.signed, wrap32]; first | rfl | (congr 2; simp [wrap64]; omega) | (congr 2; simp [wrap64]; split <;> omega) | (simp [wrap64]; split <;> omega)
 ·go_enter Tryz.func91, Tryz.ntmps91
  go_wp2
  go_ret
  refine ⟨?_, rfl⟩
  simp only [numberW, IntKind.wrap, IntKind.bits, IntKind.signed, wrap32]; first | rfl | (congr 2; simp [wrap64]; omega) | (congr 2; simp [wrap64]; split <;> omega) | (simp [wrap64]; split <;> omega)
 ·go_enter Tryz.func91, Tryz.ntmps91
  go_wp2
  go_ret
  refine ⟨?_, rfl⟩
  simp only [numberW, IntKind.wrap, IntKind.bits, IntKind.signed, wrap32]; first | rfl | (congr 2; simp [wrap64]; omega) | (congr 2; simp [wrap64]; split <;> omega) | (simp [wrap64]; split <;> omega)
 ·go_enter Tryz.func91, Tryz.ntmps91
  go_wp2
  go_ret
  refine ⟨?_, rfl⟩
  simp [numberW]
 ·go_enter Tryz.func91, Tryz.ntmps91
  go_wp2
  go_ret
  refine ⟨?_, rfl⟩
  simp only [numberW, IntKind.wrap, IntKind.bits, IntKind.signed, wrap32]; first | rfl | (congr 2; simp [wrap64]; omega) | (congr 2; simp [wrap64]; split <;> omega) | (simp [wrap64]; split <;> omega)
 ·go_enter Tryz.func91, Tryz.ntmps91
  go_wp2
  go_ret
  refine ⟨?_, rfl⟩
  simp [numberW]
end Go.Proofs.YtpecdnfmlodmaaaGreatDoorR
set_option linter.unusedSimpArgs false
set_option linter.unusedVariables false
namespace Go.Proofs.YtpecdnfmlodmaaaGreatDoorR
open Go Go.RowKit
/-- a tree's cells, written out -/
theorem TreeI.lit {w : World} {cs : Array Value} {t : Tr} (hcs : cs.size = 5) (h : TreeI w (from' cs 0) t) : ∃ a1 c1 a3 c3 a4 c4, cs = #[.int .i64 t.N, .slice a1 t.S.length c1, .bool t.Z, .slice a3 t.L.length c3, .slice a4 t.U.length c4] /\ fits .i64 t.N /\ OctI w (.slice a1 t.S.length c1) t.S /\
  TreeI w (from' #[.int .i64 t.N, .slice a1 t.S.length c1, .bool t.Z, .slice a3 t.L.length c3, .slice a4 t.U.length c4] 0) t := by
 have h' := h
 have e5 := arr5 hcs
 cases h with
 | @mk _ n s z l u f g h0 hn h1 h2 h3 h3' h4 h4' =>
 obtain ⟨a1, c1, e1, _⟩ := h1.slice
 obtain ⟨a3, c3, e3⟩ := h3.slice
 obtain ⟨a4, c4, e4⟩ := h4.slice
 rw [h0, h2, e1, e3, e4] at e5
 rw [e5] at h'
 exact ⟨a1, c1, a3, c3, a4, c4, e5, hn, e1 ▸ h1, h'⟩
theorem OctS.mod {w w' : World} {v : Value} {s : List UInt8} (h : OctS w v s) (hm : Mod none' w w') : OctS w' v s := by
 obtain ⟨ao, cap, h1, h2, h3⟩ := h
 refine ⟨ao, cap, h1, h2, fun hp => ?_⟩
 obtain ⟨sb, off, c, t, fr, q1, q2, q3⟩ := h3 hp
 exact ⟨sb, off, c, t, fr, q1, hm.some q2 (fun f => f), q3⟩
mutual
/-- the defaults are numbers of the program -/
def FD.dok : FD -> Bool
 | .mk _ _ _ _ _ dflt _ sub => decide (-9223372036854775808 <= dflt) && decide (dflt <= 9223372036854775807) && dokL sub
def dokL : List FD -> Bool
 | [] => true
 | f :: r => f.dok && dokL r
end
theorem mem_dok : ∀ {fs : List FD}, dokL fs = true -> ∀ f ∈ fs, f.dok = true
 | [], _, f, hf => by simp at hf
 | g :: r, h, f, hf => by
  simp only [dokL, Bool.and_eq_true] at h
  rcases List.mem_cons.1 hf with rfl | hf
  ·exact h.1
  ·exact mem_dok h.2 f hf
end Go.Proofs.YtpecdnfmlodmaaaGreatDoorR
set_option linter.unusedSimpArgs false
set_option linter.unusedVariables false
namespace Go.Proofs.YtpecdnfmlodmaaaGreatDoorR
open Go Go.RowKit
theorem toldsW_at : ∀ {fs : List FD} {j : Nat} {ver : Int} {fl : Bool} {t : Tr} {l : List Tr}, toldsW fs j ver fl t l = true -> l.length = fs.length /\ ∀ i (h : i < fs.length),
  (if (decide ((fs[i]).tag < 0) && (fs[i]).has ver) = true then toldW fs[i] ver fl (t.L.getD (j + i) .zero) (l.getD i .zero) else usualW fs[i] (l.getD i .zero)) = true
 | [], j, ver, fl, t, l, h => by
  have : l = [] := by simpa [toldsW] using h
  subst this
  exact ⟨rfl, fun i hi => by simp at hi⟩
 | f :: r, j, ver, fl, t, [], h => by simp [toldsW] at h
 | f :: r, j, ver, fl, t, x :: xs, h => by
  simp only [toldsW, Bool.and_eq_true] at h
  obtain ⟨h1, h2⟩ := toldsW_at h.2
  refine ⟨by simp [h1], fun i hi => ?_⟩
  cases i with
  | zero => simpa using h.1
  | succ i =>
   have := h2 i (by simpa using hi)
   rw [show j + 1 + i = j + (i + 1) by omega] at this
   simpa using this
mutual
/-- only texts, octets, parts and lists may be null -/
def FD.nok : FD -> Bool
 | .mk kind _ _ null _ _ _ sub => (decide (kind = 8) || decide (kind = 9) || decide (kind = 10) || decide (kind = 11) || decide (null = -1)) && nokL sub
def nokL : List FD -> Bool
 | [] => true
 | f :: r => f.nok && nokL r
end
/-- fields that are written and told as they should -/
def goodL (fs : List FD) : Bool := plainL fs && dokL fs && nokL fs
theorem part_all {fs : List FD} (hg : goodL fs = true) {w : World} {v : Value} {ct : Array Value} {ver : Int} {flex : Bool} {t : Tr} (hf : FdsI w v fs) (hct : ct.size = 5) (ht : TreeI w (from' ct 0) t) (hlen : (partW fs ver flex t).length <= 4294967295) :
  BytesC Tryz.prog 50 #[v, .int .i64 ver, .bool flex, .agg ct] w (partW fs ver flex t) := by
 simp only [goodL, Bool.and_eq_true] at hg
 exact part_ok (fields_ok fs hg.1.1) hf hct ht hlen
end Go.Proofs.YtpecdnfmlodmaaaGreatDoorR
