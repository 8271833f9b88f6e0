/-
  Sixteen octets: the reader's method.
-/
import Derived.Laws.IdiomCopy
import Derived.Test.YtjjpiacdamibjaaDoorKRu
import Derived.Test.YtjjpiacdamibjaaDoorKTelL
set_option linter.unusedSimpArgs false
set_option linter.unusedVariables false
namespace Go.Proofs.YtjjpiacdamibjaaDoor
open Go Go.RowKit

/-- a type of rows of sixteen octets -/
def arr16 (P : Program) (t e : Nat) : Bool := match P.underlying t, P.info? e with
  | some (.array n e'), some i => n == 16 && e' == e && i.size == 1
  | _, _ => false
section
variable {P : Program} {ρ : Operand → Value} {w : World} {d : Option Tmp} {ty : TypeId} {p : String} {af : Array Edge} {g : Option (Nat × Bool)}
theorem x_sliceArr {x : Operand} {t e b o : Nat} (hA : arr16 P t e = true) (hx : ρ x = .pointer (some ⟨b, o, none⟩)) :
    (execOp ρ ⟨d, .slice t x none none none, ty, p, af, g⟩).run P w = .ok (.value (.slice (some ⟨b, o, none⟩) 16 16)) w := by
  unfold arr16 at hA
  cases hu : P.underlying t with
  | none => simp [hu] at hA
  | some ds =>
    cases ds with
    | array n e' =>
      cases hi : P.info? e with
      | none => simp [hu, hi] at hA
      | some i =>
        simp [hu, hi] at hA
        obtain ⟨⟨rfl, rfl⟩, h2⟩ := hA
        have hl : P.arrayLen t = 16 := by simp [Program.arrayLen, hu]
        have he : P.elem t = e' := by simp [Program.elem, hu]
        have h := run_sliceAt_array_all (P := P) w t ⟨b, o, none⟩ (by rw [hl, he]; exact hu)
        rw [hl, he] at h
        have h0 : (Instr.sliceAt t (.pointer (some ⟨b, o, none⟩)) none none none).run P w = .ok (.slice (some ⟨b, o, none⟩) 16 16) w := by
          rw [h]; simp [sizeOf, typeInfo, hi, slicedAt, Addr.add]
        simp [execOp, hx, h0]
    | _ => simp [hu] at hA
/-- a copy of octets over others -/
theorem x_copyOver {x y : Operand} {t t2 e b o n cap sb off m c : Nat} {cs : List Value} (hI : elemInfo P t e 1 = true) (hx : ρ x = .slice (some ⟨b, o, none⟩) n cap) (hy : ρ y = .slice (some ⟨sb, off, none⟩) m c) (hl : cs.length = Nat.min m n)
    (hsrc : ∀ j v, cs[j]? = some v → w.cell? ⟨sb, off + j, none⟩ = some v) (hc : ∀ j, j < cs.length → (w.cell? ⟨b, o + j, none⟩).isSome = true) (hf : ∀ j, j < cs.length → w.frozen? ⟨b, o + j, none⟩ = false) (h1 : ∀ v ∈ cs, v.oneCell' = true) :
    (execOp ρ ⟨d, .call ⟨.builtin .copy, #[x, y], #[t, t2]⟩, ty, p, af, g⟩).run P w = .ok (.value (goInt cs.length)) (w.setCells b o cs) := by
  obtain ⟨hu, i, z, hi, hz, h2, _⟩ := elemInfo_spec hI
  have h := run_copy_cells (P := P) w t t2 ty e b o n cap ⟨sb, off, none⟩ m c cs hu (by simp [hi, h2]) hl (fun j v hv => by rw [Addr.add_mid]; exact hsrc j v hv) hc hf h1
  simp [execOp, resolve, invoke, builtin, hx, hy, h]
theorem x_copyNone {x y : Operand} {t t2 e n cap : Nat} {a : Option Addr} (hI : elemInfo P t e 1 = true) (hx : ρ x = .slice a n cap) (hy : ρ y = .slice none 0 0) :
    (execOp ρ ⟨d, .call ⟨.builtin .copy, #[x, y], #[t, t2]⟩, ty, p, af, g⟩).run P w = .ok (.value (goInt 0)) w := by
  obtain ⟨hu, i, z, hi, hz, h2, _⟩ := elemInfo_spec hI
  have h := run_copy_none (P := P) w t t2 ty e a none n cap 0 0 hu (by simp [hi, h2]) (by simp [Nat.min_def])
  simp [execOp, resolve, invoke, builtin, hx, hy, h]
end


theorem Rd.mod' {S : Nat → Prop} {w w' : World} {rb sb : Nat} {s : RS} (h : Rd w rb sb s) (hm : Mod S w w') (h1 : ¬ S rb) (h2 : s.nil = false → ¬ S sb) : Rd w' rb sb s := by
  obtain ⟨hl, hn, src, t, hb, hs⟩ := h
  refine ⟨hm.lt hl, hn, src, t, hm.some hb h1, ?_⟩
  cases hnil : s.nil with
  | true =>
    rw [hnil] at hs
    rcases hs with hs | ⟨hs, _⟩
    · exact .inl hs
    · cases hs
  | false => rw [hnil] at hs; exact hs.mod hm (h2 hnil)
theorem Rd.live {w : World} {rb sb : Nat} {s : RS} (h : Rd w rb sb s) (hn : s.nil = false) : sb < w.heap.size := by
  obtain ⟨_, _, src, t, hb, hs⟩ := h
  rcases hs with ⟨hs, _⟩ | ⟨_, off, cap, c, t, fr, _, _, _, h6, _⟩
  · rw [hn] at hs; cases hs
  · exact lt_of_block h6
theorem rdSpan_snil {l : Int} {s : RS} (h : (rdSpan l s).2.nil = false) : s.nil = false := by
  unfold rdSpan at h
  split at h
  · cases h
  · exact h
theorem rdSpan_nil {l : Int} {s : RS} (h : (rdSpan l s).1.2 = false) : ((rdSpan l s).1.1).length = l.toNat := by
  unfold rdSpan at h ⊢
  by_cases hs : (s.bs.length : Int) < l ∨ l < 0
  · rw [if_pos hs] at h; cases h
  · rw [if_neg hs]
    simp only [List.length_take]
    omega

end Go.Proofs.YtjjpiacdamibjaaDoor
