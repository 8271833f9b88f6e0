/-
  More single operations: slices that grow, slices of one element, fresh slices, texts as octets. No program in it.
-/
import Derived.Laws.IdiomStrings
import Derived.Test.YtcldbjehliladaaDoorPTel
set_option linter.unusedSimpArgs false
set_option linter.unusedVariables false
namespace Go.Proofs.YtcldbjehliladaaDoor
open Go Go.RowKit
theorem one_cells {v : Value} (h : v.oneCell' = true) : v.cells = #[v] := by cases v <;> first | rfl | (simp [Value.oneCell'] at h)
/-- a slice type: its elements' type, their cells -/
def elemInfo (P : Program) (t e sz : Nat) : Bool := match P.underlying t, P.info? e with
 | some (.slice e'), some i => e' == e && i.size == sz && decide (i.bytes <= 1024) && decide (0 < sz) && decide (sz <= 1024) && (match i.zero with | some z => z.cells.size == sz | none => false)
 | _, _ => false
theorem elemInfo_spec {P : Program} {t e sz : Nat} (h : elemInfo P t e sz = true) : P.underlying t = some (.slice e) /\ ∃ i z, P.info? e = some i /\ i.zero = some z /\ i.size = sz /\ z.cells.size = sz /\ i.bytes <= 1024 /\ 0 < sz /\ sz <= 1024 := by
 unfold elemInfo at h
 cases hu : P.underlying t with
 | none => simp [hu] at h
 | some ds =>
  cases ds with
  | slice e' =>
   cases hi : P.info? e with
   | none => simp [hu, hi] at h
   | some i =>
    cases hz : i.zero with
    | none => simp [hu, hi, hz] at h
    | some z =>
     simp [hu, hi, hz] at h
     obtain ⟨⟨⟨⟨⟨rfl, h2⟩, h3⟩, h4⟩, h5⟩, h6⟩ := h
     exact ⟨rfl, i, z, rfl, hz, h2, h6, h3, h4, h5⟩
  | _ => simp [hu] at h
theorem elemSize_of {P : Program} {t e sz : Nat} (h : elemInfo P t e sz = true) : elemSize P t = some sz := by
 obtain ⟨hu, i, z, hi, hz, h2, _⟩ := elemInfo_spec h
 simp [elemSize, hu, hi, h2]
theorem Mod.of_grown {w w' : World} {row : Option Nat} (h : w.grownBy w' row) : Mod (fun k => row = Option.some k) w w' :=
 ⟨h.os, h.tape, h.output, h.size, fun k hk hn => h.block k hk (fun e => hn e.symm)⟩
theorem ownsRow_mod {w w' : World} {S : Nat -> Prop} {base : Nat} {e : TypeId} {sz : Nat} {v : Value} {n : Nat} {xs : List Value} (h : w.ownsRow base e sz v n xs) (hm : Mod S w w') (hs : ∀ k, v.ownBlock = some k -> ¬ S k) :
  w'.ownsRow base e sz v n xs := by
 refine ⟨h.1, ?_⟩
 rcases h.2 with hn | ⟨g, cap, cur, rfl, hb, hg, rest⟩
 ·exact .inl hn
 ·exact .inr ⟨g, cap, cur, rfl, hb, hm.some hg (hs g rfl), rest⟩
theorem foldl_set : ∀ (cs : List Value) (k : Nat) (acc : Array Value), ((cs.zipIdx k).foldl (fun (a : Array Value) (p : Value × Nat) => a.setIfInBounds (0 + p.2) p.1) acc).size = acc.size /\
  ∀ j, j < acc.size -> ((cs.zipIdx k).foldl (fun (a : Array Value) (p : Value × Nat) => a.setIfInBounds (0 + p.2) p.1) acc)[j]? = if k <= j /\ j < k + cs.length then cs[j - k]? else acc[j]?
 | [], k, acc => by
  refine ⟨rfl, fun j hj => ?_⟩
  rw [if_neg (by simp)]
  rfl
 | c :: cs, k, acc => by
  have ih := foldl_set cs (k + 1) (acc.setIfInBounds (0 + k) c)
  simp only [List.zipIdx_cons, List.foldl_cons]
  refine ⟨ih.1.trans (by simp), fun j hj => ?_⟩
  rw [ih.2 j (by simpa using hj)]
  by_cases h1 : j = k
  ·subst h1
   rw [if_neg (by omega), if_pos (by simp)]
   simp [hj]
  ·by_cases h2 : k + 1 <= j /\ j < k + 1 + cs.length
   ·rw [if_pos h2, if_pos (by simp; omega), show j - k = (j - (k + 1)) + 1 by omega]
    simp
   ·rw [if_neg h2, if_neg (by simp; omega), Array.getElem?_setIfInBounds_ne (by omega)]
theorem fill_whole {v : Value} {z : Array Value} {sz : Nat} (h1 : v.cells.size = sz) (h2 : z.size = sz) : Instr.fill (fun i => some (i * sz, sz)) z [(0, v)] = some v.cells := by
 have hf := foldl_set v.cells.toList 0 z
 simp only [Instr.fill, Nat.zero_mul]
 rw [if_neg (by simp; omega)]
 congr 1
 have he : (Array.foldl (fun (cs : Array Value) (p : Value × Nat) => cs.setIfInBounds (0 + p.2) p.1) z v.cells.zipIdx) = ((v.cells.toList.zipIdx 0).foldl (fun (a : Array Value) (p : Value × Nat) => a.setIfInBounds (0 + p.2) p.1) z) := by
  rw [<- Array.foldl_toList, Array.toList_zipIdx]
 refine he.trans ?_
 apply Array.ext
 ·rw [hf.1, h1, h2]
 ·intro i hi hj
  have := hf.2 i (by rw [hf.1] at hi; exact hi)
  rw [if_pos (by simpa using hj), Array.getElem?_eq_getElem hi] at this
  simp at this
  simpa [hj] using this
section
variable {P : Program} {ρ : Operand -> Value} {w : World} {d : Option Tmp} {ty : TypeId} {p : String} {af : Array Edge} {g : Option (Nat × Bool)}
theorem x_append {s x : Operand} {t e sz base : Nat} {v : Value} {n : Nat} {xs : List Value} {ad : Addr} {m c : Nat} {news : List Value} (hI : elemInfo P t e sz = true) (hs : ρ s = v) (hx : ρ x = .slice (some ad) m c)
  (hown : w.ownsRow base e sz v n xs) (hl : news.length = m * sz) (hnews : ∀ j u, news[j]? = some u -> w.cell? (ad.add j) = some u) (h1 : ∀ u ∈ news, u.oneCell' = true) (hsm : n + m <= 4294967296) (hbase : base <= w.heap.size) :
  ∃ v' w', (execOp ρ ⟨d, .call ⟨.builtin .append, #[s, x], #[t, t]⟩, ty, p, af, g⟩).run P w = .ok (.value v') w' /\ w'.ownsRow base e sz v' (n + m) (xs ++ news) /\ Mod (fun k => v.ownBlock = some k) w w' /\
   (v' = .slice none 0 0 ↔ v = .slice none 0 0 /\ m = 0) /\ ∀ k, v'.ownBlock = some k -> v.ownBlock = some k \/ w.heap.size <= k := by
 obtain ⟨hu, i, z, hi, hz, h2, h3, h4, h5, h6⟩ := elemInfo_spec hI
 have h63 : n + m <= maxLen := by simp only [maxLen]; omega
 have hby : (n + m) * i.bytes <= 140737488355328 := Nat.le_trans (Nat.mul_le_mul hsm h4) (by omega)
 obtain ⟨v', w', hr, k1, k2, k3⟩ := run_append_own (P := P) w base t ty e i z sz i.bytes hu hi hz h2 rfl h3 h5 v n xs hown ad m c news hl hnews h1 h63 hby hbase
 refine ⟨v', w', ?_, k1, Mod.of_grown k2, k3, ?_⟩
 ·simp [execOp, resolve, invoke, builtin, hs, hx, hr]
 ·intro k hk
  rcases hown.2 with ⟨rfl, rfl⟩ | ⟨g, cap, cur, rfl, hb, hg, hnc, hcm, hsz, htake⟩
  ·have hxs : xs = [] := List.eq_nil_of_length_eq_zero (by simpa using hown.1)
   subst hxs
   obtain ⟨v2, w2, hr2, q1, q2, q3⟩ := run_append_own (P := P) w w.heap.size t ty e i z sz i.bytes hu hi hz h2 rfl h3 h5 _ 0 [] (World.ownsRow_nil w _ e sz) ad m c news hl hnews h1 h63 hby (Nat.le_refl _)
   rw [hr] at hr2
   obtain ⟨rfl, rfl⟩ : v' = v2 /\ w' = w2 := by simpa using hr2
   exact .inr (q1.lt k hk).1
  ·subst h2
   by_cases hroom : n + m <= cap
   ·have hfit : n * i.size + news.length <= cur.size := by rw [hl, hsz, <- Nat.add_mul]; exact Nat.mul_le_mul_right _ hroom
    have hr2 := run_append_room (P := P) w t ty e i hu hi g n cap cur hg ad m c news hl hnews h1 hroom hfit
    rw [hr] at hr2
    have := (by simpa using hr2 : v' = _ /\ w' = _).1
    subst this
    exact .inl hk
   ·have holds : ∀ j u, xs[j]? = some u -> w.cell? ((⟨g, 0, none⟩ : Addr).add j) = some u := hown.cells (g := g) rfl
    have hr2 := run_append_grow (P := P) w t ty e i z hu hi hz ⟨g, 0, none⟩ n cap xs hown.1 holds ad m c news hl hnews (by omega) (by simp only [maxLen] at h63; omega) (growslice_fits (by omega) hby)
    rw [hr] at hr2
    have := (by simpa using hr2 : v' = _ /\ w' = _).1
    subst this
    simp [Value.ownBlock] at hk
    exact .inr (by omega)
theorem ownsRow_one {w : World} {base : Nat} {e : TypeId} {sz : Nat} {v : Value} {n : Nat} {xs : List Value} (h : w.ownsRow base e sz v n xs) : v.oneCell' = true := by
 rcases h.2 with ⟨rfl, _⟩ | ⟨g, cap, cur, rfl, _⟩ <;> rfl
theorem wpl_append {ops : Array Oper} {rest : List Oper} {a : Act} {Q : Exit -> Act -> World -> Prop} {s x : Operand} {t e sz base : Nat} {v : Value} {n : Nat} {xs : List Value} {ad : Addr} {m c : Nat} {news : List Value} (hI : elemInfo P t e sz = true) (hs : a.eval s = v) (hx : a.eval x = .slice (some ad) m c)
  (hown : w.ownsRow base e sz v n xs) (hl : news.length = m * sz) (hnews : ∀ j u, news[j]? = some u -> w.cell? (ad.add j) = some u) (h1 : ∀ u ∈ news, u.oneCell' = true) (hsm : n + m <= 4294967296) (hbase : base <= w.heap.size)
  (hk : ∀ v' w', w'.ownsRow base e sz v' (n + m) (xs ++ news) -> Mod (fun k => v.ownBlock = some k) w w' -> (v' = .slice none 0 0 ↔ v = .slice none 0 0 /\ m = 0) -> (∀ k, v'.ownBlock = some k -> v.ownBlock = some k \/ w.heap.size <= k) -> wpList P ops Q rest (a.put d v') w') :
  wpList P ops Q (⟨d, .call ⟨.builtin .append, #[s, x], #[t, t]⟩, ty, p, af, none⟩ :: rest) a w := by
 obtain ⟨v', w', hr, k1, k2, k3, k4⟩ := x_append (P := P) (ρ := a.eval) (w := w) (d := d) (ty := ty) (p := p) (af := af) (g := none) hI hs hx hown hl hnews h1 hsm hbase
 exact Zv rfl hr (hk v' w' k1 k2 k3 k4)
theorem x_add {x y : Operand} {t u : TypeId} {k : IntKind} {m n : Int} (hx : ρ x = .int k m) (hy : ρ y = .int k n) : (execOp ρ ⟨d, .binOp .add t x y u, ty, p, af, g⟩).run P w = .ok (.value (.int k (k.wrap (m + n)))) w := by
 simp [execOp, hx, hy, eqGuard, binOp, Op.intArith]
theorem x_buildSlice1 {y : Operand} {t e sz : Nat} {v : Value} (hI : elemInfo P t e sz = true) (hy : ρ y = v) (hv : v.cells.size = sz) :
  (execOp ρ ⟨d, .buildSlice t 1 #[(0, y)], ty, p, af, g⟩).run P w = .ok (.value (.slice (some ⟨w.heap.size, 0, none⟩) 1 1)) (w.alloc (.cells v.cells e)) := by
 obtain ⟨hu, i, z, hi, hz, h2, h3, h4, h5, h6⟩ := elemInfo_spec hI
 have hf : Instr.fill (fun i => some (i * sz, sz)) ((Array.range (1 * sz)).map (z.cells[· % z.cells.size]!)) [(0, v)] = some v.cells := fill_whole hv (by simp)
 rw [Nat.one_mul] at hf
 have hn : ¬ (16777216 < sz) := by omega
 have hn0 : ¬ sz = 0 := by omega
 simp [execOp, hy, Instr.buildSlice, run_underlying hu, sizeOf, typeInfo, zeroValue, hi, hz, h2, hn, hn0, hf, newRow]
theorem x_makeSlice {t e sz n : Nat} (hρ : ∀ v, ρ (.const v) = v) (hI : elemInfo P t e sz = true) (hn : n <= 4294967296) :
  ∃ z : Value, zeroOf P e = some z /\ z.cells.size = sz /\ (execOp ρ ⟨d, .makeSlice t (.const (.int .i64 n)) (.const (.int .i64 n)), ty, p, af, g⟩).run P w =
   .ok (.value (.slice (some ⟨w.heap.size, 0, none⟩) n n)) (w.alloc (.cells (madeCells z.cells (n * sz)) e)) := by
 obtain ⟨hu, i, z, hi, hz, h2, h3, h4, h5, h6⟩ := elemInfo_spec hI
 have hb : (i.bytes : Int) * (n : Int) <= 281474976710656 := by
  have : i.bytes * n <= 1024 * 4294967296 := Nat.mul_le_mul h4 hn
  have h : ((i.bytes * n : Nat) : Int) <= 281474976710656 := by omega
  rwa [Int.natCast_mul] at h
 have hr := run_make (P := P) w t e i z hu hi hz .i64 .i64 n n (by omega) (Int.le_refl _) hb (by omega)
 simp only [Int.toNat_natCast, h2] at hr
 refine ⟨z, by simp [zeroOf, hi, hz], h3, ?_⟩
 have hk : ∀ k : Nat, ρ (.const (.int .i64 k)) = .int .i64 k := fun k => hρ _
 simp only [execOp, hk, Sem.run_bind, hr, Result.andThen_ok]
 rfl
/-- from a text to octets -/
def strBytes (P : Program) (src dst e : Nat) : Bool := match P.underlying src, P.underlying dst, P.underlying e with
 | some .string, some (.slice e'), some (.int .u8) => e' == e
 | _, _, _ => false
theorem x_strBytes {x : Operand} {src dst e : Nat} {s : ByteArray} (h : strBytes P src dst e = true) (hx : ρ x = .string s) :
  (execOp ρ ⟨d, .convert src dst x, ty, p, af, g⟩).run P w = .ok (.value (.slice (some ⟨w.heap.size, 0, none⟩) s.size (grownCap w s.size 0 e)))
   (w.drew.alloc (.cells (bytesRow s (grownCap w s.size 0 e)) e ((bytesRow s (grownCap w s.size 0 e)).size, (bytesRow s (grownCap w s.size 0 e)).size + 1))) := by
 unfold strBytes at h
 have h3 : P.underlying src = some .string /\ P.underlying dst = some (.slice e) /\ P.underlying e = some (.int .u8) := by
  revert h
  cases P.underlying src with
  | none => simp
  | some a => cases a <;> (try simp) <;> (cases P.underlying dst with
   | none => simp
   | some b => cases b <;> (try simp) <;> (cases P.underlying e with
    | none => simp
    | some c => cases c <;> (try simp) <;> (rename_i k; cases k <;> simp_all)))
 have hr := run_bytes_of_string (P := P) w src dst e s h3.1 h3.2.1 h3.2.2
 simp [execOp, hx, hr]
end
end Go.Proofs.YtcldbjehliladaaDoor
