/-
  The reader's methods, as the rules for the code that reads want them.
  Reading a message as a whole: what stands ahead of its fields, and behind them.
  Trees in memory; what the code that tells a message's fields does to them.
  More single operations: slices that grow, slices of one element, fresh slices, texts as octets. No program in it.
  Comparisons, choices; regions that draw their order and whose operations yield known values. No program in it.
-/
import Derived.Laws.IdiomStrings
import Derived.Test.YtmehfgiadapekaaGreatPRun
import Derived.Test.YtmehfgiadapekaaGreatPRegG
set_option linter.unusedSimpArgs false
set_option linter.unusedVariables false
namespace Go.Proofs.YtmehfgiadapekaaGreat
open Go Go.RowKit
theorem fits_wrap (k : IntKind) (n : Int) : fits k (k.wrap n) := by
 cases k <;> simp only [fits, IntKind.wrap, IntKind.min, IntKind.max, IntKind.bits, IntKind.signed] <;> simp <;> (try split) <;> omega
theorem wrap32_eq (n : Int) : IntKind.i32.wrap n = wrap32 n := by simp only [wrap32, IntKind.wrap, IntKind.bits, IntKind.signed]; simp; split <;> omega
theorem fits_zero (k : IntKind) : fits k 0 := by cases k <;> simp [fits, IntKind.min, IntKind.max, IntKind.signed, IntKind.bits]
theorem pstr_one {w : World} {F : Nat -> Prop} {v : Value} {o : Option (List UInt8)} (h : PStr w F v o) : v.oneCell' = true := by
 cases o with
 | none => rw [show v = _ from h]; rfl
 | some bs => obtain ⟨k, t, _, h, _⟩ := h; rw [h]; rfl
theorem oct_one {w : World} {F : Nat -> Prop} {v : Value} {bs : List UInt8} {nil : Bool} (h : Oct w F v bs nil) : v.oneCell' = true := by
 rcases h with ⟨sb, _, h⟩ | ⟨_, ao, cap, h, _⟩
 ·rcases h with ⟨_, h, _⟩ | ⟨_, off, cap, c, t, fr, h, _⟩ <;> (rw [h]; rfl)
 ·rw [h]; rfl
end Go.Proofs.YtmehfgiadapekaaGreat
set_option linter.unusedSimpArgs false
set_option linter.unusedVariables false
namespace Go.Proofs.YtmehfgiadapekaaGreat
open Go Go.RowKit
section
variable {P : Program} {ρ : Operand -> Value} {w : World} {d : Option Tmp} {ty : TypeId} {p : String} {af : Array Edge} {g : Option (Nat × Bool)}
theorem x_build {T : TypeId} {parts : Array (Nat × Operand)} {cells : Array Value} (h : P.built T (parts.map fun q => (q.1, ρ q.2)).toList = some cells) :
  (execOp ρ ⟨d, .build T parts, ty, p, af, g⟩).run P w = .ok (.value (.agg cells)) w := by
 simp only [execOp, Sem.run_bind, run_build w T _ cells h, Result.andThen_ok]
 rfl
end
theorem Zj (args : Array Value) (n t : Nat) (h : t < args.size) : Act.get { tmps := args ++ Array.replicate n undef, defers := [] } t = args[t] := by
 simp only [Act.get, Array.getD_eq_getD_getElem?]
 rw [Array.getElem?_append_left h, Array.getElem?_eq_getElem h]
 rfl
end Go.Proofs.YtmehfgiadapekaaGreat
set_option linter.unusedSimpArgs false
set_option linter.unusedVariables false
namespace Go.Proofs.YtmehfgiadapekaaGreat
open Go Go.RowKit
/-- a slice's elements, of so many cells each -/
def Elems (w : World) (F : Nat -> Prop) (v : Value) (n sz : Nat) (f : Nat -> Nat -> Value) : Prop :=
 (n = 0 /\ v = .slice none 0 0) \/ ∃ k off cap C t fr, F k /\ v = .slice (some ⟨k, off, none⟩) n cap /\ n <= cap /\ cap <= maxLen /\ w.heap[k]? = some (.cells C t fr) /\ ∀ i, i < n -> ∀ j, j < sz -> C[off + i * sz + j]? = some (f i j)
/-- these five cells are this tree -/
inductive TreeR (w : World) (F : Nat -> Prop) : (Nat -> Value) -> Tr -> Prop where
 | mk {c : Nat -> Value} {n : Int} {s : List UInt8} {nil null : Bool} {l : List Tr} {u : Tags} {f g : Nat -> Nat -> Value} (h0 : c 0 = .int .i64 n) (hn : fits .i64 n) (h1 : Oct w F (c 1) s nil) (h2 : c 2 = .bool null)
   (hb : l.length <= 4294967295 /\ u.length <= 4294967295) (h3 : Elems w F (c 3) l.length 5 f) (h3' : ∀ i (h : i < l.length), TreeR w F (f i) l[i]) (h4 : Elems w F (c 4) u.length 2 g)
   (h4' : ∀ i (h : i < u.length), g i 0 = .int .u32 (u[i]).1 /\ fits .u32 (u[i]).1 /\ ∃ nil, Oct w F (g i 1) (u[i]).2 nil) : TreeR w F c (.mk n s null l u)
section
variable {w w' : World} {F F' S : Nat -> Prop}
theorem Elems.mod {v : Value} {n sz : Nat} {f : Nat -> Nat -> Value} (h : Elems w F v n sz f) (hm : Mod S w w') (hs : ∀ k, F k -> ¬ S k) (hf : ∀ k, F k -> F' k) : Elems w' F' v n sz f := by
 rcases h with h | ⟨k, off, cap, C, t, fr, h1, h2, h3, h4, h5, h6⟩
 ·exact .inl h
 ·exact .inr ⟨k, off, cap, C, t, fr, hf _ h1, h2, h3, h4, hm.some h5 (hs _ h1), h6⟩
theorem TreeR.mod {c : Nat -> Value} {t : Tr} (h : TreeR w F c t) (hm : Mod S w w') (hs : ∀ k, F k -> ¬ S k) (hf : ∀ k, F k -> F' k) : TreeR w' F' c t := by
 induction h with
 | mk h0 hn h1 h2 hb h3 h3' h4 h4' ih =>
  refine .mk h0 hn (h1.mod hm hs hf) h2 hb (h3.mod hm hs hf) (fun i hi => ih i hi) (h4.mod hm hs hf) (fun i hi => ?_)
  obtain ⟨g1, g2, nil, g3⟩ := h4' i hi
  exact ⟨g1, g2, nil, g3.mod hm hs hf⟩
theorem TreeR.congr {c c' : Nat -> Value} {t : Tr} (h : TreeR w F c t) (hc : ∀ j, j < 5 -> c' j = c j) : TreeR w F c' t := by
 cases h with
 | mk h0 hn h1 h2 hb h3 h3' h4 h4' =>
  exact .mk ((hc 0 (by omega)).trans h0) hn (by rw [hc 1 (by omega)]; exact h1) ((hc 2 (by omega)).trans h2) hb (by rw [hc 3 (by omega)]; exact h3) h3' (by rw [hc 4 (by omega)]; exact h4) h4'
theorem elems_nil {v : Nat} {f : Nat -> Nat -> Value} : Elems w F (.slice none 0 0) 0 v f := .inl ⟨rfl, rfl⟩
theorem oct_nil : Oct w F (.slice none 0 0) [] true := .inl ⟨0, .inl rfl, .inl ⟨rfl, rfl, rfl⟩⟩
theorem tree_octs {c : Nat -> Value} {s : List UInt8} {nil null : Bool} (h0 : c 0 = .int .i64 0) (h1 : Oct w F (c 1) s nil) (h2 : c 2 = .bool null) (h3 : c 3 = .slice none 0 0) (h4 : c 4 = .slice none 0 0) : TreeR w F c (.octs s null) :=
 .mk (f := fun _ _ => undef) (g := fun _ _ => undef) h0 (fits_zero _) h1 h2 (by simp) (by rw [h3]; exact elems_nil) (fun i hi => by simp at hi) (by rw [h4]; exact elems_nil) (fun i hi => by simp at hi)
end
theorem Oct.lt {w : World} {F : Nat -> Prop} {v : Value} {bs : List UInt8} {nil : Bool} (h : Oct w F v bs nil) : Oct w (fun k => F k /\ k < w.heap.size) v bs nil := by
 rcases h with ⟨sb, h1, h2⟩ | h
 ·left
  rcases h1 with rfl | h1
  ·exact ⟨sb, .inl rfl, h2⟩
  ·rcases h2 with h2 | h2
   ·obtain ⟨rfl, h3, h4⟩ := h2
    exact ⟨sb, .inl rfl, .inl ⟨rfl, h3, h4⟩⟩
   ·obtain ⟨h3, off, cap, c, t, fr, h4, h5, h6, h7, h8⟩ := h2
    exact ⟨sb, .inr ⟨h1, lt_of_block h7⟩, .inr ⟨h3, off, cap, c, t, fr, h4, h5, h6, h7, h8⟩⟩
 ·exact .inr h
theorem Elems.lt {w : World} {F : Nat -> Prop} {v : Value} {n sz : Nat} {f : Nat -> Nat -> Value} (h : Elems w F v n sz f) : Elems w (fun k => F k /\ k < w.heap.size) v n sz f := by
 rcases h with h | ⟨k, off, cap, C, t, fr, h1, h2, h3, h4, h5, h6⟩
 ·exact .inl h
 ·exact .inr ⟨k, off, cap, C, t, fr, ⟨h1, lt_of_block h5⟩, h2, h3, h4, h5, h6⟩
theorem TreeR.lt {w : World} {F : Nat -> Prop} {c : Nat -> Value} {t : Tr} (h : TreeR w F c t) : TreeR w (fun k => F k /\ k < w.heap.size) c t := by
 induction h with
 | mk h0 hn h1 h2 hb h3 h3' h4 h4' ih =>
  refine .mk h0 hn h1.lt h2 hb h3.lt (fun i hi => ih i hi) h4.lt (fun i hi => ?_)
  obtain ⟨g1, g2, nil, g3⟩ := h4' i hi
  exact ⟨g1, g2, nil, g3.lt⟩
theorem Elems.one {w : World} {F : Nat -> Prop} {v : Value} {n sz : Nat} {f : Nat -> Nat -> Value} (h : Elems w F v n sz f) : v.oneCell' = true := by
 rcases h with ⟨_, h⟩ | ⟨k, off, cap, C, t, fr, h1, h2, _⟩ <;> (subst v; rfl)
theorem TreeR.one {w : World} {F : Nat -> Prop} {c : Nat -> Value} {t : Tr} (h : TreeR w F c t) : ∀ j, j < 5 -> (c j).oneCell' = true := by
 cases h with
 | mk h0 hn h1 h2 hb h3 h3' h4 h4' =>
  intro j hj
  rcases (by omega : j = 0 \/ j = 1 \/ j = 2 \/ j = 3 \/ j = 4) with rfl | rfl | rfl | rfl | rfl
  ·rw [h0]; rfl
  ·exact oct_one h1
  ·rw [h2]; rfl
  ·exact h3.one
  ·exact h4.one
/-- a value that is a tree -/
def TreeV (w : World) (F : Nat -> Prop) (v : Value) (t : Tr) : Prop := ∃ cs : Array Value, v = .agg cs /\ cs.size = 5 /\ cs.all (·.oneCell') = true /\ TreeR w F (from' cs 0) t
theorem TreeV.mod {w w' : World} {F F' S : Nat -> Prop} {v : Value} {t : Tr} (h : TreeV w F v t) (hm : Mod S w w') (hs : ∀ k, F k -> ¬ S k) (hf : ∀ k, F k -> F' k) : TreeV w' F' v t := by
 obtain ⟨cs, h1, h2, h3, h4⟩ := h
 exact ⟨cs, h1, h2, h3, h4.mod hm hs hf⟩
/-- where things lie while a message is told: the struct; the answer's place; the tree, its list -/
structure TX where
 blk : Nat
 off : Nat
 rb : Nat
 tb : Nat
 lb : Nat
 n : Nat
structure TAmb (N : Nat) (x : TX) (a : Act) : Prop where
 size : a.tmps.size = N
 defers : a.defers = []
 src : Act.get a 0 = .pointer (some ⟨x.blk, x.off, none⟩)
 res : Act.get a 2 = .pointer (some ⟨x.rb, 0, none⟩)
 tree : Act.get a 3 = .pointer (some ⟨x.tb, 0, none⟩)
/-- the blocks in which parts of the tree may lie -/
abbrev TF (x : TX) (w0 : World) : Nat -> Prop := fun k => w0.heap.size <= k /\ k ≠ x.tb /\ k ≠ x.lb /\ k ≠ x.rb
/-- a tree's cells at first -/
def zero5 (q : Nat) : Value := (#[Value.int .i64 0, .slice none 0 0, .bool false, .slice none 0 0, .slice none 0 0] : Array Value).getD q undef
structure TMem (x : TX) (w0 w : World) (ts : List Tr) (uv : Value) : Prop where
 mod : Mod none' w0 w
 new : w0.heap.size <= x.tb /\ w0.heap.size <= x.lb /\ w0.heap.size <= x.rb
 ne : x.tb ≠ x.lb /\ x.rb ≠ x.tb /\ x.rb ≠ x.lb
 hb : ∃ T, w.heap[x.tb]? = some (.cells #[.int .i64 0, .slice none 0 0, .bool false, .slice (some ⟨x.lb, 0, none⟩) x.n x.n, uv] T (0, 0))
 hl : ∃ D T, w.heap[x.lb]? = some (.cells D T (0, 0)) /\ D.size = x.n * 5 /\ ts.length <= x.n /\ (∀ i (h : i < ts.length), TreeR w (TF x w0) (from' D (i * 5)) ts[i]) /\ ∀ i, ts.length <= i -> i < x.n -> ∀ q, q < 5 -> from' D (i * 5) q = zero5 q
 hr : ∃ z T, w.heap[x.rb]? = some (.cells z T (0, 0)) /\ z.size = 5
theorem TAmb.put {N : Nat} {x : TX} {a : Act} (h : TAmb N x a) {t : Nat} (ht : t ≠ 0 /\ t ≠ 2 /\ t ≠ 3) (v : Value) : TAmb N x (a.put (some t) v) :=
 ⟨(Zs _ _ _).trans h.size, (Zd _ _ _).trans h.defers, (Zn ht.1).trans h.src, (Zn ht.2.1).trans h.res, (Zn ht.2.2).trans h.tree⟩
theorem TAmb.same {N : Nat} {x : TX} {a b : Act} {S : Nat -> Prop} (h : TAmb N x a) (hs : SameBut S a b) (h0 : ¬ S 0) (h2 : ¬ S 2) (h3 : ¬ S 3) : TAmb N x b :=
 ⟨hs.size.trans h.size, hs.defers.trans h.defers, (hs.get _ h0).trans h.src, (hs.get _ h2).trans h.res, (hs.get _ h3).trans h.tree⟩
theorem TMem.grow {x : TX} {w0 w w' : World} {ts : List Tr} {uv : Value} (h : TMem x w0 w ts uv) (hm : Mod none' w w') : TMem x w0 w' ts uv := by
 obtain ⟨D, T, h1, h2, h3, h4, h5⟩ := h.hl
 obtain ⟨T', hb⟩ := h.hb
 obtain ⟨z, Tz, hr, hz⟩ := h.hr
 exact ⟨h.mod.trans hm, h.new, h.ne, ⟨T', hm.some hb (fun f => f)⟩, ⟨D, T, hm.some h1 (fun f => f), h2, h3, fun i hi => (h4 i hi).mod hm (fun _ _ f => f) (fun _ h => h), h5⟩, ⟨z, Tz, hm.some hr (fun f => f), hz⟩⟩
/-- the next part of the tree's list is set -/
theorem TMem.push {x : TX} {w0 w : World} {ts : List Tr} {uv : Value} {cs : Array Value} {t : Tr} (h : TMem x w0 w ts uv) (hi : ts.length < x.n) (hsz : cs.size = 5) (ht : TreeR w (TF x w0) (from' cs 0) t) :
  TMem x w0 (w.setCells x.lb (0 + ts.length * 5) cs.toList) (ts ++ [t]) uv := by
 obtain ⟨D, T, h1, h2, h3, h4, h5⟩ := h.hl
 obtain ⟨T', hb⟩ := h.hb
 obtain ⟨z, Tz, hr, hz⟩ := h.hr
 have hm := mod_setCells x.lb w (0 + ts.length * 5) cs.toList
 obtain ⟨D', k1, k2, k3, k4⟩ := heap_setCells (w := w) cs.toList (0 + ts.length * 5) D h1
 simp only [Array.length_toList, hsz] at k3 k4
 have hF : ∀ k, TF x w0 k -> ¬ only x.lb k := fun k hk e => hk.2.2.1 e
 refine ⟨h.mod.trans' hm (fun _ _ f => f) (fun j hj e => by have := h.new.2.1; have : j = x.lb := e; omega), h.new, h.ne, ⟨T', hm.some hb (fun e => h.ne.1 e)⟩, ⟨D', T, k1, by omega, by simp; omega, fun j hj => ?_, fun j hj1 hj2 q hq => ?_⟩,
  ⟨z, Tz, hm.some hr (fun e => h.ne.2.2 e), hz⟩⟩
 ·by_cases hij : j < ts.length
  ·rw [List.getElem_append_left hij]
   refine ((h4 j hij).congr fun q hq => ?_).mod hm hF (fun _ h => h)
   simp only [from', Array.getD_eq_getD_getElem?]
   rw [k4 (j * 5 + q) (by omega)]
  ·have hje : j = ts.length := by simp at hj; omega
   subst hje
   rw [show (ts ++ [t])[ts.length] = t by simp]
   refine (ht.congr fun q hq => ?_).mod hm hF (fun _ h => h)
   refine get_from' ?_
   have := k3 q (by omega) (by rw [h2]; omega)
   rw [Nat.zero_add] at this
   rw [this]
   simp [from', show q < cs.size by omega]
 ·have hj1' : ts.length + 1 <= j := by simpa using hj1
  rw [<- h5 j (by omega) hj2 q hq]
  simp only [from', Array.getD_eq_getD_getElem?]
  rw [k4 (j * 5 + q) (by omega)]
end Go.Proofs.YtmehfgiadapekaaGreat
set_option linter.unusedSimpArgs false
set_option linter.unusedVariables false
namespace Go.Proofs.YtmehfgiadapekaaGreat
open Go Go.RowKit
theorem one_cells {v : Value} (h : v.oneCell' = true) : v.cells = #[v] := by cases v <;> first | rfl | (simp [Value.oneCell'] at h)
/-- a slice type: its elements' type, their cells -/
def elemInfo (P : Program) (t e sz : Nat) : Bool := match P.underlying t, P.info? e with
 | some (.slice e'), some i => e' == e && i.size == sz && decide (i.bytes <= 1024) && decide (0 < sz) && decide (sz <= 1024) && (match i.zero with | some z => z.cells.size == sz | none => false)
 | _, _ => false
theorem elemInfo_spec {P : Program} {t e sz : Nat} (h : elemInfo P t e sz = true) : P.underlying t = some (.slice e) /\ ∃ i z, P.info? e = some i /\ i.zero = some z /\ i.size = sz /\ z.cells.size = sz /\ i.bytes <= 1024 /\ 0 < sz /\ sz <= 1024 := by
 unfold elemInfo at h
 cases hu : P.underlying t with
 | none => simp [hu] at h
 | some ds =>
  cases ds with
  | slice e' =>
   cases hi : P.info? e with
   | none => simp [hu, hi] at h
   | some i =>
    cases hz : i.zero with
    | none => simp [hu, hi, hz] at h
    | some z =>
     simp [hu, hi, hz] at h
     obtain ⟨⟨⟨⟨⟨rfl, h2⟩, h3⟩, h4⟩, h5⟩, h6⟩ := h
     exact ⟨rfl, i, z, rfl, hz, h2, h6, h3, h4, h5⟩
  | _ => simp [hu] at h
theorem elemSize_of {P : Program} {t e sz : Nat} (h : elemInfo P t e sz = true) : elemSize P t = some sz := by
 obtain ⟨hu, i, z, hi, hz, h2, _⟩ := elemInfo_spec h
 simp [elemSize, hu, hi, h2]
theorem Mod.of_grown {w w' : World} {row : Option Nat} (h : w.grownBy w' row) : Mod (fun k => row = Option.some k) w w' :=
 ⟨h.os, h.tape, h.output, h.size, fun k hk hn => h.block k hk (fun e => hn e.symm)⟩
theorem ownsRow_mod {w w' : World} {S : Nat -> Prop} {base : Nat} {e : TypeId} {sz : Nat} {v : Value} {n : Nat} {xs : List Value} (h : w.ownsRow base e sz v n xs) (hm : Mod S w w') (hs : ∀ k, v.ownBlock = some k -> ¬ S k) :
  w'.ownsRow base e sz v n xs := by
 refine ⟨h.1, ?_⟩
 rcases h.2 with hn | ⟨g, cap, cur, rfl, hb, hg, rest⟩
 ·exact .inl hn
 ·exact .inr ⟨g, cap, cur, rfl, hb, hm.some hg (hs g rfl), rest⟩
theorem foldl_set : ∀ (cs : List Value) (k : Nat) (acc : Array Value), ((cs.zipIdx k).foldl (fun (a : Array Value) (p : Value × Nat) => a.setIfInBounds (0 + p.2) p.1) acc).size = acc.size /\
  ∀ j, j < acc.size -> ((cs.zipIdx k).foldl (fun (a : Array Value) (p : Value × Nat) => a.setIfInBounds (0 + p.2) p.1) acc)[j]? = if k <= j /\ j < k + cs.length then cs[j - k]? else acc[j]?
 | [], k, acc => by
  refine ⟨rfl, fun j hj => ?_⟩
  rw [if_neg (by simp)]
  rfl
 | c :: cs, k, acc => by
  have ih := foldl_set cs (k + 1) (acc.setIfInBounds (0 + k) c)
  simp only [List.zipIdx_cons, List.foldl_cons]
  refine ⟨ih.1.trans (by simp), fun j hj => ?_⟩
  rw [ih.2 j (by simpa using hj)]
  by_cases h1 : j = k
  ·subst h1
   rw [if_neg (by omega), if_pos (by simp)]
   simp [hj]
  ·by_cases h2 : k + 1 <= j /\ j < k + 1 + cs.length
   ·rw [if_pos h2, if_pos (by simp; omega), show j - k = (j - (k + 1)) + 1 by omega]
    simp
   ·rw [if_neg h2, if_neg (by simp; omega), Array.getElem?_setIfInBounds_ne (by omega)]
theorem fill_whole {v : Value} {z : Array Value} {sz : Nat} (h1 : v.cells.size = sz) (h2 : z.size = sz) : Instr.fill (fun i => some (i * sz, sz)) z [(0, v)] = some v.cells := by
 have hf := foldl_set v.cells.toList 0 z
 simp only [Instr.fill, Nat.zero_mul]
 rw [if_neg (by simp; omega)]
 congr 1
 have he : (Array.foldl (fun (cs : Array Value) (p : Value × Nat) => cs.setIfInBounds (0 + p.2) p.1) z v.cells.zipIdx) = ((v.cells.toList.zipIdx 0).foldl (fun (a : Array Value) (p : Value × Nat) => a.setIfInBounds (0 + p.2) p.1) z) := by
  rw [<- Array.foldl_toList, Array.toList_zipIdx]
 refine he.trans ?_
 apply Array.ext
 ·rw [hf.1, h1, h2]
 ·intro i hi hj
  have := hf.2 i (by rw [hf.1] at hi; exact hi)
  rw [if_pos (by simpa using hj), Array.getElem?_eq_getElem hi] at this
  simp at this
  simpa [hj] using this
section
variable {P : Program} {ρ : Operand -> Value} {w : World} {d : Option Tmp} {ty : TypeId} {p : String} {af : Array Edge} {g : Option (Nat × Bool)}
theorem x_append {s x : Operand} {t e sz base : Nat} {v : Value} {n : Nat} {xs : List Value} {ad : Addr} {m c : Nat} {news : List Value} (hI : elemInfo P t e sz = true) (hs : ρ s = v) (hx : ρ x = .slice (some ad) m c)
  (hown : w.ownsRow base e sz v n xs) (hl : news.length = m * sz) (hnews : ∀ j u, news[j]? = some u -> w.cell? (ad.add j) = some u) (h1 : ∀ u ∈ news, u.oneCell' = true) (hsm : n + m <= 4294967296) (hbase : base <= w.heap.size) :
  ∃ v' w', (execOp ρ ⟨d, .call ⟨.builtin .append, #[s, x], #[t, t]⟩, ty, p, af, g⟩).run P w = .ok (.value v') w' /\ w'.ownsRow base e sz v' (n + m) (xs ++ news) /\ Mod (fun k => v.ownBlock = some k) w w' /\
   (v' = .slice none 0 0 ↔ v = .slice none 0 0 /\ m = 0) /\ ∀ k, v'.ownBlock = some k -> v.ownBlock = some k \/ w.heap.size <= k := by
 obtain ⟨hu, i, z, hi, hz, h2, h3, h4, h5, h6⟩ := elemInfo_spec hI
 have h63 : n + m <= maxLen := by simp only [maxLen]; omega
 have hby : (n + m) * i.bytes <= 140737488355328 := Nat.le_trans (Nat.mul_le_mul hsm h4) (by omega)
 obtain ⟨v', w', hr, k1, k2, k3⟩ := run_append_own (P := P) w base t ty e i z sz i.bytes hu hi hz h2 rfl h3 h5 v n xs hown ad m c news hl hnews h1 h63 hby hbase
 refine ⟨v', w', ?_, k1, Mod.of_grown k2, k3, ?_⟩
 ·simp [execOp, resolve, invoke, builtin, hs, hx, hr]
 ·intro k hk
  rcases hown.2 with ⟨rfl, rfl⟩ | ⟨g, cap, cur, rfl, hb, hg, hnc, hcm, hsz, htake⟩
  ·have hxs : xs = [] := List.eq_nil_of_length_eq_zero (by simpa using hown.1)
   subst hxs
   obtain ⟨v2, w2, hr2, q1, q2, q3⟩ := run_append_own (P := P) w w.heap.size t ty e i z sz i.bytes hu hi hz h2 rfl h3 h5 _ 0 [] (World.ownsRow_nil w _ e sz) ad m c news hl hnews h1 h63 hby (Nat.le_refl _)
   rw [hr] at hr2
   obtain ⟨rfl, rfl⟩ : v' = v2 /\ w' = w2 := by simpa using hr2
   exact .inr (q1.lt k hk).1
  ·subst h2
   by_cases hroom : n + m <= cap
   ·have hfit : n * i.size + news.length <= cur.size := by rw [hl, hsz, <- Nat.add_mul]; exact Nat.mul_le_mul_right _ hroom
    have hr2 := run_append_room (P := P) w t ty e i hu hi g n cap cur hg ad m c news hl hnews h1 hroom hfit
    rw [hr] at hr2
    have := (by simpa using hr2 : v' = _ /\ w' = _).1
    subst this
    exact .inl hk
   ·have holds : ∀ j u, xs[j]? = some u -> w.cell? ((⟨g, 0, none⟩ : Addr).add j) = some u := hown.cells (g := g) rfl
    have hr2 := run_append_grow (P := P) w t ty e i z hu hi hz ⟨g, 0, none⟩ n cap xs hown.1 holds ad m c news hl hnews (by omega) (by simp only [maxLen] at h63; omega) (growslice_fits (by omega) hby)
    rw [hr] at hr2
    have := (by simpa using hr2 : v' = _ /\ w' = _).1
    subst this
    simp [Value.ownBlock] at hk
    exact .inr (by omega)
theorem ownsRow_one {w : World} {base : Nat} {e : TypeId} {sz : Nat} {v : Value} {n : Nat} {xs : List Value} (h : w.ownsRow base e sz v n xs) : v.oneCell' = true := by
 rcases h.2 with ⟨rfl, _⟩ | ⟨g, cap, cur, rfl, _⟩ <;> rfl
theorem wpl_append {ops : Array Oper} {rest : List Oper} {a : Act} {Q : Exit -> Act -> World -> Prop} {s x : Operand} {t e sz base : Nat} {v : Value} {n : Nat} {xs : List Value} {ad : Addr} {m c : Nat} {news : List Value} (hI : elemInfo P t e sz = true) (hs : a.eval s = v) (hx : a.eval x = .slice (some ad) m c)
  (hown : w.ownsRow base e sz v n xs) (hl : news.length = m * sz) (hnews : ∀ j u, news[j]? = some u -> w.cell? (ad.add j) = some u) (h1 : ∀ u ∈ news, u.oneCell' = true) (hsm : n + m <= 4294967296) (hbase : base <= w.heap.size)
  (hk : ∀ v' w', w'.ownsRow base e sz v' (n + m) (xs ++ news) -> Mod (fun k => v.ownBlock = some k) w w' -> (v' = .slice none 0 0 ↔ v = .slice none 0 0 /\ m = 0) -> (∀ k, v'.ownBlock = some k -> v.ownBlock = some k \/ w.heap.size <= k) -> wpList P ops Q rest (a.put d v') w') :
  wpList P ops Q (⟨d, .call ⟨.builtin .append, #[s, x], #[t, t]⟩, ty, p, af, none⟩ :: rest) a w := by
 obtain ⟨v', w', hr, k1, k2, k3, k4⟩ := x_append (P := P) (ρ := a.eval) (w := w) (d := d) (ty := ty) (p := p) (af := af) (g := none) hI hs hx hown hl hnews h1 hsm hbase
 exact Zv rfl hr (hk v' w' k1 k2 k3 k4)
theorem x_add {x y : Operand} {t u : TypeId} {k : IntKind} {m n : Int} (hx : ρ x = .int k m) (hy : ρ y = .int k n) : (execOp ρ ⟨d, .binOp .add t x y u, ty, p, af, g⟩).run P w = .ok (.value (.int k (k.wrap (m + n)))) w := by
 simp [execOp, hx, hy, eqGuard, binOp, Op.intArith]
theorem x_buildSlice1 {y : Operand} {t e sz : Nat} {v : Value} (hI : elemInfo P t e sz = true) (hy : ρ y = v) (hv : v.cells.size = sz) :
  (execOp ρ ⟨d, .buildSlice t 1 #[(0, y)], ty, p, af, g⟩).run P w = .ok (.value (.slice (some ⟨w.heap.size, 0, none⟩) 1 1)) (w.alloc (.cells v.cells e)) := by
 obtain ⟨hu, i, z, hi, hz, h2, h3, h4, h5, h6⟩ := elemInfo_spec hI
 have hf : Instr.fill (fun i => some (i * sz, sz)) ((Array.range (1 * sz)).map (z.cells[· % z.cells.size]!)) [(0, v)] = some v.cells := fill_whole hv (by simp)
 rw [Nat.one_mul] at hf
 have hn : ¬ (16777216 < sz) := by omega
 have hn0 : ¬ sz = 0 := by omega
 simp [execOp, hy, Instr.buildSlice, run_underlying hu, sizeOf, typeInfo, zeroValue, hi, hz, h2, hn, hn0, hf, newRow]
/-- from a text to octets -/
def strBytes (P : Program) (src dst e : Nat) : Bool := match P.underlying src, P.underlying dst, P.underlying e with
 | some .string, some (.slice e'), some (.int .u8) => e' == e
 | _, _, _ => false
end
end Go.Proofs.YtmehfgiadapekaaGreat
set_option linter.unusedSimpArgs false
set_option linter.unusedVariables false
namespace Go.Proofs.YtmehfgiadapekaaGreat
open Go Go.RowKit
section
variable {P : Program} {ρ : Operand -> Value} {w : World} {d : Option Tmp} {ty : TypeId} {p : String} {af : Array Edge} {g : Option (Nat × Bool)}
theorem x_neqI {x y : Operand} {t u : TypeId} {k : IntKind} {m n : Int} (hx : ρ x = .int k m) (hy : ρ y = .int k n) : (execOp ρ ⟨d, .binOp .neq t x y u, ty, p, af, g⟩).run P w = .ok (.value (.bool (m != n))) w := by
 simp [execOp, hx, hy, eqGuard, binOp, Op.intCmp]
theorem x_eqlI {x y : Operand} {t u : TypeId} {k : IntKind} {m n : Int} (hx : ρ x = .int k m) (hy : ρ y = .int k n) : (execOp ρ ⟨d, .binOp .eql t x y u, ty, p, af, g⟩).run P w = .ok (.value (.bool (m == n))) w := by
 simp [execOp, hx, hy, eqGuard, binOp, Op.intCmp]
theorem x_not {x : Operand} {t : TypeId} {b : Bool} (hx : ρ x = .bool b) : (execOp ρ ⟨d, .unOp .not t x, ty, p, af, g⟩).run P w = .ok (.value (.bool (!b))) w := by
 simp [execOp, hx, Op.unary]
theorem x_pick {x y z : Operand} {b : Bool} (hx : ρ x = .bool b) : (execOp ρ ⟨d, .pick x y z, ty, p, af, g⟩).run P w = .ok (.value (if b then ρ y else ρ z)) w := by
 simp [execOp, hx, asBool]
theorem x_moveV {x : Operand} {v : Value} (h : ρ x = v) : (execOp ρ ⟨d, .move x, ty, p, af, g⟩).run P w = .ok (.value v) w := h ▸ Zm
theorem x_pickF {x y z : Operand} {v : Value} (hx : ρ x = .bool false) (hz : ρ z = v) : (execOp ρ ⟨d, .pick x y z, ty, p, af, g⟩).run P w = .ok (.value v) w := (x_pick hx).trans (by simp [hz])
theorem x_pickT {x y z : Operand} {v : Value} (hx : ρ x = .bool true) (hz : ρ y = v) : (execOp ρ ⟨d, .pick x y z, ty, p, af, g⟩).run P w = .ok (.value v) w := (x_pick hx).trans (by simp [hz])
theorem x_notV {x : Operand} {t : TypeId} {b c : Bool} (hx : ρ x = .bool b) (hc : (!b) = c) : (execOp ρ ⟨d, .unOp .not t x, ty, p, af, g⟩).run P w = .ok (.value (.bool c)) w := hc ▸ x_not hx
theorem x_extract {x : Operand} {vs : Array Value} {i : Nat} {v : Value} (hx : ρ x = .tuple vs) (hi : vs[i]? = some v) : (execOp ρ ⟨d, .extract x i, ty, p, af, g⟩).run P w = .ok (.value v) w := by
 simp [execOp, hx, Instr.extract, hi]
end
section
variable {P : Program} {Q : Exit -> Act -> World -> Prop}
def VStep (P : Program) (dl : List Nat) (vl : List Value) (Q : Exit -> Act -> World -> Prop) (a0 : Act) (w : World) (i : Nat) (o : Oper) : Prop :=
 ∀ a w', Mod none' w w' -> SameBut (fun t => t ∈ dl) a0 a -> (∀ e ∈ o.after, Region.binds .any e = true -> Act.get a (dl.getD e.on 0) = vl.getD e.on undef) ->
  GuardIs dl a o.guard true /\ o.wp P a w' (fun a' w'' => a' = a.put (some (dl.getD i 0)) (vl.getD i undef) /\ Mod none' w' w'') Q
def VList (P : Program) (dl : List Nat) (vl : List Value) (Q : Exit -> Act -> World -> Prop) (a0 : Act) (w : World) : Nat -> List Oper -> Prop
 | _, [] => True
 | i, o :: os => VStep P dl vl Q a0 w i o /\ VList P dl vl Q a0 w (i + 1) os
theorem vl_get (vl : List Value) (i : Nat) (x : Value) (w : World) : ((vl.map fun v => fun (x : Value) (_ : World) => x = v).getD i (fun _ _ => True)) x w ↔ (i < vl.length -> x = vl.getD i undef) := by
 by_cases h : i < vl.length
 ·simp [List.getD, List.getElem?_eq_getElem, h]
 ·simp [List.getD, List.getElem?_eq_none (Nat.le_of_not_lt h), h]
theorem VList.toG {dl : List Nat} {vl : List Value} {a0 : Act} {w : World} (hl : vl.length = dl.length) : ∀ (l : List Oper) (k : Nat), k + l.length <= dl.length -> (∀ o ∈ l, ∀ e ∈ o.after, Region.binds .any e = true -> e.on < dl.length) -> VList P dl vl Q a0 w k l ->
  RGListG P (Mod none') (vl.map fun v => fun (x : Value) (_ : World) => x = v) dl Q a0 w k l
 | [], _, _, _, _ => trivial
 | o :: l, k, hk, he, h => by
  refine ⟨fun a w' hr hs hd => ?_, VList.toG hl l (k + 1) (by simp at hk; omega) (fun o ho => he o (List.mem_cons_of_mem _ ho)) h.2⟩
  obtain ⟨hg, hw⟩ := h.1 a w' hr hs fun e hm hb => (vl_get _ _ _ w').1 (hd e hm hb) (by rw [hl]; exact he o (List.mem_cons_self ..) e hm hb)
  refine .inl ⟨hg, Oper.wp_mono ?_ hw⟩
  rintro a' w'' ⟨h1, h2⟩
  exact ⟨_, h1, h2, (vl_get _ _ _ _).2 fun _ => rfl⟩
theorem region_vals {id : Nat} {l tl : List Oper} {a0 : Act} {w : World} (hm : P.follows .mixedOrders = true) (dl : List Nat) (vl : List Value) (hl : vl.length = dl.length) (hform : regFormG l dl = true) (hnd : dl.Nodup) (hb : ∀ d ∈ dl, d < a0.tmps.size) (htl0 : 0 < tl.length)
  (hchk : (Region.sinkB .any (l ++ tl).toArray l.length && Region.chainB .any (l ++ tl).toArray l.length && Region.seqB .any (l ++ tl).toArray tl.length l.length (headDone l.length tl.length) && regEdges l 0) = true)
  (steps : VList P dl vl Q a0 w 0 l)
  (htail : ∀ a w', Mod none' w w' -> SameBut (fun t => t ∈ dl) a0 a -> (∀ i, i < l.length -> Act.get a (dl.getD i 0) = vl.getD i undef) -> wpList P (l ++ tl).toArray Q tl a w') :
  (Code.region id (l ++ tl).toArray true).wp P Q a0 w := by
 have hlen : l.length = dl.length := by
  simp only [regFormG, beq_iff_eq] at hform
  have := congrArg List.length hform; simpa using this
 have hedge : ∀ o ∈ l, ∀ e ∈ o.after, Region.binds .any e = true -> e.on < dl.length := by
  intro o ho e he hbi
  simp only [Bool.and_eq_true] at hchk
  obtain ⟨i, hi, rfl⟩ := List.getElem_of_mem ho
  have := regEdges_spec l 0 hchk.2 i _ (List.getElem?_eq_getElem hi) e he hbi
  omega
 refine region_rlg hm (Mod none') (Mod.refl w).drew (fun a => .refl a) (fun _ _ _ h h' => h.trans h') dl _ ?_ hform hnd hb htl0 hchk (VList.toG hl l 0 (by omega) hedge steps) ?_
 ·intro g hg v w1 w2 h1 _
  obtain ⟨u, _, rfl⟩ := List.mem_map.1 hg
  exact h1
 ·intro a w' hr hs hh
  exact htail a w' hr hs fun i hi => (vl_get _ _ _ w').1 (hh i hi) (by omega)
theorem wp_act {c : Code} {a : Act} {w : World} (p : Act -> Prop) (hp : p a) (h : ∀ a', p a' -> c.wp P Q a' w) : c.wp P Q a w := h a hp
/-- an operation whose result is known -/
theorem vstep_val {o : Oper} {dl : List Nat} {a : Act} {v : Value} {w' : World} {t : Nat} (hg : GuardIs dl a o.guard true) (ho : o.dst = some t) (h : (execOp a.eval o).run P w' = .ok (.value v) w') :
  GuardIs dl a o.guard true /\ o.wp P a w' (fun a' w'' => a' = a.put (some t) v /\ Mod none' w' w'') Q := by
 refine ⟨hg, Zw h ?_⟩
 rw [ho]
 exact ⟨rfl, .refl _⟩
end
end Go.Proofs.YtmehfgiadapekaaGreat
