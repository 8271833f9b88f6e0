/-
  Trees in memory; what the code that tells a message's fields does to them.
-/
import Derived.Test.YtcldbjehliladaaDoorPFrm
set_option linter.unusedSimpArgs false
set_option linter.unusedVariables false
namespace Go.Proofs.YtcldbjehliladaaDoor
open Go Go.RowKit
/-- a slice's elements, of so many cells each -/
def Elems (w : World) (F : Nat -> Prop) (v : Value) (n sz : Nat) (f : Nat -> Nat -> Value) : Prop :=
 (n = 0 /\ v = .slice none 0 0) \/ ∃ k off cap C t fr, F k /\ v = .slice (some ⟨k, off, none⟩) n cap /\ n <= cap /\ cap <= maxLen /\ w.heap[k]? = some (.cells C t fr) /\ ∀ i, i < n -> ∀ j, j < sz -> C[off + i * sz + j]? = some (f i j)
/-- these five cells are this tree -/
inductive TreeR (w : World) (F : Nat -> Prop) : (Nat -> Value) -> Tr -> Prop where
 | mk {c : Nat -> Value} {n : Int} {s : List UInt8} {nil null : Bool} {l : List Tr} {u : Tags} {f g : Nat -> Nat -> Value} (h0 : c 0 = .int .i64 n) (hn : fits .i64 n) (h1 : Oct w F (c 1) s nil) (h2 : c 2 = .bool null)
   (hb : l.length <= 4294967295 /\ u.length <= 4294967295) (h3 : Elems w F (c 3) l.length 5 f) (h3' : ∀ i (h : i < l.length), TreeR w F (f i) l[i]) (h4 : Elems w F (c 4) u.length 2 g)
   (h4' : ∀ i (h : i < u.length), g i 0 = .int .u32 (u[i]).1 /\ fits .u32 (u[i]).1 /\ ∃ nil, Oct w F (g i 1) (u[i]).2 nil) : TreeR w F c (.mk n s null l u)
section
variable {w w' : World} {F F' S : Nat -> Prop}
theorem Elems.mod {v : Value} {n sz : Nat} {f : Nat -> Nat -> Value} (h : Elems w F v n sz f) (hm : Mod S w w') (hs : ∀ k, F k -> ¬ S k) (hf : ∀ k, F k -> F' k) : Elems w' F' v n sz f := by
 rcases h with h | ⟨k, off, cap, C, t, fr, h1, h2, h3, h4, h5, h6⟩
 ·exact .inl h
 ·exact .inr ⟨k, off, cap, C, t, fr, hf _ h1, h2, h3, h4, hm.some h5 (hs _ h1), h6⟩
theorem TreeR.mod {c : Nat -> Value} {t : Tr} (h : TreeR w F c t) (hm : Mod S w w') (hs : ∀ k, F k -> ¬ S k) (hf : ∀ k, F k -> F' k) : TreeR w' F' c t := by
 induction h with
 | mk h0 hn h1 h2 hb h3 h3' h4 h4' ih =>
  refine .mk h0 hn (h1.mod hm hs hf) h2 hb (h3.mod hm hs hf) (fun i hi => ih i hi) (h4.mod hm hs hf) (fun i hi => ?_)
  obtain ⟨g1, g2, nil, g3⟩ := h4' i hi
  exact ⟨g1, g2, nil, g3.mod hm hs hf⟩
theorem TreeR.congr {c c' : Nat -> Value} {t : Tr} (h : TreeR w F c t) (hc : ∀ j, j < 5 -> c' j = c j) : TreeR w F c' t := by
 cases h with
 | mk h0 hn h1 h2 hb h3 h3' h4 h4' =>
  exact .mk ((hc 0 (by omega)).trans h0) hn (by rw [hc 1 (by omega)]; exact h1) ((hc 2 (by omega)).trans h2) hb (by rw [hc 3 (by omega)]; exact h3) h3' (by rw [hc 4 (by omega)]; exact h4) h4'
theorem elems_nil {v : Nat} {f : Nat -> Nat -> Value} : Elems w F (.slice none 0 0) 0 v f := .inl ⟨rfl, rfl⟩
theorem oct_nil : Oct w F (.slice none 0 0) [] true := .inl ⟨0, .inl rfl, .inl ⟨rfl, rfl, rfl⟩⟩
theorem tree_num {c : Nat -> Value} {n : Int} (h0 : c 0 = .int .i64 n) (hn : fits .i64 n) (h1 : c 1 = .slice none 0 0) (h2 : c 2 = .bool false) (h3 : c 3 = .slice none 0 0) (h4 : c 4 = .slice none 0 0) : TreeR w F c (.num n) :=
 .mk (f := fun _ _ => undef) (g := fun _ _ => undef) h0 hn (by rw [h1]; exact oct_nil) h2 (by simp) (by rw [h3]; exact elems_nil) (fun i hi => by simp at hi) (by rw [h4]; exact elems_nil) (fun i hi => by simp at hi)
theorem tree_octs {c : Nat -> Value} {s : List UInt8} {nil null : Bool} (h0 : c 0 = .int .i64 0) (h1 : Oct w F (c 1) s nil) (h2 : c 2 = .bool null) (h3 : c 3 = .slice none 0 0) (h4 : c 4 = .slice none 0 0) : TreeR w F c (.octs s null) :=
 .mk (f := fun _ _ => undef) (g := fun _ _ => undef) h0 (fits_zero _) h1 h2 (by simp) (by rw [h3]; exact elems_nil) (fun i hi => by simp at hi) (by rw [h4]; exact elems_nil) (fun i hi => by simp at hi)
end
theorem Oct.lt {w : World} {F : Nat -> Prop} {v : Value} {bs : List UInt8} {nil : Bool} (h : Oct w F v bs nil) : Oct w (fun k => F k /\ k < w.heap.size) v bs nil := by
 rcases h with ⟨sb, h1, h2⟩ | h
 ·left
  rcases h1 with rfl | h1
  ·exact ⟨sb, .inl rfl, h2⟩
  ·rcases h2 with h2 | h2
   ·obtain ⟨rfl, h3, h4⟩ := h2
    exact ⟨sb, .inl rfl, .inl ⟨rfl, h3, h4⟩⟩
   ·obtain ⟨h3, off, cap, c, t, fr, h4, h5, h6, h7, h8⟩ := h2
    exact ⟨sb, .inr ⟨h1, lt_of_block h7⟩, .inr ⟨h3, off, cap, c, t, fr, h4, h5, h6, h7, h8⟩⟩
 ·exact .inr h
theorem Elems.lt {w : World} {F : Nat -> Prop} {v : Value} {n sz : Nat} {f : Nat -> Nat -> Value} (h : Elems w F v n sz f) : Elems w (fun k => F k /\ k < w.heap.size) v n sz f := by
 rcases h with h | ⟨k, off, cap, C, t, fr, h1, h2, h3, h4, h5, h6⟩
 ·exact .inl h
 ·exact .inr ⟨k, off, cap, C, t, fr, ⟨h1, lt_of_block h5⟩, h2, h3, h4, h5, h6⟩
theorem TreeR.lt {w : World} {F : Nat -> Prop} {c : Nat -> Value} {t : Tr} (h : TreeR w F c t) : TreeR w (fun k => F k /\ k < w.heap.size) c t := by
 induction h with
 | mk h0 hn h1 h2 hb h3 h3' h4 h4' ih =>
  refine .mk h0 hn h1.lt h2 hb h3.lt (fun i hi => ih i hi) h4.lt (fun i hi => ?_)
  obtain ⟨g1, g2, nil, g3⟩ := h4' i hi
  exact ⟨g1, g2, nil, g3.lt⟩
theorem Elems.one {w : World} {F : Nat -> Prop} {v : Value} {n sz : Nat} {f : Nat -> Nat -> Value} (h : Elems w F v n sz f) : v.oneCell' = true := by
 rcases h with ⟨_, h⟩ | ⟨k, off, cap, C, t, fr, h1, h2, _⟩ <;> (subst v; rfl)
theorem TreeR.one {w : World} {F : Nat -> Prop} {c : Nat -> Value} {t : Tr} (h : TreeR w F c t) : ∀ j, j < 5 -> (c j).oneCell' = true := by
 cases h with
 | mk h0 hn h1 h2 hb h3 h3' h4 h4' =>
  intro j hj
  rcases (by omega : j = 0 \/ j = 1 \/ j = 2 \/ j = 3 \/ j = 4) with rfl | rfl | rfl | rfl | rfl
  ·rw [h0]; rfl
  ·exact oct_one h1
  ·rw [h2]; rfl
  ·exact h3.one
  ·exact h4.one
/-- a value that is a tree -/
def TreeV (w : World) (F : Nat -> Prop) (v : Value) (t : Tr) : Prop := ∃ cs : Array Value, v = .agg cs /\ cs.size = 5 /\ cs.all (·.oneCell') = true /\ TreeR w F (from' cs 0) t
theorem TreeV.mod {w w' : World} {F F' S : Nat -> Prop} {v : Value} {t : Tr} (h : TreeV w F v t) (hm : Mod S w w') (hs : ∀ k, F k -> ¬ S k) (hf : ∀ k, F k -> F' k) : TreeV w' F' v t := by
 obtain ⟨cs, h1, h2, h3, h4⟩ := h
 exact ⟨cs, h1, h2, h3, h4.mod hm hs hf⟩
/-- where things lie while a message is told: the struct; the answer's place; the tree, its list -/
structure TX where
 blk : Nat
 off : Nat
 rb : Nat
 tb : Nat
 lb : Nat
 n : Nat
structure TAmb (N : Nat) (x : TX) (a : Act) : Prop where
 size : a.tmps.size = N
 defers : a.defers = []
 src : Act.get a 0 = .pointer (some ⟨x.blk, x.off, none⟩)
 res : Act.get a 2 = .pointer (some ⟨x.rb, 0, none⟩)
 tree : Act.get a 3 = .pointer (some ⟨x.tb, 0, none⟩)
/-- the blocks in which parts of the tree may lie -/
abbrev TF (x : TX) (w0 : World) : Nat -> Prop := fun k => w0.heap.size <= k /\ k ≠ x.tb /\ k ≠ x.lb /\ k ≠ x.rb
/-- a tree's cells at first -/
def zero5 (q : Nat) : Value := (#[Value.int .i64 0, .slice none 0 0, .bool false, .slice none 0 0, .slice none 0 0] : Array Value).getD q undef
structure TMem (x : TX) (w0 w : World) (ts : List Tr) (uv : Value) : Prop where
 mod : Mod none' w0 w
 new : w0.heap.size <= x.tb /\ w0.heap.size <= x.lb /\ w0.heap.size <= x.rb
 ne : x.tb ≠ x.lb /\ x.rb ≠ x.tb /\ x.rb ≠ x.lb
 hb : ∃ T, w.heap[x.tb]? = some (.cells #[.int .i64 0, .slice none 0 0, .bool false, .slice (some ⟨x.lb, 0, none⟩) x.n x.n, uv] T (0, 0))
 hl : ∃ D T, w.heap[x.lb]? = some (.cells D T (0, 0)) /\ D.size = x.n * 5 /\ ts.length <= x.n /\ (∀ i (h : i < ts.length), TreeR w (TF x w0) (from' D (i * 5)) ts[i]) /\ ∀ i, ts.length <= i -> i < x.n -> ∀ q, q < 5 -> from' D (i * 5) q = zero5 q
 hr : ∃ z T, w.heap[x.rb]? = some (.cells z T (0, 0)) /\ z.size = 5
theorem TAmb.put {N : Nat} {x : TX} {a : Act} (h : TAmb N x a) {t : Nat} (ht : t ≠ 0 /\ t ≠ 2 /\ t ≠ 3) (v : Value) : TAmb N x (a.put (some t) v) :=
 ⟨(Zs _ _ _).trans h.size, (Zd _ _ _).trans h.defers, (Zn ht.1).trans h.src, (Zn ht.2.1).trans h.res, (Zn ht.2.2).trans h.tree⟩
theorem TAmb.same {N : Nat} {x : TX} {a b : Act} {S : Nat -> Prop} (h : TAmb N x a) (hs : SameBut S a b) (h0 : ¬ S 0) (h2 : ¬ S 2) (h3 : ¬ S 3) : TAmb N x b :=
 ⟨hs.size.trans h.size, hs.defers.trans h.defers, (hs.get _ h0).trans h.src, (hs.get _ h2).trans h.res, (hs.get _ h3).trans h.tree⟩
theorem TMem.grow {x : TX} {w0 w w' : World} {ts : List Tr} {uv : Value} (h : TMem x w0 w ts uv) (hm : Mod none' w w') : TMem x w0 w' ts uv := by
 obtain ⟨D, T, h1, h2, h3, h4, h5⟩ := h.hl
 obtain ⟨T', hb⟩ := h.hb
 obtain ⟨z, Tz, hr, hz⟩ := h.hr
 exact ⟨h.mod.trans hm, h.new, h.ne, ⟨T', hm.some hb (fun f => f)⟩, ⟨D, T, hm.some h1 (fun f => f), h2, h3, fun i hi => (h4 i hi).mod hm (fun _ _ f => f) (fun _ h => h), h5⟩, ⟨z, Tz, hm.some hr (fun f => f), hz⟩⟩
/-- the next part of the tree's list is set -/
theorem TMem.push {x : TX} {w0 w : World} {ts : List Tr} {uv : Value} {cs : Array Value} {t : Tr} (h : TMem x w0 w ts uv) (hi : ts.length < x.n) (hsz : cs.size = 5) (ht : TreeR w (TF x w0) (from' cs 0) t) :
  TMem x w0 (w.setCells x.lb (0 + ts.length * 5) cs.toList) (ts ++ [t]) uv := by
 obtain ⟨D, T, h1, h2, h3, h4, h5⟩ := h.hl
 obtain ⟨T', hb⟩ := h.hb
 obtain ⟨z, Tz, hr, hz⟩ := h.hr
 have hm := mod_setCells x.lb w (0 + ts.length * 5) cs.toList
 obtain ⟨D', k1, k2, k3, k4⟩ := heap_setCells (w := w) cs.toList (0 + ts.length * 5) D h1
 simp only [Array.length_toList, hsz] at k3 k4
 have hF : ∀ k, TF x w0 k -> ¬ only x.lb k := fun k hk e => hk.2.2.1 e
 refine ⟨h.mod.trans' hm (fun _ _ f => f) (fun j hj e => by have := h.new.2.1; have : j = x.lb := e; omega), h.new, h.ne, ⟨T', hm.some hb (fun e => h.ne.1 e)⟩, ⟨D', T, k1, by omega, by simp; omega, fun j hj => ?_, fun j hj1 hj2 q hq => ?_⟩,
  ⟨z, Tz, hm.some hr (fun e => h.ne.2.2 e), hz⟩⟩
 ·by_cases hij : j < ts.length
  ·rw [List.getElem_append_left hij]
   refine ((h4 j hij).congr fun q hq => ?_).mod hm hF (fun _ h => h)
   simp only [from', Array.getD_eq_getD_getElem?]
   rw [k4 (j * 5 + q) (by omega)]
  ·have hje : j = ts.length := by simp at hj; omega
   subst hje
   rw [show (ts ++ [t])[ts.length] = t by simp]
   refine (ht.congr fun q hq => ?_).mod hm hF (fun _ h => h)
   refine get_from' ?_
   have := k3 q (by omega) (by rw [h2]; omega)
   rw [Nat.zero_add] at this
   rw [this]
   simp [from', show q < cs.size by omega]
 ·have hj1' : ts.length + 1 <= j := by simpa using hj1
  rw [<- h5 j (by omega) hj2 q hq]
  simp only [from', Array.getD_eq_getD_getElem?]
  rw [k4 (j * 5 + q) (by omega)]
/-- a piece of code that tells parts of a struct -/
def TBlk (P : Program) (N n : Nat) (σ : St) (c : Code) (j : Nat) (g : SV -> Tr) : Prop :=
 ∀ x Fs v ts uv a w0 w, x.n = n -> ts.length = j -> TAmb N x a -> Cur σ Fs x.blk x.off v w0 -> TMem x w0 w ts uv -> c.wp P (fun e a' w' => e = .normal /\ TAmb N x a' /\ TMem x w0 w' (ts ++ [g v]) uv) a w
end Go.Proofs.YtcldbjehliladaaDoor
