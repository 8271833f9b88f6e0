/-
  Sixteen octets: how they are read.
  Rules for the code that reads a message: a test of the version between two bounds. No program in it.
  Rules for the code that reads a message: a part that may be none; a text that is put into a new variable. No program in it.
  What a struct is at first; 'Default'. No program in it.
-/
import Derived.Test.YtcldbjehliladaaDoorPRp
set_option linter.unusedSimpArgs false
set_option linter.unusedVariables false
set_option linter.unusedSimpArgs false
set_option linter.unusedVariables false
set_option linter.unusedSimpArgs false
set_option linter.unusedVariables false
namespace Go.Proofs.YtcldbjehliladaaDoor
open Go Go.RowKit
/-- a part that may be none -/
def psubF (i : Nat) (rp : Int -> Bool -> RS -> Tr × RS) (z : SV) (f : FT) : FT := fun ver fl v s =>
 if ((rp ver fl s).1.N != -1 && !(rp ver fl s).2.bad) = true then (f ver fl z (rp ver fl s).2).then fun v' s' => .ok (v.1.set i (.part v'.1 v'.2), v.2) s' else .ok v (rp ver fl s).2
section
variable {P : Program} {Γ : Sl} {σ σ' : St} {f g : FT} {id id' id1 id2 id3 id4 id5 : Nat} {rp : Int -> Bool -> RS -> Tr × RS}
 {y1 y2 y3 y4 y5 y6 y7 y8 y9 y10 y11 y12 y13 y14 : TypeId} {p1 p2 p3 p4 p5 p6 p7 p8 p9 p10 p11 p12 p13 p14 : String} {e1 e2 e3 e4 e5 e6 e7 e8 e9 e10 e11 e12 e13 e14 : Array Edge} {ts ts1 : Array TypeId} {t0 t1 t2 t3 t4 t5 t6 t7 t8 t9 t10 t11 : Nat} {yg yh : TypeId}
 {cl ct rest : Code} {i o k T : Nat} {pv sp fd ET PT : Nat}
/-- a text's box is written: the reader stays -/
theorem Rd.box {w : World} {rb sb kb T : Nat} {s : RS} {q q' : ByteArray} (h : Rd w rb sb s) (hk : w.heap[kb]? = some (.cells #[.string q] T (0, 0))) (hne : rb ≠ kb) : Rd (w.setCell ⟨kb, 0, none⟩ (.string q')) rb sb s := by
 have hm : Mod (only kb) w (w.setCell ⟨kb, 0, none⟩ (.string q')) := (Mod.refl w).put _ _
 obtain ⟨hl, hn, src, t, hb, hs⟩ := h
 refine ⟨hm.lt hl, hn, src, t, hm.some hb hne, ?_⟩
 by_cases he : sb = kb
 ·subst he
  rcases hs with hs | ⟨n1, off, cap, c, t', fr, n2, n3, n4, n5, n6⟩
  ·exact .inl hs
  ·rw [hk] at n5
   obtain ⟨rfl, rfl, rfl⟩ : #[Value.string q] = c /\ T = t' /\ (0, 0) = fr := by simpa using n5
   have h0 : s.bs.length = 0 := by
    apply Classical.byContradiction
    intro hne0
    have := n6 0 (by omega)
    rw [Nat.add_zero] at this
    cases off with
    | zero => simp at this
    | succ n => simp at this
   exact .inr ⟨n1, off, cap, _, T, (0, 0), n2, n3, n4, heap_setCell_same hk _, fun i hi => by omega⟩
 ·exact hs.mod hm he
end
end Go.Proofs.YtcldbjehliladaaDoor
set_option linter.unusedSimpArgs false
set_option linter.unusedVariables false
namespace Go.Proofs.YtcldbjehliladaaDoor
open Go Go.RowKit
def zeros (c : Nat -> Value) : Nat -> Prop
 | 0 => True
 | n + 1 => c n = .int .u8 0 /\ zeros c n
theorem zeros_at {c : Nat -> Value} : ∀ {n j : Nat}, zeros c n -> j < n -> c j = .int .u8 0
 | n + 1, j, h, hj => by
  by_cases e : j = n
  ·rw [e]; exact h.1
  ·exact zeros_at h.2 (by omega)
mutual
/-- nothing has been put in -/
def Ty.zero : Ty -> Tr
 | .int _ => .num 0
 | .bool => .ofBool false
 | .float => .num (wrap64 0)
 | .str => .oct []
 | .pstr => .ofOpt none
 | .bytes => .octs [] true
 | .uuid => .oct (List.replicate 16 0)
 | .list _ _ => .nul
 | .struct lay _ _ => .part lay.zeroL []
 | .pstruct _ _ _ => .nul
def Lay.zeroL : Lay -> List Tr
 | .nil => []
 | .cons _ t r => t.zero :: r.zeroL
end
mutual
def Ty.isZero : Ty -> (Nat -> Value) -> Prop
 | .int k, c => c 0 = .int k 0
 | .bool, c => c 0 = .bool false
 | .float, c => c 0 = .float .f64 0
 | .str, c => c 0 = .string (str [])
 | .pstr, c => c 0 = .pointer none
 | .bytes, c => c 0 = .slice none 0 0
 | .uuid, c => zeros c 16
 | .list _ _, c => c 0 = .slice none 0 0
 | .struct lay tg _, c => lay.isZero c /\ match tg with | some o => c o = .map none | none => True
 | .pstruct _ _ _, c => c 0 = .pointer none
def Lay.isZero : Lay -> (Nat -> Value) -> Prop
 | .nil, _ => True
 | .cons o t r, c => t.isZero (fun j => c (o + j)) /\ r.isZero c
end
mutual
theorem Ty.zero_rep {w : World} {F : Nat -> Prop} : ∀ (t : Ty) (c : Nat -> Value), t.isZero c -> Rep w F t c t.zero
 | .int k, c, h => by simp only [Ty.isZero] at h; simp only [Rep, Ty.zero]; exact ⟨0, h, fits_zero k, rfl⟩
 | .bool, c, h => by simp only [Ty.isZero] at h; simp only [Rep, Ty.zero]; exact ⟨false, h, rfl⟩
 | .float, c, h => by simp only [Ty.isZero] at h; simp only [Rep, Ty.zero]; exact ⟨0, h, by omega, rfl⟩
 | .str, c, h => by simp only [Ty.isZero] at h; simp only [Rep, Ty.zero]; exact ⟨[], h, by simp, rfl⟩
 | .pstr, c, h => by simp only [Ty.isZero] at h; simp only [Rep, Ty.zero]; exact ⟨none, h, fun _ e => (by cases e), rfl⟩
 | .bytes, c, h => by simp only [Ty.isZero] at h; simp only [Rep, Ty.zero]; exact ⟨[], true, by rw [h]; exact .inl ⟨0, .inl rfl, .inl ⟨rfl, rfl, rfl⟩⟩, by simp, rfl⟩
 | .uuid, c, h => by
  simp only [Ty.isZero] at h; simp only [Rep, Ty.zero]
  refine ⟨List.replicate 16 0, by simp, fun i hi => ?_, rfl⟩
  rw [zeros_at h (by simpa using hi), List.getElem_replicate]
  rfl
 | .list _ _, c, h => by simp only [Ty.isZero] at h; simp only [Rep, Ty.zero]; exact .inl ⟨h, trivial⟩
 | .struct lay tg _, c, h => by
  simp only [Ty.isZero] at h; simp only [Rep, Ty.zero]
  refine ⟨lay.zeroL, [], Lay.zero_rep lay c h.1, ?_, rfl⟩
  cases tg with
  | none => rfl
  | some o => exact .inl ⟨h.2, rfl⟩
 | .pstruct _ _ _, c, h => by simp only [Ty.isZero] at h; simp only [Rep, Ty.zero]; exact .inl ⟨h, trivial⟩
theorem Lay.zero_rep {w : World} {F : Nat -> Prop} : ∀ (lay : Lay) (c : Nat -> Value), lay.isZero c -> RepL w F lay c lay.zeroL
 | .nil, c, h => by simp only [RepL, Lay.zeroL]
 | .cons o t r, c, h => by
  simp only [Lay.isZero] at h
  simp only [RepL, Lay.zeroL]
  exact ⟨t.zero, r.zeroL, rfl, Ty.zero_rep t _ h.1, Lay.zero_rep r c h.2⟩
end
theorem zero_ok {lay : Lay} {tg : Option Nat} {z : Nat -> Value} (h : lay.isZero z) (ht : match tg with | some o => z o = .map none | none => True) : ∀ (w : World) (F : Nat -> Prop), RepL w F lay z (lay.zeroL, ([] : Tags)).1 /\ (match tg with | some o => TagsR w F (z o) (lay.zeroL, ([] : Tags)).2 | none => (lay.zeroL, ([] : Tags)).2 = []) := by
 intro w F
 refine ⟨Lay.zero_rep lay z h, ?_⟩
 cases tg with
 | none => rfl
 | some o => exact .inl ⟨ht, rfl⟩
/-- a piece of the code of 'Default' -/
def DBlk (P : Program) (σ : St) (N : Nat) (c : Code) (d : SV -> SV) : Prop :=
 ∀ F blk off v a w, a.tmps.size = N -> a.defers = [] -> Act.get a 0 = .pointer (some ⟨blk, off, none⟩) -> Cur σ F blk off v w -> (∀ k, F k -> k ≠ blk) -> c.wp P (fun e a' w' => e = .normal /\ a'.tmps.size = N /\ a'.defers = [] /\ Act.get a' 0 = .pointer (some ⟨blk, off, none⟩) /\ Mod (only blk) w w' /\ Cur σ F blk off (d v) w' /\
  ∀ C t, w.heap[blk]? = some (.cells C t (0, 0)) -> ∃ C', w'.heap[blk]? = some (.cells C' t (0, 0)) /\ C'.size = C.size /\ ∀ j, j < off \/ off + σ.sz <= j -> C'[j]? = C[j]?) a w
section
variable {P : Program} {σ : St} {N : Nat} {d d' : SV -> SV} {c c' : Code} {id i o k T yt : Nat} {ty : Ty} {t1 t2 t3 : Nat} {y1 y2 y3 y4 : TypeId} {p1 p2 p3 p4 : String} {e1 e2 e3 e4 : Array Edge} {val : Value} {u : Tr}
theorem dblk_skip : DBlk P σ N .skip (fun v => v) := fun F blk off v a w h1 h2 h3 h4 _ => wp_skip ⟨rfl, h1, h2, h3, .refl w, h4, fun C t hc => ⟨C, hc, rfl, fun _ _ => rfl⟩⟩
theorem dfc_rule {fd : FuncId} {fn : Func} (hf : P.funcs[fd]? = some fn) (hbody : fn.body = some c) (hN : fn.ntmps = N) (hres : fn.results = #[]) (hN1 : 1 <= N) (h : DBlk P σ N c d) : DfC P fd σ d := by
 intro F blk off v w hC hF
 refine calls_of_wp hf hbody ?_
 rw [hN]
 refine wp_mono (h F blk off v _ w ?_ rfl (by rw [Zj _ _ _ (by simp)]; rfl) hC hF) ?_
 ·simp; omega
 rintro e a' w' ⟨rfl, g1, g2, g3, g4, g5, g6⟩
 exact ⟨g2, .tuple #[], by simp [results, hres], ⟨_, rfl⟩, g4, g5, g6⟩
end
end Go.Proofs.YtcldbjehliladaaDoor
