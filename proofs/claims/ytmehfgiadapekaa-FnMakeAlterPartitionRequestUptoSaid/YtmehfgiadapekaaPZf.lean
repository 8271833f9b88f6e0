/-
  What a message's fields are set to by what was made to fit (FnMake): they say what was to be written. No program in it.
  What fits may be set: texts and lists are short, tags rise (FnMake). No program in it.
  Rules for the code that sets a message's fields from a tree (FnMake).
-/
import Derived.Test.YtmehfgiadapekaaPYa
import Derived.Test.YtmehfgiadapekaaPZb
import Derived.Test.YtmehfgiadapekaaPZg
set_option linter.unusedSimpArgs false
set_option linter.unusedVariables false
namespace Go.Proofs.Ytmehfgiadapekaa
open Go Go.RowKit
mutual
/-- what a field is set to -/
def setW : FD -> Int -> Tr -> Tr
 | .mk kind _ _ null tag _ of sub, ver, t =>
  if kind = 11 then (if nullW null ver t || (decide (0 <= tag) && t.L.isEmpty) then .nul else .list ((t.L.take 32767).map fun x => if of = 10 then .part (setsW sub 0 ver x) (cutW (unkW x.U)) else expL of false x) false)
  else if kind = 10 then (if nullW null ver t then .nul else .part (setsW sub 0 ver t) (cutW (unkW t.U)))
  else expL kind (nullW null ver t) t
def setsW : List FD -> Nat -> Int -> Tr -> List Tr
 | [], _, _, _ => []
 | f :: r, j, ver, t => setW f ver (t.L.getD j .zero) :: setsW r (j + 1) ver t
end
theorem tagsSaid_part {fl : Bool} {t : Tr} {l : List Tr} : tagsSaid fl t (.part l (cutW (unkW t.U))) = true := by simp [tagsSaid, Tr.part, Tr.U]
theorem Tr.list_L {l : List Tr} {z : Bool} : (Tr.list l z).L = l := rfl
theorem Tr.list_Z {l : List Tr} {z : Bool} : (Tr.list l z).Z = z := rfl
theorem zip_self {q : Tr × Tr} : ∀ {l : List Tr}, q ∈ l.zip l -> q.1 = q.2
 | [], h => by simp at h
 | a :: l, h => by
  rw [List.zip_cons_cons, List.mem_cons] at h
  rcases h with rfl | h
  ·rfl
  ·exact zip_self h
mutual
theorem said_of_set : ∀ (f : FD) (ver : Int) (fl : Bool) (t : Tr), f.ok = true -> TOk t -> saidW f ver fl t (setW f ver t) = true
 | .mk kind fr to null tag d of sub, ver, fl, t, hok, ht => by
  simp only [FD.ok, Bool.and_eq_true, decide_eq_true_eq] at hok
  obtain ⟨⟨htag, hno⟩, hk⟩ := hok
  have htg : decide (0 <= tag) = false := by simp; omega
  unfold saidW setW
  by_cases h11 : kind = 11
  ·subst h11
   simp only [if_true, htg, Bool.false_and, Bool.or_false] at hk ⊢
   cases hz : nullW null ver t with
   | true =>
    have : (decide (0 <= null) && decide (null <= ver)) = true := by simp only [nullW, Bool.and_eq_true] at hz ⊢; exact ⟨hz.1.2, hz.2⟩
    simp [Tr.nul, Tr.Z]
   | false =>
    simp only [Bool.false_eq_true, if_false, Tr.list_Z, bne_self_eq_false, Bool.and_false, Tr.list_L, List.length_map, decide_true, Bool.true_and]
    rw [List.all_eq_true]
    intro p hp
    rw [List.zip_map_right] at hp
    obtain ⟨q, hq, rfl⟩ := List.mem_map.1 hp
    have hqq : q.1 = q.2 := zip_self hq
    obtain ⟨q1, q2⟩ := q
    obtain rfl : q1 = q2 := hqq
    have hqm : q1 ∈ t.L := List.mem_of_mem_take (List.of_mem_zip hq).1
    simp only [Prod.map, id]
    by_cases h10 : of = 10
    ·subst h10
     simp only [if_true] at hk ⊢
     rw [tagsSaid_part, Bool.and_true]
     exact saids_of_set sub 0 ver fl q1 hk (ht.list _ hqm)
    ·simp only [h10, if_false] at hk ⊢
     have := leaf_told (kind := of) (null := -1) (ver := ver) (t := q1) hk (.inr (.inr rfl)) (ht.list _ hqm).num
     simpa [nullW] using this
  ·simp only [h11, if_false] at hk ⊢
   by_cases h10 : kind = 10
   ·subst h10
    simp only [if_true] at hk ⊢
    cases hz : nullW null ver t with
    | true => simp [Tr.nul, Tr.Z]
    | false =>
     simp only [Bool.false_eq_true, if_false, Tr.part, Tr.Z, bne_self_eq_false, Tr.L]
     rw [show tagsSaid fl t (.mk 0 [] false (setsW sub 0 ver t) (cutW (unkW t.U))) = true from tagsSaid_part, Bool.and_true]
     exact saids_of_set sub 0 ver fl t hk ht
   ·simp only [h10, if_false, Bool.and_eq_true] at hk ⊢
    refine leaf_told hk.1 ?_ ht.num
    have := hk.2
    simp only [Bool.or_eq_true, beq_iff_eq] at this
    rcases this with (h | h) | h
    ·exact .inl h
    ·exact .inr (.inl h)
    ·exact .inr (.inr h)
theorem saids_of_set : ∀ (fs : List FD) (j : Nat) (ver : Int) (fl : Bool) (t : Tr), oksW fs = true -> TOk t -> saidsW fs j ver fl t (setsW fs j ver t) = true
 | [], _, _, _, _, _, _ => by simp [saidsW, setsW]
 | f :: r, j, ver, fl, t, hok, ht => by
  simp only [oksW, Bool.and_eq_true] at hok
  simp only [saidsW, setsW]
  rw [saids_of_set r (j + 1) ver fl t hok.2 ht, Bool.and_true]
  split
  ·exact said_of_set f ver fl _ hok.1 (ht.at j)
  ·rfl
end
/-- so what a message that is set writes is what the protocol writes -/
theorem encP_set {fs : List FD} {ver : Int} {fl : Bool} {t : Tr} (hok : oksW fs = true) (ht : TOk t) : encP fs ver fl (setsW fs 0 ver t, cutW (unkW t.U)) = partW fs ver fl t :=
 encP_eq hok ht (saids_of_set fs 0 ver fl t hok ht) (fun _ => rfl)
/-- a value that is no part, as it is set from what is given -/
def fillL (kind null : Int) (g : Tr) : Tr := if kind = 8 then (if 0 <= null /\ g.Z = true then .nul else .oct g.S) else if kind = 9 then (if g.Z = true then .octs [] true else .octs g.S false) else expL kind false g
/-- a value that is no part, as it fits -/
def fitL (kind null ver : Int) (t : Tr) : Tr := if kind = 8 \/ kind = 9 then .mk 0 (whole t.S) (nullW null ver t) [] [] else .mk t.N t.S false [] []
mutual
/-- what Fit makes of a field -/
def fitW : FD -> Int -> Tr -> Tr
 | .mk kind _ _ null tag _ of sub, ver, t =>
  if kind = 11 then .mk 0 [] (nullW null ver t || (decide (0 <= tag) && t.L.isEmpty)) ((t.L.take 32767).map fun x => if of = 10 then .part (fitsW sub 0 ver x) (cutW (unkW x.U)) else fitL of (-1) ver x) []
  else if kind = 10 then .mk 0 [] (nullW null ver t) (fitsW sub 0 ver t) (cutW (unkW t.U))
  else fitL kind null ver t
def fitsW : List FD -> Nat -> Int -> Tr -> List Tr
 | [], _, _, _ => []
 | f :: r, j, ver, t => fitW f ver (t.L.getD j .zero) :: fitsW r (j + 1) ver t
end
mutual
/-- what a field is set to by what is given -/
def fillW : FD -> Tr -> Tr
 | .mk kind _ _ null _ _ of sub, g =>
  if kind = 11 then (if g.Z = true then .nul else .list (g.L.map fun x => if of = 10 then .part (fillsW sub 0 x) x.U else fillL of (-1) x) false)
  else if kind = 10 then (if 0 <= null /\ g.Z = true then .nul else .part (fillsW sub 0 g) g.U)
  else fillL kind null g
def fillsW : List FD -> Nat -> Tr -> List Tr
 | [], _, _ => []
 | f :: r, j, g => fillW f (g.L.getD j .zero) :: fillsW r (j + 1) g
end
theorem fitsW_length : ∀ (fs : List FD) (j : Nat) (ver : Int) (t : Tr), (fitsW fs j ver t).length = fs.length
 | [], _, _, _ => by simp [fitsW]
 | f :: r, j, ver, t => by simp [fitsW, fitsW_length r]
theorem nullW_neg {ver : Int} {t : Tr} : nullW (-1) ver t = false := by simp [nullW]
theorem nullW_nn {null ver : Int} {t : Tr} (h : nullW null ver t = true) : 0 <= null := by simp only [nullW, Bool.and_eq_true, decide_eq_true_eq] at h; exact h.1.2
theorem fillL_fit {kind null ver : Int} {t : Tr} : fillL kind null (fitL kind null ver t) = expL kind (nullW null ver t) t := by
 by_cases h8 : kind = 8
 ·subst h8
  simp only [fillL, fitL, if_true, true_or, expL, Tr.Z, Tr.S]
  cases hz : nullW null ver t with
  | true => simp [nullW_nn hz]
  | false => simp
 ·by_cases h9 : kind = 9
  ·subst h9
   simp only [fillL, fitL, if_true, or_true, expL, Tr.Z, Tr.S]
   cases hz : nullW null ver t <;> simp
  ·simp only [fillL, fitL, h8, h9, or_self, if_false]
   cases t
   simp only [expL, h8, h9, if_false]
   rfl
theorem fills_pre {fs : List FD} (ih : ∀ f ∈ fs, ∀ (ver : Int) (t : Tr), fillW f (fitW f ver t) = setW f ver t) : ∀ (r : List FD) (j : Nat) (pre : List Tr) (g t : Tr) (ver : Int), (∀ f ∈ r, f ∈ fs) -> pre.length = j -> g.L = pre ++ fitsW r j ver t -> fillsW r j g = setsW r j ver t
 | [], _, _, _, _, _, _, _, _ => by simp [fillsW, setsW]
 | f :: r, j, pre, g, t, ver, hm, hp, hg => by
  simp only [fillsW, setsW]
  have e1 : g.L.getD j .zero = fitW f ver (t.L.getD j .zero) := by
   rw [hg, fitsW]; simp [List.getD, <- hp]
  rw [e1, ih f (hm f (by simp)), fills_pre ih r (j + 1) (pre ++ [fitW f ver (t.L.getD j .zero)]) g t ver (fun f h => hm f (by simp [h])) (by simp [hp]) (by rw [hg, fitsW]; simp)]
mutual
theorem fill_fit : ∀ (f : FD) (ver : Int) (t : Tr), f.ok = true -> fillW f (fitW f ver t) = setW f ver t
 | .mk kind fr to null tag d of sub, ver, t, hok => by
  simp only [FD.ok, Bool.and_eq_true, decide_eq_true_eq] at hok
  obtain ⟨⟨htag, hno⟩, hk⟩ := hok
  have htg : decide (0 <= tag) = false := by simp; omega
  unfold fillW fitW setW
  by_cases h11 : kind = 11
  ·subst h11
   simp only [if_true, htg, Bool.false_and, Bool.or_false] at hk ⊢
   cases hz : nullW null ver t with
   | true => simp [Tr.Z]
   | false =>
    rw [if_neg (by simp [Tr.Z]), if_neg (by simp)]
    show Tr.list (List.map _ (List.map _ (t.L.take 32767))) false = _
    rw [List.map_map]
    congr 1
    apply List.map_congr_left
    intro x hx
    simp only [Function.comp]
    by_cases h10 : of = 10
    ·subst h10
     simp only [if_true] at hk ⊢
     exact congrArg (fun l => Tr.part l (cutW (unkW x.U))) (fills_fit sub ver x hk _)
    ·simp only [h10, if_false]
     rw [fillL_fit, nullW_neg]
  ·simp only [h11, if_false] at hk ⊢
   by_cases h10 : kind = 10
   ·subst h10
    simp only [if_true] at hk ⊢
    cases hz : nullW null ver t with
    | true => rw [if_pos ⟨nullW_nn hz, rfl⟩]; rfl
    | false =>
     rw [if_neg (by simp [Tr.Z]), if_neg (by simp)]
     exact congrArg (fun l => Tr.part l (cutW (unkW t.U))) (fills_fitz sub ver t hk _ _)
   ·simp only [h10, if_false]
    exact fillL_fit
theorem fills_fit : ∀ (fs : List FD) (ver : Int) (t : Tr), oksW fs = true -> ∀ u, fillsW fs 0 (.part (fitsW fs 0 ver t) u) = setsW fs 0 ver t
 | fs, ver, t, hok, u => fills_pre (fs := fs) (fill_all fs hok) fs 0 [] _ t ver (fun _ h => h) rfl rfl
theorem fills_fitz : ∀ (fs : List FD) (ver : Int) (t : Tr), oksW fs = true -> ∀ z u, fillsW fs 0 (.mk 0 [] z (fitsW fs 0 ver t) u) = setsW fs 0 ver t
 | fs, ver, t, hok, z, u => fills_pre (fs := fs) (fill_all fs hok) fs 0 [] _ t ver (fun _ h => h) rfl rfl
theorem fill_all : ∀ (fs : List FD), oksW fs = true -> ∀ f ∈ fs, ∀ (ver : Int) (t : Tr), fillW f (fitW f ver t) = setW f ver t
 | [], _, f, hf, _, _ => by simp at hf
 | g :: r, hok, f, hf, ver, t => by
  simp only [oksW, Bool.and_eq_true] at hok
  rcases List.mem_cons.1 hf with h | h
  ·rw [h]; exact fill_fit g ver t hok.1
  ·exact fill_all r hok.2 f h ver t
end
end Go.Proofs.Ytmehfgiadapekaa
set_option linter.unusedSimpArgs false
set_option linter.unusedVariables false
namespace Go.Proofs.Ytmehfgiadapekaa
open Go Go.RowKit
/-- tags that may be set one by one -/
def UOk (u : Tags) : Prop := u.Pairwise (fun p q => p.1 < q.1) /\ u.length <= 32767 /\ ∀ p ∈ u, 0 <= p.1 /\ p.1 < 4294967296 /\ p.2.length <= 32767
def gokL (kind : Int) (g : Tr) : Prop := (kind = 8 \/ kind = 9) -> g.S.length <= 32767
mutual
/-- what is given fits a field -/
def gokW : FD -> Tr -> Prop
 | .mk kind _ _ _ _ _ of sub, g =>
  if kind = 11 then g.L.length <= 32767 /\ ∀ x ∈ g.L, (if of = 10 then goksW sub 0 x /\ UOk x.U else gokL of x)
  else if kind = 10 then goksW sub 0 g /\ UOk g.U else gokL kind g
def goksW : List FD -> Nat -> Tr -> Prop
 | [], _, _ => True
 | f :: r, j, g => gokW f (g.L.getD j .zero) /\ goksW r (j + 1) g
end
theorem cutW_ok {u : Tags} (hu : TagsOk u) : UOk (cutW u) := by
 refine ⟨?_, by simpa [cutW] using hu.2.1, fun p hp => ?_⟩
 ·unfold cutW
  rw [List.pairwise_map]
  exact hu.1
 ·unfold cutW at hp
  obtain ⟨q, hq, rfl⟩ := List.mem_map.1 hp
  have := hu.2.2 q hq
  exact ⟨this.1, this.2, whole_length q.2⟩
theorem gokL_fit {kind null ver : Int} {t : Tr} : gokL kind (fitL kind null ver t) := by
 intro h
 unfold fitL
 rw [if_pos h]
 exact whole_length t.S
theorem goks_pre {fs : List FD} (ih : ∀ f ∈ fs, ∀ (ver : Int) (t : Tr), TOk t -> gokW f (fitW f ver t)) : ∀ (r : List FD) (j : Nat) (pre : List Tr) (g t : Tr) (ver : Int), TOk t -> (∀ f ∈ r, f ∈ fs) -> pre.length = j -> g.L = pre ++ fitsW r j ver t -> goksW r j g
 | [], _, _, _, _, _, _, _, _, _ => by simp [goksW]
 | f :: r, j, pre, g, t, ver, ht, hm, hp, hg => by
  simp only [goksW]
  have e1 : g.L.getD j .zero = fitW f ver (t.L.getD j .zero) := by
   rw [hg, fitsW]; simp [List.getD, <- hp]
  rw [e1]
  exact ⟨ih f (hm f (by simp)) ver _ (ht.at j), goks_pre ih r (j + 1) (pre ++ [fitW f ver (t.L.getD j .zero)]) g t ver ht (fun f h => hm f (by simp [h])) (by simp [hp]) (by rw [hg, fitsW]; simp)⟩
mutual
theorem gok_fit : ∀ (f : FD) (ver : Int) (t : Tr), TOk t -> gokW f (fitW f ver t)
 | .mk kind fr to null tag d of sub, ver, t, ht => by
  unfold gokW fitW
  by_cases h11 : kind = 11
  ·simp only [h11, if_true, Tr.L]
   refine ⟨by simp; omega, fun x hx => ?_⟩
   obtain ⟨y, hy, rfl⟩ := List.mem_map.1 hx
   have hty := ht.list y (List.mem_of_mem_take hy)
   by_cases h10 : of = 10
   ·simp only [h10, if_true]
    exact ⟨goks_pre (gok_all sub) sub 0 [] _ y ver hty (fun _ h => h) rfl rfl, cutW_ok (unk_ok y.U hty.tags)⟩
   ·simp only [h10, if_false]
    exact gokL_fit
  ·simp only [h11, if_false]
   by_cases h10 : kind = 10
   ·simp only [h10, if_true]
    exact ⟨goks_pre (gok_all sub) sub 0 [] _ t ver ht (fun _ h => h) rfl rfl, cutW_ok (unk_ok t.U ht.tags)⟩
   ·simp only [h10, if_false]
    exact gokL_fit
theorem gok_all : ∀ (fs : List FD), ∀ f ∈ fs, ∀ (ver : Int) (t : Tr), TOk t -> gokW f (fitW f ver t)
 | [], f, hf, _, _, _ => by simp at hf
 | g :: r, f, hf, ver, t, ht => by
  rcases List.mem_cons.1 hf with h | h
  ·rw [h]; exact gok_fit g ver t ht
  ·exact gok_all r f h ver t ht
end
theorem goks_fit {fs : List FD} {ver : Int} {t : Tr} (ht : TOk t) (z : Bool) (u : Tags) : goksW fs 0 (.mk 0 [] z (fitsW fs 0 ver t) u) := goks_pre (gok_all fs) fs 0 [] _ t ver ht (fun _ h => h) rfl rfl
mutual
/-- a field that nothing was set to -/
def zeroW : FD -> Tr
 | .mk kind _ _ null _ _ _ sub =>
  if kind = 11 then .nul else if kind = 10 then (if 0 <= null then .nul else .part (zerosW sub) [])
  else if kind = 8 then (if 0 <= null then .nul else .oct []) else if kind = 9 then .octs [] true else if kind = 7 then .oct (List.replicate 16 0) else .num 0
def zerosW : List FD -> List Tr
 | [] => []
 | f :: r => zeroW f :: zerosW r
end
theorem zerosW_length : ∀ (fs : List FD), (zerosW fs).length = fs.length
 | [] => by simp [zerosW]
 | f :: r => by simp [zerosW, zerosW_length r]
theorem zerosW_at : ∀ (fs : List FD) (k : Nat) (h : k < fs.length), (zerosW fs)[k]? = some (zeroW fs[k])
 | [], k, h => by simp at h
 | f :: r, 0, h => by simp [zerosW]
 | f :: r, k + 1, h => by simp only [zerosW, List.getElem?_cons_succ, List.getElem_cons_succ]; exact zerosW_at r k (by simpa using h)
end Go.Proofs.Ytmehfgiadapekaa
set_option linter.unusedSimpArgs false
set_option linter.unusedVariables false
namespace Go.Proofs.Ytmehfgiadapekaa
open Go Go.RowKit
/-- a field that lies in one cell -/
def fldOne (P : Program) (T k o : Nat) : Bool := match P.underlying T with
 | some (.struct fs) => match fs[k]? with
  | some f => one P f.type && f.offset == o
  | none => false
 | _ => false
theorem x_fieldO {P : Program} {ρ : Operand -> Value} {w : World} {d : Option Tmp} {ty : TypeId} {p : String} {af : Array Edge} {g : Option (Nat × Bool)} {x : Operand} {T k o : Nat} {cs : Array Value} {v : Value} (hf : fldOne P T k o = true) (hx : ρ x = .agg cs) (hc : cs[o]? = some v) :
  (execOp ρ ⟨d, .field T x k, ty, p, af, g⟩).run P w = .ok (.value v) w := by
 unfold fldOne at hf
 cases hu : P.underlying T with
 | none => simp [hu] at hf
 | some ds =>
  cases ds with
  | struct fs =>
   cases hk : fs[k]? with
   | none => simp [hu, hk] at hf
   | some f =>
    simp only [hu, hk, Bool.and_eq_true, beq_iff_eq] at hf
    obtain ⟨h1, rfl⟩ := hf
    simp [execOp, Instr.field, run_underlying hu, hk, hx, asAgg, part, isAgg_one h1, hc]
  | _ => simp [hu] at hf
/-- the slots of a walk that sets fields: the tree's box, the struct -/
structure Fl where
 N : Nat
 tb : Nat
 s : Nat
 ot : Option Nat
 r : Option Nat
 rn : Nat
/-- where the tags lie is not touched -/
def Fl.off (Γ : Fl) (o n : Nat) : Bool := match Γ.ot with | some q => decide (q < o) || decide (o + n <= q) | none => true
theorem Fl.off_spec {Γ : Fl} {o n : Nat} (h : Γ.off o n = true) : ∀ q, Γ.ot = some q -> q < o \/ o + n <= q := fun q hq => by
 unfold Fl.off at h
 rw [hq] at h
 simpa using h
/-- what stays in such a walk -/
structure Fx where
 blk : Nat
 tblk : Nat
 ct : Array Value
 g : Tr
 w0 : World
 e : Nat
 rb : Nat
 w1 : World
/-- what is old, or made since -/
def Fx.nw (x : Fx) (w : World) : Nat -> Prop := fun k => k < x.w0.heap.size \/ w.heap.size <= k
/-- where what is set may lie -/
def Fx.F (x : Fx) : Nat -> Prop := fun k => (k < x.w0.heap.size \/ x.e <= k) /\ k ≠ x.blk /\ k ≠ x.tblk
structure FA (Γ : Fl) (x : Fx) (a : Act) (w : World) : Prop where
 size : a.tmps.size = Γ.N
 defers : a.defers = []
 tree : Act.get a Γ.tb = .pointer (some ⟨x.tblk, 0, none⟩)
 ptr : Act.get a Γ.s = .pointer (some ⟨x.blk, 0, none⟩)
 hb : ∃ T, w.heap[x.tblk]? = some (.cells x.ct T (0, 0))
 ct : x.ct.size = 5
 tr : TreeI x.w0 (from' x.ct 0) x.g
 mod : Mod none' x.w0 w
 lo : x.w0.heap.size <= x.blk /\ x.w0.heap.size <= x.tblk /\ x.blk ≠ x.tblk
 ent : x.e <= w.heap.size
 nt : ∀ q, Γ.ot = some q -> ∃ C t, w.heap[x.blk]? = some (.cells C t (0, 0)) /\ C[0 + q]? = some (.map none)
 we : x.w0.heap.size <= x.e
 res : ∀ q, Γ.r = some q -> Act.get a q = .pointer (some ⟨x.rb, 0, none⟩) /\ x.rb < x.e /\ x.rb ≠ x.blk /\ x.w0.heap.size <= x.rb /\ ∃ C t, w.heap[x.rb]? = some (.cells C t (0, 0)) /\ C.size = Γ.rn
 m1 : Mod none' x.w1 w /\ x.w1.heap.size <= x.blk /\ x.w1.heap.size <= x.e /\ ∀ q, Γ.r = some q -> x.w1.heap.size <= x.rb
def Fl.free (Γ : Fl) (t : Nat) : Bool := decide (t < Γ.N) && t != Γ.tb && t != Γ.s && !(Γ.r == some t)
theorem Fl.free_all {Γ : Fl} {t : Nat} (h : Γ.free t = true) : t < Γ.N /\ t ≠ Γ.tb /\ t ≠ Γ.s /\ Γ.r ≠ some t := by simpa [Fl.free, and_assoc] using h
theorem Fl.free_spec {Γ : Fl} {t : Nat} (h : Γ.free t = true) : t < Γ.N /\ t ≠ Γ.tb /\ t ≠ Γ.s := ⟨(Fl.free_all h).1, (Fl.free_all h).2.1, (Fl.free_all h).2.2.1⟩
section
variable {Γ : Fl} {x : Fx} {a : Act} {w w' : World}
theorem FA.put (h : FA Γ x a w) {t : Nat} (ht : Γ.free t = true) (v : Value) : FA Γ x (a.put (some t) v) w := by
 obtain ⟨h1, h2, h3, h4⟩ := Fl.free_all ht
 exact ⟨(Zs _ _ _).trans h.size, (Zd _ _ _).trans h.defers, (Zn h2).trans h.tree, (Zn h3).trans h.ptr, h.hb, h.ct, h.tr, h.mod, h.lo, h.ent, h.nt, h.we, fun q hq => ⟨(Zn (d := t) (t := q) (fun e => h4 (by rw [e]; exact hq))).trans (h.res q hq).1, (h.res q hq).2⟩, h.m1⟩
theorem FA.lt (h : FA Γ x a w) {t : Nat} (ht : Γ.free t = true) : t < a.tmps.size := by rw [h.size]; exact (Fl.free_spec ht).1
theorem FA.world {S : Nat -> Prop} (h : FA Γ x a w) (hm : Mod S w w') (hs : ∀ k, S k -> x.e <= k /\ k ≠ x.tblk /\ k ≠ x.blk) : FA Γ x a w' := by
 obtain ⟨T, hb⟩ := h.hb
 have hwe := h.we
 exact ⟨h.size, h.defers, h.tree, h.ptr, ⟨T, hm.some hb (fun e => (hs _ e).2.1 rfl)⟩, h.ct, h.tr, h.mod.trans' hm (fun _ _ f => f) (fun j hj e => by have := (hs j e).1; omega), h.lo, Nat.le_trans h.ent hm.size, fun q hq => by
  obtain ⟨C, t, h1, h2⟩ := h.nt q hq
  exact ⟨C, t, hm.some h1 (fun e => (hs _ e).2.2 rfl), h2⟩, h.we, fun q hq => by
  obtain ⟨r1, r2, r3, r6, C, t, r4, r5⟩ := h.res q hq
  exact ⟨r1, r2, r3, r6, C, t, hm.some r4 (fun e => by have := (hs _ e).1; omega), r5⟩, h.m1.1.trans' hm (fun _ _ f => f) (fun j hj e => by have := (hs j e).1; have := h.m1.2.2.1; omega), h.m1.2⟩
/-- the struct's own cells are set, but for where the tags lie -/
theorem FA.store (h : FA Γ x a w) (hm : Mod (only x.blk) w w') (hst : ∀ C t, w.heap[x.blk]? = some (.cells C t (0, 0)) -> ∃ C', w'.heap[x.blk]? = some (.cells C' t (0, 0)) /\ ∀ q, Γ.ot = some q -> C'[0 + q]? = C[0 + q]?) : FA Γ x a w' := by
 obtain ⟨T, hb⟩ := h.hb
 have hl := h.lo
 exact ⟨h.size, h.defers, h.tree, h.ptr, ⟨T, hm.some hb (fun e => by have e' : x.tblk = x.blk := e; omega)⟩, h.ct, h.tr, h.mod.trans' hm (fun _ _ f => f) (fun j hj e => by have e' : j = x.blk := e; omega), h.lo, Nat.le_trans h.ent hm.size, fun q hq => by
  obtain ⟨C, t, h1, h2⟩ := h.nt q hq
  obtain ⟨C', h3, h4⟩ := hst C t h1
  exact ⟨C', t, h3, (h4 q hq).trans h2⟩, h.we, fun q hq => by
  obtain ⟨r1, r2, r3, r6, C, t, r4, r5⟩ := h.res q hq
  exact ⟨r1, r2, r3, r6, C, t, hm.some r4 (fun e => r3 e), r5⟩, h.m1.1.trans' hm (fun _ _ f => f) (fun j hj e => by have e' : j = x.blk := e; have := h.m1.2.1; omega), h.m1.2⟩
theorem FA.new (h : FA Γ x a w) (hm : Mod none' w w') : FA Γ x a w' := h.world hm (fun _ f => f.elim)
theorem FA.same (h : FA Γ x a w) {a' : Act} {W : Nat -> Prop} (hs : SameBut W a a') (h1 : ¬ W Γ.tb) (h2 : ¬ W Γ.s) (h3 : ∀ q, Γ.r = some q -> ¬ W q) : FA Γ x a' w :=
 ⟨hs.size.trans h.size, hs.defers.trans h.defers, (hs.get _ h1).trans h.tree, (hs.get _ h2).trans h.ptr, h.hb, h.ct, h.tr, h.mod, h.lo, h.ent, h.nt, h.we, fun q hq => ⟨(hs.get _ (h3 q hq)).trans (h.res q hq).1, (h.res q hq).2⟩, h.m1⟩
theorem FA.tlt (h : FA Γ x a w) : x.tblk < w.heap.size := by obtain ⟨T, hb⟩ := h.hb; exact lt_of_block hb
theorem FA.fresh (h : FA Γ x a w) (hb : x.blk < w.heap.size) {k : Nat} (hk : x.nw w k) : x.F k := by
 have h1 := h.tlt
 have h2 := h.ent
 have h3 := h.lo
 rcases hk with hk | hk
 ·exact ⟨.inl hk, by omega, by omega⟩
 ·exact ⟨.inr (by omega), by omega, by omega⟩
theorem Fx.nw_mono {w1 w2 : World} (h : w1.heap.size <= w2.heap.size) {k : Nat} (hk : x.nw w2 k) : x.nw w1 k := hk.imp id fun h' => by omega
end
/-- a value of any kind, as it is stored -/
def RepS (w : World) (F : Nat -> Prop) (ty : Ty) (v : Value) (t : Tr) : Prop :=
 (ty.size = 1 /\ v.oneCell' = true /\ Rep w F ty (fun _ => v) t) \/ (∃ cs : Array Value, v = .agg cs /\ cs.size = ty.size /\ cs.all (·.oneCell') = true /\ Rep w F ty (from' cs 0) t)
theorem RepS.mod {w w' : World} {F F' S : Nat -> Prop} {ty : Ty} {v : Value} {t : Tr} (h : RepS w F ty v t) (hm : Mod S w w') (hs : ∀ k, F k -> ¬ S k) (hf : ∀ k, F k -> F' k) : RepS w' F' ty v t := by
 rcases h with ⟨h1, h2, h3⟩ | ⟨cs, h1, h2, h3, h4⟩
 ·exact .inl ⟨h1, h2, h3.mod hm hs hf⟩
 ·exact .inr ⟨cs, h1, h2, h3, h4.mod hm hs hf⟩
/-- a piece of code that sets one field of a struct -/
def Fst (P : Program) (Γ : Fl) (σ : St) (c : Code) (i : Nat) (z : Tr) (f : Tr -> Tr) (ok : Tr -> Prop) : Prop :=
 ∀ x v a w, FA Γ x a w -> Cur σ x.F x.blk 0 v w -> v.1[i]? = some z -> ok x.g -> c.wp P (fun e a' w' => e = .normal /\ FA Γ x a' w' /\ Cur σ x.F x.blk 0 (v.1.set i (f x.g), v.2) w') a w
/-- operations that make a value out of what a field says -/
def Val (P : Program) (Γ : Fl) (S : List Nat) (ops : List Oper) (t3 tv : Nat) (ty : Ty) (f : Tr -> Tr) (ok : Tr -> Prop) : Prop :=
 ∀ (all : Array Oper) (Q : Exit -> Act -> World -> Prop) (rest : List Oper) (x : Fx) (a : Act) (w : World) (cs : Array Value) (y : Tr), FA Γ x a w -> Act.get a t3 = .agg cs -> cs.size = 5 -> TreeI x.w0 (from' cs 0) y -> ok y ->
  (∀ a' w', FA Γ x a' w' -> SameBut (fun t => t ∈ S) a a' -> Mod none' w w' -> RepS w' (x.nw w) ty (Act.get a' tv) (f y) -> wpList P all Q rest a' w') -> wpList P all Q (ops ++ rest) a w
section
variable {P : Program} {Γ : Fl} {σ : St} {S : List Nat} {id i j o k T TT ys t1 t2 t3 t6 t7 tv fat : Nat} {ty : Ty} {z : Tr} {f : Tr -> Tr} {ok : Tr -> Prop} {mids : List Oper}
 {y1 y2 y3 y4 y5 y6 y7 y8 : TypeId} {p1 p2 p3 p4 p5 p6 p7 p8 : String} {e1 e2 e3 e4 e5 e6 e7 e8 : Array Edge} {ts : Array TypeId}
/-- what the program's own 'at' says -/
def AtC (P : Program) (f : FuncId) : Prop := ∀ {w0 w : World} {cs : Array Value} {t : Tr} {i : Nat}, Mod none' w0 w -> cs.size = 5 -> TreeI w0 (from' cs 0) t -> Calls P f #[.agg cs, .int .i64 i] w fun e w' =>
  Mod none' w w' /\ ∃ cs', e = .returned (.agg cs') /\ cs'.size = 5 /\ TreeI w0 (from' cs' 0) (t.L.getD i .zero)
/-- the value is stored into the struct -/
theorem fst_put {all : Array Oper} {Q : Exit -> Act -> World -> Prop} {x : Fx} {v : SV} {a b : Act} {w w1 : World} {u : Tr} (hat : σ.lay.at i = some (o, ty)) (hok : σ.okAt i o ty = true) (hsz : sized P ys ty.size = true) (hot : Γ.off o ty.size = true) (hA : FA Γ x a w1) (hC : Cur σ x.F x.blk 0 v w) (hm : Mod none' w w1)
  (h7 : Act.get a t7 = .pointer (some ⟨x.blk, 0 + o, none⟩)) (hv : RepS w1 (x.nw w) ty (Act.get a tv) u) (hAw : FA Γ x b w) (hk : ∀ a' w', FA Γ x a' w' -> Cur σ x.F x.blk 0 (v.1.set i u, v.2) w' -> Q .normal a' w') :
  wpList P all Q [⟨none, .store ys (.tmp t7) (.tmp tv), y8, p8, e8, none⟩] a w1 := by
 obtain ⟨C0, t0, h0, h2, h3, h4⟩ := hC.mem
 have hbw := lt_of_block h0
 have hF : ∀ k, x.F k -> k ≠ x.blk := fun k hk => hk.2.1
 have hnew : ∀ k, x.nw w k -> x.F k := fun k hk => hAw.fresh hbw hk
 have hC1 : Cur σ x.F x.blk 0 v w1 := hC.later hm (fun f => f) (fun _ _ f => f)
 have h1 := hm.some h0 (fun f => f)
 simp only [St.okAt, Bool.and_eq_true] at hok
 have hin := Lay.at_in _ _ _ _ _ _ hok.1.1 hat
 have htg : ∀ q, σ.tg = some q -> q < σ.sz /\ (q < o \/ o + ty.size <= q) := fun q hq => by
  have := hok.1.2
  rw [hq] at this
  simpa using this
 rcases hv with ⟨hs1, hone, hrep⟩ | ⟨cs, hag, hcs, hall, hrep⟩
 ·have hlt : 0 + o < C0.size := by omega
  refine wpl_skip rfl (x_store1 (by rw [<- hs1]; exact hsz) (b := x.blk) (o := 0 + o) (v := Act.get a tv) (by rw [Ze, h7]) (Ze _) hone (by rw [Zc h1, Array.getElem?_eq_getElem hlt]) (Zz h1)) (wpList_nil ?_)
  rw [Zo]
  have hm2 : Mod (only x.blk) w1 (w1.setCell ⟨x.blk, 0 + o, none⟩ (Act.get a tv)) := (Mod.refl w1).put _ _
  refine hk _ _ (hA.store hm2 fun C t hC => ?_) ?_
  ·rw [h1] at hC
   obtain ⟨rfl, rfl⟩ : C0 = C /\ t0 = t := by simpa using hC
   refine ⟨_, heap_setCell_same h1 _, fun q hq => ?_⟩
   have := Fl.off_spec hot q hq
   rw [Array.getElem?_setIfInBounds_ne (by omega)]
  refine cur_store hok.1.1 htg hat hC1 hF hm2 h1 (heap_setCell_same h1 _) (by simp) (fun j hj => by rw [Array.getElem?_setIfInBounds_ne (by omega)]) ?_
  refine (Rep.congr ty (fun _ => Act.get a tv) _ _ hin.2.2 (fun j hj => ?_) hrep).mod (Mod.refl (S := none') w1) (fun _ _ f => f) hnew
  have hj0 : j = 0 := by omega
  subst hj0
  refine get_from' ?_
  rw [Nat.add_zero]
  simp [Array.getElem?_setIfInBounds, hlt]
  omega
 ·have hlt : 0 + o + cs.size <= C0.size := by omega
  refine wpl_skip rfl (x_storeN (cs := cs) (b := x.blk) (o := 0 + o) (by rw [hcs]; exact hsz) (by rw [Ze, h7]) (by rw [Ze, hag]) hall ?_) (wpList_nil ?_)
  ·intro j hj
   rw [Zc h1, Zz h1, Array.getElem?_eq_getElem (by omega)]
   exact ⟨rfl, rfl⟩
  rw [Zo]
  obtain ⟨C', g1, g2, g3, g4⟩ := heap_setCells (w := w1) cs.toList (0 + o) C0 h1
  simp only [Array.length_toList] at g3 g4
  have hm2 := mod_setCells x.blk w1 (0 + o) cs.toList
  refine hk _ _ (hA.store hm2 fun C t hC => ?_) ?_
  ·rw [h1] at hC
   obtain ⟨rfl, rfl⟩ : C0 = C /\ t0 = t := by simpa using hC
   refine ⟨C', g1, fun q hq => ?_⟩
   have := Fl.off_spec hot q hq
   exact g4 _ (by omega)
  refine cur_store hok.1.1 htg hat hC1 hF hm2 h1 g1 g2 (fun j hj => g4 j (by omega)) ?_
  refine (Rep.congr ty (from' cs 0) _ _ hin.2.2 (fun j hj => ?_) hrep).mod (Mod.refl (S := none') w1) (fun _ _ f => f) hnew
  have h5 := g3 j (by omega) (by omega)
  refine get_from' ?_
  rw [show 0 + (o + j) = 0 + o + j by omega, h5]
  simp [from', show j < cs.size by omega]
/-- 'v.F = .. at(t, j) ..', behind a pointer that is held against nil -/
theorem fst_fill (hat' : AtC P fat) (hbd : bodied P fat = true) (hmT : many P TT 5 = true) (hv : Val P Γ S mids t3 tv ty f ok) (hat : σ.lay.at i = some (o, ty)) (hok : σ.okAt i o ty = true) (hf : fieldOff P T k = some o) (hsz : sized P ys ty.size = true) (hot : Γ.off o ty.size = true)
  (hs : (Γ.free t1 && Γ.free t2 && Γ.free t3 && Γ.free t6 && Γ.free t7 && t1 != t2 && t1 != t3 && t6 != tv && t7 != tv && !S.contains t1) = true) :
  Fst P Γ σ (.region id (List.toArray (⟨some t1, .move (.tmp Γ.s), y1, p1, e1, none⟩ :: ⟨some t2, .load TT (.tmp Γ.tb), y2, p2, e2, none⟩ :: ⟨some t3, .call ⟨.value (.func fat), #[.tmp t2, .const (.int .i64 (j : Nat))], ts⟩, y3, p3, e3, none⟩ ::
   (mids ++ [⟨some t6, .nilCheck (.tmp t1), y6, p6, e6, none⟩, ⟨some t7, .fieldAddr T (.tmp t6) k, y7, p7, e7, none⟩, ⟨none, .store ys (.tmp t7) (.tmp tv), y8, p8, e8, none⟩]))) false) i z (fun g => f (g.L.getD j .zero)) (fun g => ok (g.L.getD j .zero)) := by
 intro x v a w hA hC hz0 hokg
 simp only [Bool.and_eq_true, bne_iff_ne, Bool.not_eq_true', List.contains_eq_mem, decide_eq_false_iff_not] at hs
 obtain ⟨⟨⟨⟨⟨⟨⟨⟨⟨f1, f2⟩, f3⟩, f6⟩, f7⟩, n12⟩, n13⟩, n6v⟩, n7v⟩, nS⟩ := hs
 obtain ⟨T0, hb0⟩ := hA.hb
 refine wp_region_lit ?_
 refine Zv rfl Zm (Zv rfl (x_loadN (cs := x.ct.toList) (b := x.tblk) (o := 0) (by rw [Array.length_toList, hA.ct]; exact hmT) ?_ (fun j v hv => by rw [Zc hb0, Nat.zero_add]; simpa using hv)) ?_)
 ·rw [Ze, Zn (Fl.free_spec f1).2.1, hA.tree]
 have hA2 := (hA.put f1 (a.eval (.tmp Γ.s))).put f2 (.agg x.ct.toList.toArray)
 have g1 : Act.get ((a.put (some t1) (a.eval (.tmp Γ.s))).put (some t2) (.agg x.ct.toList.toArray)) t1 = .pointer (some ⟨x.blk, 0, none⟩) := by rw [Zn (Ne.symm n12), Zq (hA.lt f1), Ze, hA.ptr]
 have g2 : Act.get ((a.put (some t1) (a.eval (.tmp Γ.s))).put (some t2) (.agg x.ct.toList.toArray)) t2 = .agg x.ct := by rw [Zq (by rw [Zs]; exact hA.lt f2)]
 generalize (a.put (some t1) (a.eval (.tmp Γ.s))).put (some t2) (.agg x.ct.toList.toArray) = a2 at *
 have ee : (#[Operand.tmp t2, .const (.int .i64 (j : Nat))] : Array Operand).map a2.eval = #[.agg x.ct, .int .i64 (j : Nat)] := by
  simp [Ze, g2]; rfl
 refine wpl_call rfl (Zy hbd rfl) (by rw [ee]; exact hat' hA.mod hA.ct hA.tr) ?_
 rintro e w1 ⟨m1, cs, rfl, hcs, hT⟩
 refine ⟨_, rfl, ?_⟩
 have hA3 := (hA2.new m1).put f3 (.agg cs)
 refine hv _ _ _ x _ w1 cs _ hA3 (Zq (hA2.lt f3)) hcs hT hokg ?_
 intro a' w' hA' hsb hm' hrep
 have g1' : Act.get a' t1 = .pointer (some ⟨x.blk, 0, none⟩) := by rw [hsb.get t1 nS, Zn (Ne.symm n13)]; exact g1
 refine Zv rfl (x_nilCheck (q := ⟨x.blk, 0, none⟩) (by rw [Ze, g1'])) (Zv rfl (Za hf (b := x.blk) (o0 := 0) ?_) ?_)
 ·rw [Ze, Zq (hA'.lt f6)]
 have m01 : Mod none' w w' := m1.trans hm'
 refine fst_put (u := f (x.g.L.getD j .zero)) (t7 := t7) (tv := tv) hat hok hsz hot ((hA'.put f6 _).put f7 _) hC m01 ?_ ?_ hA ?_
 ·rw [Zq (by rw [Zs]; exact hA'.lt f7)]
 ·rw [Zn n7v, Zn n6v]
  exact hrep.mod (Mod.refl (S := none') w') (fun _ _ f => f) (fun k hk => Fx.nw_mono m1.size hk)
 ·intro a'' w'' h1 h2
  exact ⟨rfl, h1, h2⟩
/-- the same, where the struct is one's own -/
theorem fst_make (hat' : AtC P fat) (hbd : bodied P fat = true) (hmT : many P TT 5 = true) (hv : Val P Γ S mids t3 tv ty f ok) (hat : σ.lay.at i = some (o, ty)) (hok : σ.okAt i o ty = true) (hf : fieldOff P T k = some o) (hsz : sized P ys ty.size = true) (hot : Γ.off o ty.size = true)
  (hs : (Γ.free t2 && Γ.free t3 && Γ.free t7 && t7 != tv) = true) :
  Fst P Γ σ (.region id (List.toArray (⟨some t2, .load TT (.tmp Γ.tb), y2, p2, e2, none⟩ :: ⟨some t3, .call ⟨.value (.func fat), #[.tmp t2, .const (.int .i64 (j : Nat))], ts⟩, y3, p3, e3, none⟩ ::
   (mids ++ [⟨some t7, .fieldAddr T (.tmp Γ.s) k, y7, p7, e7, none⟩, ⟨none, .store ys (.tmp t7) (.tmp tv), y8, p8, e8, none⟩]))) false) i z (fun g => f (g.L.getD j .zero)) (fun g => ok (g.L.getD j .zero)) := by
 intro x v a w hA hC hz0 hokg
 simp only [Bool.and_eq_true, bne_iff_ne] at hs
 obtain ⟨⟨⟨f2, f3⟩, f7⟩, n7v⟩ := hs
 obtain ⟨T0, hb0⟩ := hA.hb
 refine wp_region_lit ?_
 refine Zv rfl (x_loadN (cs := x.ct.toList) (b := x.tblk) (o := 0) (by rw [Array.length_toList, hA.ct]; exact hmT) ?_ (fun j v hv => by rw [Zc hb0, Nat.zero_add]; simpa using hv)) ?_
 ·rw [Ze, hA.tree]
 have hA2 := hA.put f2 (.agg x.ct.toList.toArray)
 have g2 : Act.get (a.put (some t2) (.agg x.ct.toList.toArray)) t2 = .agg x.ct := by rw [Zq (hA.lt f2)]
 generalize a.put (some t2) (.agg x.ct.toList.toArray) = a2 at *
 have ee : (#[Operand.tmp t2, .const (.int .i64 (j : Nat))] : Array Operand).map a2.eval = #[.agg x.ct, .int .i64 (j : Nat)] := by
  simp [Ze, g2]; rfl
 refine wpl_call rfl (Zy hbd rfl) (by rw [ee]; exact hat' hA.mod hA.ct hA.tr) ?_
 rintro e w1 ⟨m1, cs, rfl, hcs, hT⟩
 refine ⟨_, rfl, ?_⟩
 have hA3 := (hA2.new m1).put f3 (.agg cs)
 refine hv _ _ _ x _ w1 cs _ hA3 (Zq (hA2.lt f3)) hcs hT hokg ?_
 intro a' w' hA' hsb hm' hrep
 refine Zv rfl (Za hf (b := x.blk) (o0 := 0) (by rw [Ze, hA'.ptr])) ?_
 have m01 : Mod none' w w' := m1.trans hm'
 refine fst_put (u := f (x.g.L.getD j .zero)) (t7 := t7) (tv := tv) hat hok hsz hot (hA'.put f7 _) hC m01 ?_ ?_ hA ?_
 ·rw [Zq (hA'.lt f7)]
 ·rw [Zn n7v]
  exact hrep.mod (Mod.refl (S := none') w') (fun _ _ f => f) (fun k hk => Fx.nw_mono m1.size hk)
 ·intro a'' w'' h1 h2
  exact ⟨rfl, h1, h2⟩
end
end Go.Proofs.Ytmehfgiadapekaa
