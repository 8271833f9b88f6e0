/-
  What a message's fields are set to by what was made to fit (FnMake): they say what was to be written. No program in it.
  What fits may be set: texts and lists are short, tags rise (FnMake). No program in it.
-/
import Derived.Test.YtmehfgiadapekaaGreatPYa
set_option linter.unusedSimpArgs false
set_option linter.unusedVariables false
namespace Go.Proofs.YtmehfgiadapekaaGreat
open Go Go.RowKit
mutual
/-- what a field is set to -/
def setW : FD -> Int -> Tr -> Tr
 | .mk kind _ _ null tag _ of sub, ver, t =>
  if kind = 11 then (if nullW null ver t || (decide (0 <= tag) && t.L.isEmpty) then .nul else .list ((t.L.take 32767).map fun x => if of = 10 then .part (setsW sub 0 ver x) (cutW (unkW x.U)) else expL of false x) false)
  else if kind = 10 then (if nullW null ver t then .nul else .part (setsW sub 0 ver t) (cutW (unkW t.U)))
  else expL kind (nullW null ver t) t
def setsW : List FD -> Nat -> Int -> Tr -> List Tr
 | [], _, _, _ => []
 | f :: r, j, ver, t => setW f ver (t.L.getD j .zero) :: setsW r (j + 1) ver t
end
theorem tagsSaid_part {fl : Bool} {t : Tr} {l : List Tr} : tagsSaid fl t (.part l (cutW (unkW t.U))) = true := by simp [tagsSaid, Tr.part, Tr.U]
theorem Tr.list_L {l : List Tr} {z : Bool} : (Tr.list l z).L = l := rfl
theorem Tr.list_Z {l : List Tr} {z : Bool} : (Tr.list l z).Z = z := rfl
theorem zip_self {q : Tr × Tr} : ∀ {l : List Tr}, q ∈ l.zip l -> q.1 = q.2
 | [], h => by simp at h
 | a :: l, h => by
  rw [List.zip_cons_cons, List.mem_cons] at h
  rcases h with rfl | h
  ·rfl
  ·exact zip_self h
mutual
theorem said_of_set : ∀ (f : FD) (ver : Int) (fl : Bool) (t : Tr), f.ok = true -> TOk t -> saidW f ver fl t (setW f ver t) = true
 | .mk kind fr to null tag d of sub, ver, fl, t, hok, ht => by
  simp only [FD.ok, Bool.and_eq_true, decide_eq_true_eq] at hok
  obtain ⟨⟨htag, hno⟩, hk⟩ := hok
  have htg : decide (0 <= tag) = false := by simp; omega
  unfold saidW setW
  by_cases h11 : kind = 11
  ·subst h11
   simp only [if_true, htg, Bool.false_and, Bool.or_false] at hk ⊢
   cases hz : nullW null ver t with
   | true =>
    have : (decide (0 <= null) && decide (null <= ver)) = true := by simp only [nullW, Bool.and_eq_true] at hz ⊢; exact ⟨hz.1.2, hz.2⟩
    simp [Tr.nul, Tr.Z]
   | false =>
    simp only [Bool.false_eq_true, if_false, Tr.list_Z, bne_self_eq_false, Bool.and_false, Tr.list_L, List.length_map, decide_true, Bool.true_and]
    rw [List.all_eq_true]
    intro p hp
    rw [List.zip_map_right] at hp
    obtain ⟨q, hq, rfl⟩ := List.mem_map.1 hp
    have hqq : q.1 = q.2 := zip_self hq
    obtain ⟨q1, q2⟩ := q
    obtain rfl : q1 = q2 := hqq
    have hqm : q1 ∈ t.L := List.mem_of_mem_take (List.of_mem_zip hq).1
    simp only [Prod.map, id]
    by_cases h10 : of = 10
    ·subst h10
     simp only [if_true] at hk ⊢
     rw [tagsSaid_part, Bool.and_true]
     exact saids_of_set sub 0 ver fl q1 hk (ht.list _ hqm)
    ·simp only [h10, if_false] at hk ⊢
     have := leaf_told (kind := of) (null := -1) (ver := ver) (t := q1) hk (.inr (.inr rfl)) (ht.list _ hqm).num
     simpa [nullW] using this
  ·simp only [h11, if_false] at hk ⊢
   by_cases h10 : kind = 10
   ·subst h10
    simp only [if_true] at hk ⊢
    cases hz : nullW null ver t with
    | true => simp [Tr.nul, Tr.Z]
    | false =>
     simp only [Bool.false_eq_true, if_false, Tr.part, Tr.Z, bne_self_eq_false, Tr.L]
     rw [show tagsSaid fl t (.mk 0 [] false (setsW sub 0 ver t) (cutW (unkW t.U))) = true from tagsSaid_part, Bool.and_true]
     exact saids_of_set sub 0 ver fl t hk ht
   ·simp only [h10, if_false, Bool.and_eq_true] at hk ⊢
    refine leaf_told hk.1 ?_ ht.num
    have := hk.2
    simp only [Bool.or_eq_true, beq_iff_eq] at this
    rcases this with (h | h) | h
    ·exact .inl h
    ·exact .inr (.inl h)
    ·exact .inr (.inr h)
theorem saids_of_set : ∀ (fs : List FD) (j : Nat) (ver : Int) (fl : Bool) (t : Tr), oksW fs = true -> TOk t -> saidsW fs j ver fl t (setsW fs j ver t) = true
 | [], _, _, _, _, _, _ => by simp [saidsW, setsW]
 | f :: r, j, ver, fl, t, hok, ht => by
  simp only [oksW, Bool.and_eq_true] at hok
  simp only [saidsW, setsW]
  rw [saids_of_set r (j + 1) ver fl t hok.2 ht, Bool.and_true]
  split
  ·exact said_of_set f ver fl _ hok.1 (ht.at j)
  ·rfl
end
/-- so what a message that is set writes is what the protocol writes -/
theorem encP_set {fs : List FD} {ver : Int} {fl : Bool} {t : Tr} (hok : oksW fs = true) (ht : TOk t) : encP fs ver fl (setsW fs 0 ver t, cutW (unkW t.U)) = partW fs ver fl t :=
 encP_eq hok ht (saids_of_set fs 0 ver fl t hok ht) (fun _ => rfl)
/-- a value that is no part, as it is set from what is given -/
def fillL (kind null : Int) (g : Tr) : Tr := if kind = 8 then (if 0 <= null /\ g.Z = true then .nul else .oct g.S) else if kind = 9 then (if g.Z = true then .octs [] true else .octs g.S false) else expL kind false g
/-- a value that is no part, as it fits -/
def fitL (kind null ver : Int) (t : Tr) : Tr := if kind = 8 \/ kind = 9 then .mk 0 (whole t.S) (nullW null ver t) [] [] else .mk t.N t.S false [] []
mutual
/-- what Fit makes of a field -/
def fitW : FD -> Int -> Tr -> Tr
 | .mk kind _ _ null tag _ of sub, ver, t =>
  if kind = 11 then .mk 0 [] (nullW null ver t || (decide (0 <= tag) && t.L.isEmpty)) ((t.L.take 32767).map fun x => if of = 10 then .part (fitsW sub 0 ver x) (cutW (unkW x.U)) else fitL of (-1) ver x) []
  else if kind = 10 then .mk 0 [] (nullW null ver t) (fitsW sub 0 ver t) (cutW (unkW t.U))
  else fitL kind null ver t
def fitsW : List FD -> Nat -> Int -> Tr -> List Tr
 | [], _, _, _ => []
 | f :: r, j, ver, t => fitW f ver (t.L.getD j .zero) :: fitsW r (j + 1) ver t
end
mutual
/-- what a field is set to by what is given -/
def fillW : FD -> Tr -> Tr
 | .mk kind _ _ null _ _ of sub, g =>
  if kind = 11 then (if g.Z = true then .nul else .list (g.L.map fun x => if of = 10 then .part (fillsW sub 0 x) x.U else fillL of (-1) x) false)
  else if kind = 10 then (if 0 <= null /\ g.Z = true then .nul else .part (fillsW sub 0 g) g.U)
  else fillL kind null g
def fillsW : List FD -> Nat -> Tr -> List Tr
 | [], _, _ => []
 | f :: r, j, g => fillW f (g.L.getD j .zero) :: fillsW r (j + 1) g
end
theorem fitsW_length : ∀ (fs : List FD) (j : Nat) (ver : Int) (t : Tr), (fitsW fs j ver t).length = fs.length
 | [], _, _, _ => by simp [fitsW]
 | f :: r, j, ver, t => by simp [fitsW, fitsW_length r]
theorem nullW_neg {ver : Int} {t : Tr} : nullW (-1) ver t = false := by simp [nullW]
theorem nullW_nn {null ver : Int} {t : Tr} (h : nullW null ver t = true) : 0 <= null := by simp only [nullW, Bool.and_eq_true, decide_eq_true_eq] at h; exact h.1.2
theorem fillL_fit {kind null ver : Int} {t : Tr} : fillL kind null (fitL kind null ver t) = expL kind (nullW null ver t) t := by
 by_cases h8 : kind = 8
 ·subst h8
  simp only [fillL, fitL, if_true, true_or, expL, Tr.Z, Tr.S]
  cases hz : nullW null ver t with
  | true => simp [nullW_nn hz]
  | false => simp
 ·by_cases h9 : kind = 9
  ·subst h9
   simp only [fillL, fitL, if_true, or_true, expL, Tr.Z, Tr.S]
   cases hz : nullW null ver t <;> simp
  ·simp only [fillL, fitL, h8, h9, or_self, if_false]
   cases t
   simp only [expL, h8, h9, if_false]
   rfl
theorem fills_pre {fs : List FD} (ih : ∀ f ∈ fs, ∀ (ver : Int) (t : Tr), fillW f (fitW f ver t) = setW f ver t) : ∀ (r : List FD) (j : Nat) (pre : List Tr) (g t : Tr) (ver : Int), (∀ f ∈ r, f ∈ fs) -> pre.length = j -> g.L = pre ++ fitsW r j ver t -> fillsW r j g = setsW r j ver t
 | [], _, _, _, _, _, _, _, _ => by simp [fillsW, setsW]
 | f :: r, j, pre, g, t, ver, hm, hp, hg => by
  simp only [fillsW, setsW]
  have e1 : g.L.getD j .zero = fitW f ver (t.L.getD j .zero) := by
   rw [hg, fitsW]; simp [List.getD, <- hp]
  rw [e1, ih f (hm f (by simp)), fills_pre ih r (j + 1) (pre ++ [fitW f ver (t.L.getD j .zero)]) g t ver (fun f h => hm f (by simp [h])) (by simp [hp]) (by rw [hg, fitsW]; simp)]
mutual
theorem fill_fit : ∀ (f : FD) (ver : Int) (t : Tr), f.ok = true -> fillW f (fitW f ver t) = setW f ver t
 | .mk kind fr to null tag d of sub, ver, t, hok => by
  simp only [FD.ok, Bool.and_eq_true, decide_eq_true_eq] at hok
  obtain ⟨⟨htag, hno⟩, hk⟩ := hok
  have htg : decide (0 <= tag) = false := by simp; omega
  unfold fillW fitW setW
  by_cases h11 : kind = 11
  ·subst h11
   simp only [if_true, htg, Bool.false_and, Bool.or_false] at hk ⊢
   cases hz : nullW null ver t with
   | true => simp [Tr.Z]
   | false =>
    rw [if_neg (by simp [Tr.Z]), if_neg (by simp)]
    show Tr.list (List.map _ (List.map _ (t.L.take 32767))) false = _
    rw [List.map_map]
    congr 1
    apply List.map_congr_left
    intro x hx
    simp only [Function.comp]
    by_cases h10 : of = 10
    ·subst h10
     simp only [if_true] at hk ⊢
     exact congrArg (fun l => Tr.part l (cutW (unkW x.U))) (fills_fit sub ver x hk _)
    ·simp only [h10, if_false]
     rw [fillL_fit, nullW_neg]
  ·simp only [h11, if_false] at hk ⊢
   by_cases h10 : kind = 10
   ·subst h10
    simp only [if_true] at hk ⊢
    cases hz : nullW null ver t with
    | true => rw [if_pos ⟨nullW_nn hz, rfl⟩]; rfl
    | false =>
     rw [if_neg (by simp [Tr.Z]), if_neg (by simp)]
     exact congrArg (fun l => Tr.part l (cutW (unkW t.U))) (fills_fitz sub ver t hk _ _)
   ·simp only [h10, if_false]
    exact fillL_fit
theorem fills_fit : ∀ (fs : List FD) (ver : Int) (t : Tr), oksW fs = true -> ∀ u, fillsW fs 0 (.part (fitsW fs 0 ver t) u) = setsW fs 0 ver t
 | fs, ver, t, hok, u => fills_pre (fs := fs) (fill_all fs hok) fs 0 [] _ t ver (fun _ h => h) rfl rfl
theorem fills_fitz : ∀ (fs : List FD) (ver : Int) (t : Tr), oksW fs = true -> ∀ z u, fillsW fs 0 (.mk 0 [] z (fitsW fs 0 ver t) u) = setsW fs 0 ver t
 | fs, ver, t, hok, z, u => fills_pre (fs := fs) (fill_all fs hok) fs 0 [] _ t ver (fun _ h => h) rfl rfl
theorem fill_all : ∀ (fs : List FD), oksW fs = true -> ∀ f ∈ fs, ∀ (ver : Int) (t : Tr), fillW f (fitW f ver t) = setW f ver t
 | [], _, f, hf, _, _ => by simp at hf
 | g :: r, hok, f, hf, ver, t => by
  simp only [oksW, Bool.and_eq_true] at hok
  rcases List.mem_cons.1 hf with h | h
  ·rw [h]; exact fill_fit g ver t hok.1
  ·exact fill_all r hok.2 f h ver t
end
end Go.Proofs.YtmehfgiadapekaaGreat
set_option linter.unusedSimpArgs false
set_option linter.unusedVariables false
namespace Go.Proofs.YtmehfgiadapekaaGreat
open Go Go.RowKit
/-- tags that may be set one by one -/
def UOk (u : Tags) : Prop := u.Pairwise (fun p q => p.1 < q.1) /\ u.length <= 32767 /\ ∀ p ∈ u, 0 <= p.1 /\ p.1 < 4294967296 /\ p.2.length <= 32767
def gokL (kind : Int) (g : Tr) : Prop := (kind = 8 \/ kind = 9) -> g.S.length <= 32767
mutual
/-- what is given fits a field -/
def gokW : FD -> Tr -> Prop
 | .mk kind _ _ _ _ _ of sub, g =>
  if kind = 11 then g.L.length <= 32767 /\ ∀ x ∈ g.L, (if of = 10 then goksW sub 0 x /\ UOk x.U else gokL of x)
  else if kind = 10 then goksW sub 0 g /\ UOk g.U else gokL kind g
def goksW : List FD -> Nat -> Tr -> Prop
 | [], _, _ => True
 | f :: r, j, g => gokW f (g.L.getD j .zero) /\ goksW r (j + 1) g
end
theorem cutW_ok {u : Tags} (hu : TagsOk u) : UOk (cutW u) := by
 refine ⟨?_, by simpa [cutW] using hu.2.1, fun p hp => ?_⟩
 ·unfold cutW
  rw [List.pairwise_map]
  exact hu.1
 ·unfold cutW at hp
  obtain ⟨q, hq, rfl⟩ := List.mem_map.1 hp
  have := hu.2.2 q hq
  exact ⟨this.1, this.2, whole_length q.2⟩
theorem gokL_fit {kind null ver : Int} {t : Tr} : gokL kind (fitL kind null ver t) := by
 intro h
 unfold fitL
 rw [if_pos h]
 exact whole_length t.S
theorem goks_pre {fs : List FD} (ih : ∀ f ∈ fs, ∀ (ver : Int) (t : Tr), TOk t -> gokW f (fitW f ver t)) : ∀ (r : List FD) (j : Nat) (pre : List Tr) (g t : Tr) (ver : Int), TOk t -> (∀ f ∈ r, f ∈ fs) -> pre.length = j -> g.L = pre ++ fitsW r j ver t -> goksW r j g
 | [], _, _, _, _, _, _, _, _, _ => by simp [goksW]
 | f :: r, j, pre, g, t, ver, ht, hm, hp, hg => by
  simp only [goksW]
  have e1 : g.L.getD j .zero = fitW f ver (t.L.getD j .zero) := by
   rw [hg, fitsW]; simp [List.getD, <- hp]
  rw [e1]
  exact ⟨ih f (hm f (by simp)) ver _ (ht.at j), goks_pre ih r (j + 1) (pre ++ [fitW f ver (t.L.getD j .zero)]) g t ver ht (fun f h => hm f (by simp [h])) (by simp [hp]) (by rw [hg, fitsW]; simp)⟩
mutual
theorem gok_fit : ∀ (f : FD) (ver : Int) (t : Tr), TOk t -> gokW f (fitW f ver t)
 | .mk kind fr to null tag d of sub, ver, t, ht => by
  unfold gokW fitW
  by_cases h11 : kind = 11
  ·simp only [h11, if_true, Tr.L]
   refine ⟨by simp; omega, fun x hx => ?_⟩
   obtain ⟨y, hy, rfl⟩ := List.mem_map.1 hx
   have hty := ht.list y (List.mem_of_mem_take hy)
   by_cases h10 : of = 10
   ·simp only [h10, if_true]
    exact ⟨goks_pre (gok_all sub) sub 0 [] _ y ver hty (fun _ h => h) rfl rfl, cutW_ok (unk_ok y.U hty.tags)⟩
   ·simp only [h10, if_false]
    exact gokL_fit
  ·simp only [h11, if_false]
   by_cases h10 : kind = 10
   ·simp only [h10, if_true]
    exact ⟨goks_pre (gok_all sub) sub 0 [] _ t ver ht (fun _ h => h) rfl rfl, cutW_ok (unk_ok t.U ht.tags)⟩
   ·simp only [h10, if_false]
    exact gokL_fit
theorem gok_all : ∀ (fs : List FD), ∀ f ∈ fs, ∀ (ver : Int) (t : Tr), TOk t -> gokW f (fitW f ver t)
 | [], f, hf, _, _, _ => by simp at hf
 | g :: r, f, hf, ver, t, ht => by
  rcases List.mem_cons.1 hf with h | h
  ·rw [h]; exact gok_fit g ver t ht
  ·exact gok_all r f h ver t ht
end
theorem goks_fit {fs : List FD} {ver : Int} {t : Tr} (ht : TOk t) (z : Bool) (u : Tags) : goksW fs 0 (.mk 0 [] z (fitsW fs 0 ver t) u) := goks_pre (gok_all fs) fs 0 [] _ t ver ht (fun _ h => h) rfl rfl
mutual
/-- a field that nothing was set to -/
def zeroW : FD -> Tr
 | .mk kind _ _ null _ _ _ sub =>
  if kind = 11 then .nul else if kind = 10 then (if 0 <= null then .nul else .part (zerosW sub) [])
  else if kind = 8 then (if 0 <= null then .nul else .oct []) else if kind = 9 then .octs [] true else if kind = 7 then .oct (List.replicate 16 0) else .num 0
def zerosW : List FD -> List Tr
 | [] => []
 | f :: r => zeroW f :: zerosW r
end
theorem zerosW_length : ∀ (fs : List FD), (zerosW fs).length = fs.length
 | [] => by simp [zerosW]
 | f :: r => by simp [zerosW, zerosW_length r]
theorem zerosW_at : ∀ (fs : List FD) (k : Nat) (h : k < fs.length), (zerosW fs)[k]? = some (zeroW fs[k])
 | [], k, h => by simp at h
 | f :: r, 0, h => by simp [zerosW]
 | f :: r, k + 1, h => by simp only [zerosW, List.getElem?_cons_succ, List.getElem_cons_succ]; exact zerosW_at r k (by simpa using h)
end Go.Proofs.YtmehfgiadapekaaGreat
