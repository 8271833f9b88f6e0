/-
  Tags: a map of numbers to octets; a tag is set. No program in it.
-/
import Derived.MapKept
import Derived.Carry
import Derived.Test.YtcldbjehliladaaDoorPRl
set_option linter.unusedSimpArgs false
set_option linter.unusedVariables false
namespace Go.Proofs.YtcldbjehliladaaDoor
open Go Go.RowKit
/-- a tag is set, or set anew: by rising numbers -/
def setTag : Tags -> Int -> List UInt8 -> Tags
 | [], k, v => [(k, v)]
 | q :: r, k, v => if k < q.1 then (k, v) :: q :: r else if k = q.1 then (k, v) :: r else q :: setTag r k v
theorem setTag_mem : ∀ (u : Tags) (k : Int) (v : List UInt8) (p : Int × List UInt8), p ∈ setTag u k v -> p = (k, v) \/ p ∈ u
 | [], k, v, p, h => by simpa [setTag] using h
 | q :: r, k, v, p, h => by
  unfold setTag at h
  split at h
  ·simp at h; simp; exact h
  ·split at h
   ·simp at h; rcases h with h | h; exact .inl h; exact .inr (List.mem_cons_of_mem _ h)
   ·simp at h
    rcases h with h | h
    ·right; simp [h]
    ·rcases setTag_mem r k v p h with h | h
     ·exact .inl h
     ·exact .inr (List.mem_cons_of_mem _ h)
theorem setTag_ne : ∀ (u : Tags) (k : Int) (v : List UInt8), setTag u k v ≠ []
 | [], k, v => by simp [setTag]
 | q :: r, k, v => by
  unfold setTag
  split
  ·simp
  ·split <;> simp
theorem setTag_len : ∀ (u : Tags) (k : Int) (v : List UInt8), (setTag u k v).length <= u.length + 1
 | [], k, v => by simp [setTag]
 | q :: r, k, v => by
  unfold setTag
  split
  ·simp
  ·split
   ·simp
   ·have := setTag_len r k v
    simp; omega
theorem setTag_sorted : ∀ (u : Tags) (k : Int) (v : List UInt8), u.Pairwise (fun p q => p.1 < q.1) -> (setTag u k v).Pairwise (fun p q => p.1 < q.1)
 | [], k, v, _ => by simp [setTag]
 | q :: r, k, v, h => by
  obtain ⟨h1, h2⟩ := List.pairwise_cons.1 h
  unfold setTag
  split
  ·rename_i hk
   refine List.pairwise_cons.2 ⟨fun p hp => ?_, h⟩
   simp at hp
   rcases hp with rfl | hp
   ·exact hk
   ·exact Int.lt_trans hk (h1 p hp)
  ·split
   ·rename_i hk
    exact List.pairwise_cons.2 ⟨fun p hp => by have := h1 p hp; show k < p.1; omega, h2⟩
   ·rename_i hk1 hk2
    refine List.pairwise_cons.2 ⟨fun p hp => ?_, setTag_sorted r k v h2⟩
    rcases setTag_mem r k v p hp with rfl | hp
    ·show q.1 < k; omega
    ·exact h1 p hp
theorem setTag_perm : ∀ (u : Tags) (k : Int) (v : List UInt8), u.Pairwise (fun p q => p.1 < q.1) -> (setTag u k v).Perm ((k, v) :: u.filter (fun p => p.1 != k))
 | [], k, v, _ => by simp [setTag]
 | q :: r, k, v, h => by
  obtain ⟨h1, h2⟩ := List.pairwise_cons.1 h
  unfold setTag
  split
  ·rename_i hk
   have : (q :: r).filter (fun p => p.1 != k) = q :: r := by
    rw [List.filter_eq_self]
    intro p hp
    simp at hp
    rcases hp with rfl | hp
    ·simp; omega
    ·have := h1 p hp; simp; omega
   rw [this]
  ·split
   ·rename_i hk1 hk2
    have : (q :: r).filter (fun p => p.1 != k) = r := by
     rw [List.filter_cons_of_neg (by simp [hk2]), List.filter_eq_self]
     intro p hp
     have := h1 p hp; simp; omega
    rw [this]
   ·rename_i hk1 hk2
    rw [List.filter_cons_of_pos (by simp; omega)]
    exact ((setTag_perm r k v h2).cons q).trans (List.Perm.swap ..)
theorem set_perm : ∀ (kb : Tags) (i : Nat) (k : Int) (v : List UInt8), (kb.map (·.1)).Nodup -> (kb[i]?).map (·.1) = some k -> (kb.set i (k, v)).Perm ((k, v) :: kb.filter (fun p => p.1 != k))
 | [], i, k, v, _, h => by simp at h
 | q :: r, 0, k, v, hn, h => by
  simp at h
  simp only [List.map_cons, List.nodup_cons, List.mem_map, not_exists, not_and] at hn
  have : (q :: r).filter (fun p => p.1 != k) = r := by
   rw [List.filter_cons_of_neg (by simp [h]), List.filter_eq_self]
   intro p hp
   have := hn.1 p hp
   simp; rw [<- h]; exact this
  rw [this]
  simp
 | q :: r, i + 1, k, v, hn, h => by
  simp only [List.map_cons, List.nodup_cons, List.mem_map, not_exists, not_and] at hn
  simp only [List.getElem?_cons_succ] at h
  have hq : q.1 ≠ k := by
   intro e
   cases hr : r[i]? with
   | none => simp [hr] at h
   | some p =>
    simp [hr] at h
    exact hn.1 p (List.mem_of_getElem? hr) (by rw [h, e])
  rw [List.filter_cons_of_pos (by simpa using hq)]
  exact ((set_perm r i k v hn.2 h).cons q).trans (List.Perm.swap ..)
theorem findNow_spec (k : Int) : ∀ (kb : Tags) (es : List MapEntry) (i0 : Nat), kb.length = es.length -> (∀ i (h : i < kb.length), ∃ e, es[i]? = some e /\ e.key = .int .u32 (kb[i]).1) ->
  (∃ i val, i < kb.length /\ (kb[i]?).map (·.1) = some k /\ Instr.findNow (.int .u32) (.int .u32 k) es i0 = some (some (i0 + i, val)) /\ ∃ e, es[i]? = some e /\ e.val = val) \/ ((∀ p ∈ kb, p.1 ≠ k) /\ Instr.findNow (.int .u32) (.int .u32 k) es i0 = some none)
 | [], [], i0, _, _ => .inr ⟨by simp, rfl⟩
 | [], _ :: _, _, h, _ => by simp at h
 | _ :: _, [], _, h, _ => by simp at h
 | q :: kb, e :: es, i0, hl, hk => by
  obtain ⟨e', he', hke⟩ := hk 0 (by simp)
  simp at he'
  subst he'
  simp at hke
  have hs : Instr.sameNow (.int .u32) (.int .u32 k) e.key = some (k == q.1) := by rw [hke]; simp [Instr.sameNow]
  by_cases hkq : k = q.1
  ·left
   refine ⟨0, e.val, by simp, by simp [hkq], ?_, e, rfl, rfl⟩
   have hb : (k == q.1) = true := by simp [hkq]
   rw [Instr.findNow, hs, hb]
   simp
  ·have hf : Instr.findNow (.int .u32) (.int .u32 k) (e :: es) i0 = Instr.findNow (.int .u32) (.int .u32 k) es (i0 + 1) := by
    have : (k == q.1) = false := by simpa using hkq
    simp [Instr.findNow, hs, this]
   rcases findNow_spec k kb es (i0 + 1) (by simpa using hl) (fun i hi => by have := hk (i + 1) (by simp; omega); simpa using this) with ⟨i, val, h1, h2, h3, e1, h4, h5⟩ | ⟨h1, h2⟩
   ·left
    refine ⟨i + 1, val, by simp; omega, by simpa using h2, ?_, e1, by simpa using h4, h5⟩
    rw [hf, h3]
    congr 3
    omega
   ·right
    refine ⟨fun p hp => ?_, by rw [hf, h2]⟩
    simp at hp
    rcases hp with rfl | hp
    ·exact fun e => hkq e.symm
    ·exact h1 p hp
section
variable {w w' : World} {F : Nat -> Prop}
/-- octets do not lie in a map -/
theorem Oct.map_mod {v : Value} {bs : List UInt8} {nil : Bool} {r : Nat} {es : Array MapEntry} {clock : Nat} {S : Nat -> Prop} (h : Oct w F v bs nil) (hr : w.heap[r]? = some (.map es clock)) (hm : Mod S w w') (hs : ∀ k, S k -> k = r \/ ¬ F k) : Oct w' F v bs nil := by
 rcases h with ⟨sb, h1, h2⟩ | h
 ·left
  rcases h2 with h2 | ⟨h2, off, cap, c, t, fr, h4, h5, h6, h7, h8⟩
  ·exact ⟨sb, h1, .inl h2⟩
  ·rcases h1 with rfl | h1
   ·simp at h2
   ·refine ⟨sb, .inr h1, .inr ⟨h2, off, cap, c, t, fr, h4, h5, h6, hm.some h7 (fun e => ?_), h8⟩⟩
    rcases hs sb e with rfl | h
    ·rw [hr] at h7; simp at h7
    ·exact h h1
 ·exact .inr h
/-- the map in block r -/
def MapAt (w : World) (F : Nat -> Prop) (r : Nat) (u : Tags) : Prop := ∃ es clock, w.heap[r]? = some (.map es clock) /\ u.Pairwise (fun p q => p.1 < q.1) /\ u.length <= 4294967295 /\ (∀ p ∈ u, 0 <= p.1 /\ p.1 < 4294967296 /\ p.2.length <= 4294967295) /\
  ∃ kb : Tags, kb.Perm u /\ kb.length = es.size /\ (es.toList.map (·.born)).Nodup /\
   ∀ i (h : i < kb.length), ∃ e nil, es[i]? = some e /\ e.key = .int .u32 (kb[i]).1 /\ Oct w F e.val (kb[i]).2 nil /\ e.born < clock
theorem TagsR.of_map {r : Nat} {u : Tags} (h : MapAt w F r u) (hr : F r) (hne : u ≠ []) : TagsR w F (.map (some r)) u := by
 obtain ⟨es, clock, h1, h2, h3, h4, h5⟩ := h
 exact .inr ⟨r, es, clock, hr, rfl, h1, h2, ⟨hne, h3⟩, h4, h5⟩
/-- where there are no tags there is no map -/
theorem TagsR.none_of {v : Value} (h : TagsR w F v []) : v = .map none := by
 rcases h with ⟨h, _⟩ | ⟨r, es, clock, _, _, _, _, h, _⟩
 ·exact h
 ·exact (h.1 rfl).elim
theorem mapAt_new (w : World) (F : Nat -> Prop) : MapAt (w.alloc (.map #[] 0)) F w.heap.size [] :=
 ⟨#[], 0, Zh _ _, by simp, by simp, by simp, [], by simp, by simp, by simp, fun i hi => by simp at hi⟩
def isMap32 (P : Program) (t : TypeId) : Bool := match P.underlying t with
 | some (.map kt _) => (match P.underlying kt with | some (.int .u32) => true | _ => false)
 | _ => false
theorem isMap32_spec {P : Program} {t : TypeId} (h : isMap32 P t = true) : ∃ kt et, P.underlying t = some (.map kt et) /\ P.underlying kt = some (.int .u32) := by
 unfold isMap32 at h
 cases hu : P.underlying t with
 | none => simp [hu] at h
 | some ds =>
  cases ds with
  | map kt et =>
   simp only [hu] at h
   refine ⟨kt, et, rfl, ?_⟩
   cases hk : P.underlying kt with
   | none => simp [hk] at h
   | some dk => cases dk <;> simp_all; rename_i k; cases k <;> simp_all
  | _ => simp [hu] at h
theorem mod_heap_set {r : Nat} {o : Obj} : Mod (only r) w { w with heap := w.heap.setIfInBounds r o } :=
 ⟨rfl, rfl, rfl, by simp, fun k hk hn => by simp [Array.getElem?_setIfInBounds_ne (fun e => hn e.symm)]⟩
theorem run_mapSet {P : Program} {t : TypeId} {r : Nat} {u : Tags} {k : Int} {v : Value} {bs : List UInt8} {nil : Bool} (ht : isMap32 P t = true) (hM : MapAt w F r u) (hk : 0 <= k /\ k < 4294967296) (hv : Oct w F v bs nil) (hlen : u.length < 4294967295) (hbl : bs.length <= 4294967295) :
  ∃ w', (Instr.mapUpdate t (.map (some r)) (.int .u32 k) v).run P w = .ok () w' /\ Mod (only r) w w' /\ MapAt w' F r (setTag u k bs) := by
 obtain ⟨es, clock, h1, h2, h3, h4, kb, h5, h6, h7, h8⟩ := hM
 obtain ⟨kt, et, hu, hkt⟩ := isMap32_spec ht
 have hc : (Instr.checkKey false 10000 kt (.int .u32 k)).run P w = .ok () w := MapKept.run_checkKey (k := .int .u32 k) hkt (by simp [MapKept.IsKey]) false 9999
 have hkeys : (kb.map (·.1)).Nodup := by
  have : (u.map (·.1)).Nodup := by
   rw [List.Nodup, List.pairwise_map]
   exact h2.imp (fun h e => by omega)
  exact ((h5.map (·.1)).nodup_iff).2 this
 have hlen' : (setTag u k bs).length <= 4294967295 := by have := setTag_len u k bs; omega
 have hin : ∀ p ∈ setTag u k bs, 0 <= p.1 /\ p.1 < 4294967296 /\ p.2.length <= 4294967295 := fun p hp => by
  rcases setTag_mem u k bs p hp with rfl | hp
  ·exact ⟨hk.1, hk.2, hbl⟩
  ·exact h4 p hp
 have hperm : (setTag u k bs).Perm ((k, bs) :: kb.filter (fun p => p.1 != k)) := (setTag_perm u k bs h2).trans ((h5.filter _).symm.cons _)
 have hmod : ∀ o, Mod (only r) w { w with heap := w.heap.setIfInBounds r o } := fun o => mod_heap_set
 have hr : r < w.heap.size := lt_of_block h1
 have hoct : ∀ o v' bs' nil', Oct w F v' bs' nil' -> Oct { w with heap := w.heap.setIfInBounds r o } F v' bs' nil' := fun o v' bs' nil' h => h.map_mod h1 (hmod o) (fun k e => .inl e)
 rcases findNow_spec k kb es.toList 0 (by simpa using h6) (fun i hi => by obtain ⟨e, nil, g1, g2, _⟩ := h8 i hi; exact ⟨e, by simpa using g1, g2⟩) with ⟨i, val, g1, g2, g3, e, g4, g5⟩ | ⟨g1, g2⟩
 ·obtain ⟨e1, nil1, k1, k2, k3, k4⟩ := h8 i g1
  have hek : e1.key = .int .u32 k := by
   rw [k2]
   rw [List.getElem?_eq_getElem g1] at g2
   simp at g2
   rw [g2]
  have hfind := MapKept.run_findKey (P := P) (w := w) hkt g3
  refine ⟨{ w with heap := w.heap.setIfInBounds r (.map (es.modify i fun e => { e with key := .int .u32 k, val := v }) clock) }, ?_, hmod _, ?_⟩
  ·simp [Instr.mapUpdate, run_underlying hu, MapKept.run_getObj_map h1, hc, hfind, k1, hek, Instr.keyThatStays, Instr.sameBits, MapKept.run_setObj_map _ h1, Result.andThen]
  ·refine ⟨_, clock, (MapKept.heap_set h1).1, setTag_sorted u k bs h2, hlen', hin, kb.set i (k, bs), (set_perm kb i k bs hkeys g2).trans hperm.symm, by simpa using h6, ?_, fun j hj => ?_⟩
   ·have : ((es.modify i fun e => { e with key := .int .u32 k, val := v }).toList.map (·.born)) = es.toList.map (·.born) := by
     apply List.ext_getElem?
     intro j
     simp only [List.getElem?_map, Array.getElem?_toList, Array.getElem?_modify]
     split <;> (cases es[j]? <;> rfl)
    rw [this]; exact h7
   ·simp only [List.length_set] at hj
    obtain ⟨e2, nil2, m1, m2, m3, m4⟩ := h8 j hj
    by_cases hij : i = j
    ·subst hij
     refine ⟨{ e2 with key := .int .u32 k, val := v }, nil, by simp [Array.getElem?_modify, m1], by simp, ?_, m4⟩
     rw [List.getElem_set_self]
     exact hoct _ _ _ _ hv
    ·refine ⟨e2, nil2, by simp [Array.getElem?_modify, hij, m1], ?_, ?_, m4⟩
     ·rw [List.getElem_set_ne hij]; exact m2
     ·rw [List.getElem_set_ne hij]; exact hoct _ _ _ _ m3
 ·have hfind := MapKept.run_findKey (P := P) (w := w) hkt g2
  refine ⟨{ w with heap := w.heap.setIfInBounds r (.map (es.push { key := .int .u32 k, val := v, born := clock }) (clock + 1)) }, ?_, hmod _, ?_⟩
  ·simp [Instr.mapUpdate, run_underlying hu, MapKept.run_getObj_map h1, hc, hfind, MapKept.run_setObj_map _ h1, Result.andThen]
  ·have hfil : kb.filter (fun p => p.1 != k) = kb := by
    rw [List.filter_eq_self]; intro p hp; simpa using g1 p hp
   refine ⟨_, clock + 1, (MapKept.heap_set h1).1, setTag_sorted u k bs h2, hlen', hin, kb ++ [(k, bs)], ?_, by simp [h6], ?_, fun j hj => ?_⟩
   ·rw [hfil] at hperm
    exact (List.perm_append_comm (l₁ := kb) (l₂ := [(k, bs)])).trans hperm.symm
   ·simp only [Array.toList_push, List.map_append, List.map_cons, List.map_nil]
    rw [List.nodup_append]
    refine ⟨h7, by simp, fun a ha b hb => ?_⟩
    simp at hb
    subst hb
    obtain ⟨e, he, rfl⟩ := List.mem_map.1 ha
    obtain ⟨j, hj, rfl⟩ := List.getElem_of_mem he
    obtain ⟨e2, nil2, m1, _, _, m4⟩ := h8 j (by simpa [h6] using hj)
    have : es.toList[j] = e2 := by simpa [List.getElem?_eq_getElem hj] using (show es.toList[j]? = some e2 by simpa using m1)
    rw [this]
    omega
   ·by_cases hj' : j < kb.length
    ·obtain ⟨e2, nil2, m1, m2, m3, m4⟩ := h8 j hj'
     refine ⟨e2, nil2, ?_, ?_, ?_, by omega⟩
     ·rw [Array.getElem?_push]; rw [if_neg (by omega)]; exact m1
     ·rw [List.getElem_append_left hj']; exact m2
     ·rw [List.getElem_append_left hj']; exact hoct _ _ _ _ m3
    ·have : j = kb.length := by simp at hj; omega
     subst this
     refine ⟨{ key := .int .u32 k, val := v, born := clock }, nil, ?_, by simp, ?_, by simp⟩
     ·rw [Array.getElem?_push]; rw [if_pos h6]
     ·simp; exact hoct _ _ _ _ hv
end
end Go.Proofs.YtcldbjehliladaaDoor
