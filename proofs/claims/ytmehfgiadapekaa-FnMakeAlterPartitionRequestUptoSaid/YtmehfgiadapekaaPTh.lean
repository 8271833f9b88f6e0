/-
  Tags: a map of numbers to octets; a tag is set. No program in it.
  The doors: a new message, its version, reading and telling it. No program in it.
  The doors, whole: a new message is read and told. No program in it.
  Tags.Set and internalReadTags.
-/
import Derived.MapKept
import Derived.Carry
import Derived.Test.YtmehfgiadapekaaPRl
import Derived.Test.YtmehfgiadapekaaPTelR
set_option linter.unusedSimpArgs false
set_option linter.unusedVariables false
namespace Go.Proofs.Ytmehfgiadapekaa
open Go Go.RowKit
/-- a tag is set, or set anew: by rising numbers -/
def setTag : Tags -> Int -> List UInt8 -> Tags
 | [], k, v => [(k, v)]
 | q :: r, k, v => if k < q.1 then (k, v) :: q :: r else if k = q.1 then (k, v) :: r else q :: setTag r k v
theorem setTag_mem : ∀ (u : Tags) (k : Int) (v : List UInt8) (p : Int × List UInt8), p ∈ setTag u k v -> p = (k, v) \/ p ∈ u
 | [], k, v, p, h => by simpa [setTag] using h
 | q :: r, k, v, p, h => by
  unfold setTag at h
  split at h
  ·simp at h; simp; exact h
  ·split at h
   ·simp at h; rcases h with h | h; exact .inl h; exact .inr (List.mem_cons_of_mem _ h)
   ·simp at h
    rcases h with h | h
    ·right; simp [h]
    ·rcases setTag_mem r k v p h with h | h
     ·exact .inl h
     ·exact .inr (List.mem_cons_of_mem _ h)
theorem setTag_len : ∀ (u : Tags) (k : Int) (v : List UInt8), (setTag u k v).length <= u.length + 1
 | [], k, v => by simp [setTag]
 | q :: r, k, v => by
  unfold setTag
  split
  ·simp
  ·split
   ·simp
   ·have := setTag_len r k v
    simp; omega
theorem setTag_sorted : ∀ (u : Tags) (k : Int) (v : List UInt8), u.Pairwise (fun p q => p.1 < q.1) -> (setTag u k v).Pairwise (fun p q => p.1 < q.1)
 | [], k, v, _ => by simp [setTag]
 | q :: r, k, v, h => by
  obtain ⟨h1, h2⟩ := List.pairwise_cons.1 h
  unfold setTag
  split
  ·rename_i hk
   refine List.pairwise_cons.2 ⟨fun p hp => ?_, h⟩
   simp at hp
   rcases hp with rfl | hp
   ·exact hk
   ·exact Int.lt_trans hk (h1 p hp)
  ·split
   ·rename_i hk
    exact List.pairwise_cons.2 ⟨fun p hp => by have := h1 p hp; show k < p.1; omega, h2⟩
   ·rename_i hk1 hk2
    refine List.pairwise_cons.2 ⟨fun p hp => ?_, setTag_sorted r k v h2⟩
    rcases setTag_mem r k v p hp with rfl | hp
    ·show q.1 < k; omega
    ·exact h1 p hp
theorem setTag_perm : ∀ (u : Tags) (k : Int) (v : List UInt8), u.Pairwise (fun p q => p.1 < q.1) -> (setTag u k v).Perm ((k, v) :: u.filter (fun p => p.1 != k))
 | [], k, v, _ => by simp [setTag]
 | q :: r, k, v, h => by
  obtain ⟨h1, h2⟩ := List.pairwise_cons.1 h
  unfold setTag
  split
  ·rename_i hk
   have : (q :: r).filter (fun p => p.1 != k) = q :: r := by
    rw [List.filter_eq_self]
    intro p hp
    simp at hp
    rcases hp with rfl | hp
    ·simp; omega
    ·have := h1 p hp; simp; omega
   rw [this]
  ·split
   ·rename_i hk1 hk2
    have : (q :: r).filter (fun p => p.1 != k) = r := by
     rw [List.filter_cons_of_neg (by simp [hk2]), List.filter_eq_self]
     intro p hp
     have := h1 p hp; simp; omega
    rw [this]
   ·rename_i hk1 hk2
    rw [List.filter_cons_of_pos (by simp; omega)]
    exact ((setTag_perm r k v h2).cons q).trans (List.Perm.swap ..)
theorem set_perm : ∀ (kb : Tags) (i : Nat) (k : Int) (v : List UInt8), (kb.map (·.1)).Nodup -> (kb[i]?).map (·.1) = some k -> (kb.set i (k, v)).Perm ((k, v) :: kb.filter (fun p => p.1 != k))
 | [], i, k, v, _, h => by simp at h
 | q :: r, 0, k, v, hn, h => by
  simp at h
  simp only [List.map_cons, List.nodup_cons, List.mem_map, not_exists, not_and] at hn
  have : (q :: r).filter (fun p => p.1 != k) = r := by
   rw [List.filter_cons_of_neg (by simp [h]), List.filter_eq_self]
   intro p hp
   have := hn.1 p hp
   simp; rw [<- h]; exact this
  rw [this]
  simp
 | q :: r, i + 1, k, v, hn, h => by
  simp only [List.map_cons, List.nodup_cons, List.mem_map, not_exists, not_and] at hn
  simp only [List.getElem?_cons_succ] at h
  have hq : q.1 ≠ k := by
   intro e
   cases hr : r[i]? with
   | none => simp [hr] at h
   | some p =>
    simp [hr] at h
    exact hn.1 p (List.mem_of_getElem? hr) (by rw [h, e])
  rw [List.filter_cons_of_pos (by simpa using hq)]
  exact ((set_perm r i k v hn.2 h).cons q).trans (List.Perm.swap ..)
theorem findNow_spec (k : Int) : ∀ (kb : Tags) (es : List MapEntry) (i0 : Nat), kb.length = es.length -> (∀ i (h : i < kb.length), ∃ e, es[i]? = some e /\ e.key = .int .u32 (kb[i]).1) ->
  (∃ i val, i < kb.length /\ (kb[i]?).map (·.1) = some k /\ Instr.findNow (.int .u32) (.int .u32 k) es i0 = some (some (i0 + i, val)) /\ ∃ e, es[i]? = some e /\ e.val = val) \/ ((∀ p ∈ kb, p.1 ≠ k) /\ Instr.findNow (.int .u32) (.int .u32 k) es i0 = some none)
 | [], [], i0, _, _ => .inr ⟨by simp, rfl⟩
 | [], _ :: _, _, h, _ => by simp at h
 | _ :: _, [], _, h, _ => by simp at h
 | q :: kb, e :: es, i0, hl, hk => by
  obtain ⟨e', he', hke⟩ := hk 0 (by simp)
  simp at he'
  subst he'
  simp at hke
  have hs : Instr.sameNow (.int .u32) (.int .u32 k) e.key = some (k == q.1) := by rw [hke]; simp [Instr.sameNow]
  by_cases hkq : k = q.1
  ·left
   refine ⟨0, e.val, by simp, by simp [hkq], ?_, e, rfl, rfl⟩
   have hb : (k == q.1) = true := by simp [hkq]
   rw [Instr.findNow, hs, hb]
   simp
  ·have hf : Instr.findNow (.int .u32) (.int .u32 k) (e :: es) i0 = Instr.findNow (.int .u32) (.int .u32 k) es (i0 + 1) := by
    have : (k == q.1) = false := by simpa using hkq
    simp [Instr.findNow, hs, this]
   rcases findNow_spec k kb es (i0 + 1) (by simpa using hl) (fun i hi => by have := hk (i + 1) (by simp; omega); simpa using this) with ⟨i, val, h1, h2, h3, e1, h4, h5⟩ | ⟨h1, h2⟩
   ·left
    refine ⟨i + 1, val, by simp; omega, by simpa using h2, ?_, e1, by simpa using h4, h5⟩
    rw [hf, h3]
    congr 3
    omega
   ·right
    refine ⟨fun p hp => ?_, by rw [hf, h2]⟩
    simp at hp
    rcases hp with rfl | hp
    ·exact fun e => hkq e.symm
    ·exact h1 p hp
section
variable {w w' : World} {F : Nat -> Prop}
/-- octets do not lie in a map -/
theorem Oct.map_mod {v : Value} {bs : List UInt8} {nil : Bool} {r : Nat} {es : Array MapEntry} {clock : Nat} {S : Nat -> Prop} (h : Oct w F v bs nil) (hr : w.heap[r]? = some (.map es clock)) (hm : Mod S w w') (hs : ∀ k, S k -> k = r \/ ¬ F k) : Oct w' F v bs nil := by
 rcases h with ⟨sb, h1, h2⟩ | h
 ·left
  rcases h2 with h2 | ⟨h2, off, cap, c, t, fr, h4, h5, h6, h7, h8⟩
  ·exact ⟨sb, h1, .inl h2⟩
  ·rcases h1 with rfl | h1
   ·simp at h2
   ·refine ⟨sb, .inr h1, .inr ⟨h2, off, cap, c, t, fr, h4, h5, h6, hm.some h7 (fun e => ?_), h8⟩⟩
    rcases hs sb e with rfl | h
    ·rw [hr] at h7; simp at h7
    ·exact h h1
 ·exact .inr h
/-- the map in block r -/
def MapAt (w : World) (F : Nat -> Prop) (r : Nat) (u : Tags) : Prop := ∃ es clock, w.heap[r]? = some (.map es clock) /\ u.Pairwise (fun p q => p.1 < q.1) /\ u.length <= 4294967295 /\ (∀ p ∈ u, 0 <= p.1 /\ p.1 < 4294967296 /\ p.2.length <= 4294967295) /\
  ∃ kb : Tags, kb.Perm u /\ kb.length = es.size /\ (es.toList.map (·.born)).Nodup /\
   ∀ i (h : i < kb.length), ∃ e nil, es[i]? = some e /\ e.key = .int .u32 (kb[i]).1 /\ Oct w F e.val (kb[i]).2 nil /\ e.born < clock
theorem TagsR.of_map {r : Nat} {u : Tags} (h : MapAt w F r u) (hr : F r) : TagsR w F (.map (some r)) u := by
 obtain ⟨es, clock, h1, h2, h3, h4, h5⟩ := h
 exact .inr ⟨r, es, clock, hr, rfl, h1, h2, h3, h4, h5⟩
theorem mapAt_new (w : World) (F : Nat -> Prop) : MapAt (w.alloc (.map #[] 0)) F w.heap.size [] :=
 ⟨#[], 0, Zh _ _, by simp, by simp, by simp, [], by simp, by simp, by simp, fun i hi => by simp at hi⟩
def isMap32 (P : Program) (t : TypeId) : Bool := match P.underlying t with
 | some (.map kt _) => (match P.underlying kt with | some (.int .u32) => true | _ => false)
 | _ => false
theorem isMap32_spec {P : Program} {t : TypeId} (h : isMap32 P t = true) : ∃ kt et, P.underlying t = some (.map kt et) /\ P.underlying kt = some (.int .u32) := by
 unfold isMap32 at h
 cases hu : P.underlying t with
 | none => simp [hu] at h
 | some ds =>
  cases ds with
  | map kt et =>
   simp only [hu] at h
   refine ⟨kt, et, rfl, ?_⟩
   cases hk : P.underlying kt with
   | none => simp [hk] at h
   | some dk => cases dk <;> simp_all; rename_i k; cases k <;> simp_all
  | _ => simp [hu] at h
theorem mod_heap_set {r : Nat} {o : Obj} : Mod (only r) w { w with heap := w.heap.setIfInBounds r o } :=
 ⟨rfl, rfl, rfl, by simp, fun k hk hn => by simp [Array.getElem?_setIfInBounds_ne (fun e => hn e.symm)]⟩
theorem run_mapSet {P : Program} {t : TypeId} {r : Nat} {u : Tags} {k : Int} {v : Value} {bs : List UInt8} {nil : Bool} (ht : isMap32 P t = true) (hM : MapAt w F r u) (hk : 0 <= k /\ k < 4294967296) (hv : Oct w F v bs nil) (hlen : u.length < 4294967295) (hbl : bs.length <= 4294967295) :
  ∃ w', (Instr.mapUpdate t (.map (some r)) (.int .u32 k) v).run P w = .ok () w' /\ Mod (only r) w w' /\ MapAt w' F r (setTag u k bs) := by
 obtain ⟨es, clock, h1, h2, h3, h4, kb, h5, h6, h7, h8⟩ := hM
 obtain ⟨kt, et, hu, hkt⟩ := isMap32_spec ht
 have hc : (Instr.checkKey false 10000 kt (.int .u32 k)).run P w = .ok () w := MapKept.run_checkKey (k := .int .u32 k) hkt (by simp [MapKept.IsKey]) false 9999
 have hkeys : (kb.map (·.1)).Nodup := by
  have : (u.map (·.1)).Nodup := by
   rw [List.Nodup, List.pairwise_map]
   exact h2.imp (fun h e => by omega)
  exact ((h5.map (·.1)).nodup_iff).2 this
 have hlen' : (setTag u k bs).length <= 4294967295 := by have := setTag_len u k bs; omega
 have hin : ∀ p ∈ setTag u k bs, 0 <= p.1 /\ p.1 < 4294967296 /\ p.2.length <= 4294967295 := fun p hp => by
  rcases setTag_mem u k bs p hp with rfl | hp
  ·exact ⟨hk.1, hk.2, hbl⟩
  ·exact h4 p hp
 have hperm : (setTag u k bs).Perm ((k, bs) :: kb.filter (fun p => p.1 != k)) := (setTag_perm u k bs h2).trans ((h5.filter _).symm.cons _)
 have hmod : ∀ o, Mod (only r) w { w with heap := w.heap.setIfInBounds r o } := fun o => mod_heap_set
 have hr : r < w.heap.size := lt_of_block h1
 have hoct : ∀ o v' bs' nil', Oct w F v' bs' nil' -> Oct { w with heap := w.heap.setIfInBounds r o } F v' bs' nil' := fun o v' bs' nil' h => h.map_mod h1 (hmod o) (fun k e => .inl e)
 rcases findNow_spec k kb es.toList 0 (by simpa using h6) (fun i hi => by obtain ⟨e, nil, g1, g2, _⟩ := h8 i hi; exact ⟨e, by simpa using g1, g2⟩) with ⟨i, val, g1, g2, g3, e, g4, g5⟩ | ⟨g1, g2⟩
 ·obtain ⟨e1, nil1, k1, k2, k3, k4⟩ := h8 i g1
  have hek : e1.key = .int .u32 k := by
   rw [k2]
   rw [List.getElem?_eq_getElem g1] at g2
   simp at g2
   rw [g2]
  have hfind := MapKept.run_findKey (P := P) (w := w) hkt g3
  refine ⟨{ w with heap := w.heap.setIfInBounds r (.map (es.modify i fun e => { e with key := .int .u32 k, val := v }) clock) }, ?_, hmod _, ?_⟩
  ·simp [Instr.mapUpdate, run_underlying hu, MapKept.run_getObj_map h1, hc, hfind, k1, hek, Instr.keyThatStays, Instr.sameBits, MapKept.run_setObj_map _ h1, Result.andThen]
  ·refine ⟨_, clock, (MapKept.heap_set h1).1, setTag_sorted u k bs h2, hlen', hin, kb.set i (k, bs), (set_perm kb i k bs hkeys g2).trans hperm.symm, by simpa using h6, ?_, fun j hj => ?_⟩
   ·have : ((es.modify i fun e => { e with key := .int .u32 k, val := v }).toList.map (·.born)) = es.toList.map (·.born) := by
     apply List.ext_getElem?
     intro j
     simp only [List.getElem?_map, Array.getElem?_toList, Array.getElem?_modify]
     split <;> (cases es[j]? <;> rfl)
    rw [this]; exact h7
   ·simp only [List.length_set] at hj
    obtain ⟨e2, nil2, m1, m2, m3, m4⟩ := h8 j hj
    by_cases hij : i = j
    ·subst hij
     refine ⟨{ e2 with key := .int .u32 k, val := v }, nil, by simp [Array.getElem?_modify, m1], by simp, ?_, m4⟩
     rw [List.getElem_set_self]
     exact hoct _ _ _ _ hv
    ·refine ⟨e2, nil2, by simp [Array.getElem?_modify, hij, m1], ?_, ?_, m4⟩
     ·rw [List.getElem_set_ne hij]; exact m2
     ·rw [List.getElem_set_ne hij]; exact hoct _ _ _ _ m3
 ·have hfind := MapKept.run_findKey (P := P) (w := w) hkt g2
  refine ⟨{ w with heap := w.heap.setIfInBounds r (.map (es.push { key := .int .u32 k, val := v, born := clock }) (clock + 1)) }, ?_, hmod _, ?_⟩
  ·simp [Instr.mapUpdate, run_underlying hu, MapKept.run_getObj_map h1, hc, hfind, MapKept.run_setObj_map _ h1, Result.andThen]
  ·have hfil : kb.filter (fun p => p.1 != k) = kb := by
    rw [List.filter_eq_self]; intro p hp; simpa using g1 p hp
   refine ⟨_, clock + 1, (MapKept.heap_set h1).1, setTag_sorted u k bs h2, hlen', hin, kb ++ [(k, bs)], ?_, by simp [h6], ?_, fun j hj => ?_⟩
   ·rw [hfil] at hperm
    exact (List.perm_append_comm (l₁ := kb) (l₂ := [(k, bs)])).trans hperm.symm
   ·simp only [Array.toList_push, List.map_append, List.map_cons, List.map_nil]
    rw [List.nodup_append]
    refine ⟨h7, by simp, fun a ha b hb => ?_⟩
    simp at hb
    subst hb
    obtain ⟨e, he, rfl⟩ := List.mem_map.1 ha
    obtain ⟨j, hj, rfl⟩ := List.getElem_of_mem he
    obtain ⟨e2, nil2, m1, _, _, m4⟩ := h8 j (by simpa [h6] using hj)
    have : es.toList[j] = e2 := by simpa [List.getElem?_eq_getElem hj] using (show es.toList[j]? = some e2 by simpa using m1)
    rw [this]
    omega
   ·by_cases hj' : j < kb.length
    ·obtain ⟨e2, nil2, m1, m2, m3, m4⟩ := h8 j hj'
     refine ⟨e2, nil2, ?_, ?_, ?_, by omega⟩
     ·rw [Array.getElem?_push]; rw [if_neg (by omega)]; exact m1
     ·rw [List.getElem_append_left hj']; exact m2
     ·rw [List.getElem_append_left hj']; exact hoct _ _ _ _ m3
    ·have : j = kb.length := by simp at hj; omega
     subst this
     refine ⟨{ key := .int .u32 k, val := v, born := clock }, nil, ?_, by simp, ?_, by simp⟩
     ·rw [Array.getElem?_push]; rw [if_pos h6]
     ·simp; exact hoct _ _ _ _ hv
end
end Go.Proofs.Ytmehfgiadapekaa
set_option linter.unusedSimpArgs false
set_option linter.unusedVariables false
namespace Go.Proofs.Ytmehfgiadapekaa
open Go Go.RowKit
/-- its version is set -/
def SetC (P : Program) (f : FuncId) (σ : St) : Prop := ∀ blk v ver w, fits .i16 ver -> Cur σ none' blk 0 v w -> Calls P f #[.pointer (some ⟨blk, 0, none⟩), .int .i16 ver] w fun e w' => ∃ r, e = .returned r /\ Mod (only blk) w w' /\ Cur σ none' blk 0 (v.1.set 0 (.num ver), v.2) w'
section
variable {P : Program} {σ : St} {fn : Func} {f fd fr : FuncId} {T i0 i1 i2 i3 : Nat} {ts : Array TypeId}
 {y0 y1 y2 y3 y4 y5 y6 : TypeId} {p0 p1 p2 p3 p4 p5 p6 : String} {e0 e1 e2 e3 e4 e5 e6 : Array Edge}
theorem set_rule (hf : P.funcs[f]? = some fn) (hN : fn.ntmps = 8) (hres : fn.results = #[])
  (hbody : fn.body = some (.region i0 #[⟨some 4, .move (.tmp 0), y0, p0, e0, none⟩, ⟨some 5, .move (.tmp 1), y1, p1, e1, none⟩, ⟨some 6, .nilCheck (.tmp 4), y2, p2, e2, none⟩, ⟨some 7, .fieldAddr T (.tmp 6) 0, y3, p3, e3, none⟩, ⟨none, .store y5 (.tmp 7) (.tmp 5), y4, p4, e4, none⟩] false))
  (hver : fieldOff P T 0 = some 0) (hsz : sized P y5 1 = true) (hlay : σ.lay.at 0 = some (0, .int .i16)) (hok : σ.lay.ok 0 σ.sz = true) (htg : TagIn σ.tg σ.sz = true) (htg0 : σ.tg ≠ some 0) : SetC P f σ := by
 intro blk v ver w hfit hC
 obtain ⟨C, t, h1, h2, h3, h4⟩ := hC.mem
 have hin := Lay.at_in _ _ _ _ _ _ hok hlay
 simp only [Ty.size] at hin
 have h0C : 0 < C.size := by omega
 refine calls_of_wp hf hbody ?_
 rw [hN]
 refine wp_act (fun a : Act => Act.get a 0 = .pointer (some ⟨blk, 0, none⟩) /\ Act.get a 1 = .int .i16 ver /\ a.tmps.size = 8 /\ a.defers = []) ⟨by rw [Zj _ _ _ (by simp)]; rfl, by rw [Zj _ _ _ (by simp)]; rfl, by simp, rfl⟩ ?_
 rintro a ⟨a0, a1, aN, ad⟩
 refine wp_region_lit (Zv rfl Zm (Zv rfl Zm (Zv rfl (x_nilCheck (q := ⟨blk, 0, none⟩) ?_) (Zv rfl (Za hver (b := blk) (o0 := 0) ?_) (wpl_skip rfl (x_store1 hsz (b := blk) (o := 0 + 0) (v := .int .i16 ver) (u := C[0]) ?_ ?_ rfl ?_ ?_) (wpList_nil ?_))))))
 ·simp (disch := first | omega | simp only [Zs]; omega) only [Zo, Ze, Zn, Zq, a0]
 ·simp (disch := first | omega | simp only [Zs]; omega) only [Zo, Ze, Zn, Zq]
 ·simp (disch := first | omega | simp only [Zs]; omega) only [Zo, Ze, Zn, Zq]
 ·simp (disch := first | omega | simp only [Zs]; omega) only [Zo, Ze, Zn, Zq, a1]
 ·rw [Zc h1]; exact Array.getElem?_eq_getElem h0C
 ·exact Zz h1
 refine ⟨?_, .tuple #[], by simp [results, hres], _, rfl, (Mod.refl w).put _ _, ⟨C.setIfInBounds 0 (.int .i16 ver), t, heap_setCell_same h1 _, by simpa using h2, ?_, ?_⟩⟩
 ·simp only [Zd]; exact ad
 ·have hmm : Mod (only blk) w (w.setCell ⟨blk, 0 + 0, none⟩ (.int .i16 ver)) := (Mod.refl w).put _ _
  refine RepL.set σ.lay 0 σ.sz 0 0 (.int .i16) (from' C 0) _ v.1 (.num ver) hok hlay (fun j h1 h2 h3 => ?_) ?_ (h3.mod hmm (fun _ f => f.elim) (fun _ f => f.elim))
  ·simp only [Ty.size] at h3
   simp only [from', Nat.zero_add, Array.getD_eq_getD_getElem?]
   rw [Array.getElem?_setIfInBounds_ne (by omega)]
  ·refine ⟨ver, ?_, hfit, rfl⟩
   simp [from', h0C]
 ·have hmm : Mod (only blk) w (w.setCell ⟨blk, 0 + 0, none⟩ (.int .i16 ver)) := (Mod.refl w).put _ _
  cases hg : σ.tg with
  | none => rw [hg] at h4; exact h4
  | some o =>
   rw [hg] at h4
   have ho : 0 ≠ o := fun e => htg0 (by rw [hg, <- e])
   have e1 : from' (C.setIfInBounds 0 (.int .i16 ver)) 0 o = from' C 0 o := by
    simp only [from', Nat.zero_add, Array.getD_eq_getD_getElem?]
    rw [Array.getElem?_setIfInBounds_ne ho]
   show TagsR _ _ (from' (C.setIfInBounds 0 (.int .i16 ver)) 0 o) v.2
   rw [e1]
   exact TagsR.mod h4 hmm (fun _ f => f.elim) (fun _ f => f.elim)
end
end Go.Proofs.Ytmehfgiadapekaa
set_option linter.unusedSimpArgs false
set_option linter.unusedVariables false
namespace Go.Proofs.Ytmehfgiadapekaa
open Go Go.RowKit
def intTy (P : Program) (t : TypeId) (k : IntKind) : Bool := match P.underlying t with
 | some (.int k') => k == k'
 | _ => false
theorem intTy_spec {P : Program} {t : TypeId} {k : IntKind} (h : intTy P t k = true) : P.underlying t = some (.int k) := by
 unfold intTy at h
 cases hu : P.underlying t with
 | none => simp [hu] at h
 | some ds => cases ds <;> simp_all
section
variable {P : Program} {ρ : Operand -> Value} {w : World} {d : Option Tmp} {ty : TypeId} {p : String} {af : Array Edge} {g : Option (Nat × Bool)} {ops : Array Oper} {rest : List Oper} {a : Act} {Q : Exit -> Act -> World -> Prop}
theorem x_convInt {x : Operand} {s t : TypeId} {k k' : IntKind} {n : Int} (h1 : intTy P s k = true) (h2 : intTy P t k' = true) (hx : ρ x = .int k n) : (execOp ρ ⟨d, .convert s t x, ty, p, af, g⟩).run P w = .ok (.value (.int k' (k'.wrap n))) w := by
 simp [execOp, hx, convert, run_underlying (intTy_spec h1), run_underlying (intTy_spec h2), Conv.intToInt]
/-- a slice value that holds these octets -/
def Srcs (w : World) (v : Value) (bs : List UInt8) : Prop := (bs = [] /\ ∃ ao cap, v = .slice ao 0 cap) \/ ∃ sb off cap c tc fr, v = .slice (some ⟨sb, off, none⟩) bs.length cap /\ w.heap[sb]? = some (.cells c tc fr) /\ ∀ i (h : i < bs.length), c[off + i]? = some (.int .u8 (bs[i]).toNat)
theorem Srcs.mod {w w' : World} {v : Value} {bs : List UInt8} (h : Srcs w v bs) (hm : Mod none' w w') : Srcs w' v bs := by
 rcases h with h | ⟨sb, off, cap, c, tc, fr, h1, h2, h3⟩
 ·exact .inl h
 ·exact .inr ⟨sb, off, cap, c, tc, fr, h1, hm.some h2 (fun f => f), h3⟩
theorem Srcs.shape {w : World} {v : Value} {bs : List UInt8} (h : Srcs w v bs) : ∃ ao cap, v = .slice ao bs.length cap := by
 rcases h with ⟨rfl, ao, cap, h⟩ | ⟨sb, off, cap, c, tc, fr, h1, h2, h3⟩
 ·exact ⟨ao, cap, h⟩
 ·exact ⟨_, _, h1⟩
end
end Go.Proofs.Ytmehfgiadapekaa
set_option linter.unusedSimpArgs false
set_option linter.unusedVariables false
namespace Go.Proofs.Ytmehfgiadapekaa
open Go Go.RowKit
section
variable {P : Program} {ρ : Operand -> Value} {w : World} {d : Option Tmp} {ty : TypeId} {p : String} {af : Array Edge} {g : Option (Nat × Bool)}
theorem x_eqlMap {x : Operand} {t u : TypeId} {m : Option Nat} (ht : isMap32 P t = true) (hρ : ∀ v, ρ (.const v) = v) (hx : ρ x = .map m) : (execOp ρ ⟨d, .binOp .eql t x (.const (.map none)) u, ty, p, af, g⟩).run P w = .ok (.value (.bool m.isNone)) w := by
 obtain ⟨kt, et, hu, _⟩ := isMap32_spec ht
 have he : (Op.equal t (.map m) (.map none)).run P w = .ok m.isNone w := by
  show (Op.equalIn (9999 + 1) t (.map m) (.map none)).run P w = _
  rw [Op.equalIn]
  simp only [Sem.run_bind, run_underlying hu, Result.andThen_ok]
  cases m <;> rfl
 simp [execOp, hx, hρ, eqGuard, binOp, he]
theorem x_makeMap {t : TypeId} : (execOp ρ ⟨d, .makeMap t none, ty, p, af, g⟩).run P w = .ok (.value (.map (some w.heap.size))) (w.alloc (.map #[] 0)) := by
 simp [execOp, run_makeMap]
theorem x_mapUpdate {x y z : Operand} {t : TypeId} {mv kv v : Value} {w' : World} (hx : ρ x = mv) (hy : ρ y = kv) (hz : ρ z = v) (h : (Instr.mapUpdate t mv kv v).run P w = .ok () w') :
  (execOp ρ ⟨d, .mapUpdate t x y z, ty, p, af, g⟩).run P w = .ok .skip w' := by
 simp [execOp, hx, hy, hz, h]
theorem x_sub {x y : Operand} {t u : TypeId} {k : IntKind} {m n : Int} (hx : ρ x = .int k m) (hy : ρ y = .int k n) : (execOp ρ ⟨d, .binOp .sub t x y u, ty, p, af, g⟩).run P w = .ok (.value (.int k (k.wrap (m - n)))) w := by
 simp [execOp, hx, hy, eqGuard, binOp, Op.intArith]
end
/-- what setting a tag does -/
def SetTagC (P : Program) (f : FuncId) : Prop := ∀ (w : World) (tb off : Nat) (C : Array Value) (t : TypeId) (F : Nat -> Prop) (mv : Value) (u : Tags) (k : Int) (v : Value) (bs : List UInt8) (nil : Bool), w.heap[tb]? = some (.cells C t (0, 0)) -> C[off]? = some mv -> TagsR w F mv u -> ¬ F tb -> F w.heap.size ->
 (0 <= k /\ k < 4294967296) -> Oct w F v bs nil -> u.length < 4294967295 -> bs.length <= 4294967295 -> Calls P f #[.pointer (some ⟨tb, off, none⟩), .int .u32 k, v] w fun e w' => ∃ r', e = .returned r' /\ ∃ r, F r /\ (mv = .map (some r) \/ (mv = .map none /\ r = w.heap.size)) /\ Mod (fun b => b = tb \/ b = r) w w' /\
  (∃ C', w'.heap[tb]? = some (.cells C' t (0, 0)) /\ C'.size = C.size /\ C'[off]? = some (.map (some r)) /\ ∀ j, j ≠ off -> C'[j]? = C[j]?) /\ MapAt w' F r (setTag u k bs)
theorem TagsR.split {w : World} {F : Nat -> Prop} {mv : Value} {u : Tags} (h : TagsR w F mv u) : (mv = .map none /\ u = []) \/ ∃ r, F r /\ mv = .map (some r) /\ MapAt w F r u := by
 rcases h with h | ⟨r, es, clock, h1, h2, h3, h4⟩
 ·exact .inl h
 ·exact .inr ⟨r, h1, h2, es, clock, h3, h4⟩
theorem tagTypes : (fieldOff Try.prog 55 0 = some 0) /\ one Try.prog 53 = true /\ isMap32 Try.prog 53 = true /\ sized Try.prog 53 1 = true := ⟨by kernel_rfl, by kernel_rfl, by kernel_rfl, by kernel_rfl⟩
theorem setTag_spec : SetTagC Try.prog 129 := by
 intro w tb off C t F mv u k v bs nil hb hc hT htb hfr hk hv hlen hbl
 have hoC : off < C.size := (Array.getElem?_eq_some_iff.1 hc).1
 have hcell : w.cell? ⟨tb, off + 0, none⟩ = some mv := by rw [Zc hb]; exact hc
 refine calls_of_wp Try.func129 rfl ?_
 rw [Try.ntmps129]
 refine wp_act (fun a : Act => Act.get a 0 = .pointer (some ⟨tb, off, none⟩) /\ Act.get a 1 = .int .u32 k /\ Act.get a 2 = v /\ a.tmps.size = 21 /\ a.defers = []) ⟨by rw [Zj _ _ _ (by simp)]; rfl, by rw [Zj _ _ _ (by simp)]; rfl, by rw [Zj _ _ _ (by simp)]; rfl, by simp, rfl⟩ ?_
 rintro a ⟨a0, a1, a2, aN, ad⟩
 obtain ⟨m, hm⟩ : ∃ m, mv = .map m := by rcases hT.split with ⟨h, _⟩ | ⟨r, _, h, _⟩ <;> exact ⟨_, h⟩
 obtain ⟨hF0, h1, hM, hS⟩ := tagTypes
 refine wp_seq (wp_mono (Q := fun e a w1 => e = .normal /\ Act.get a 0 = .pointer (some ⟨tb, off, none⟩) /\ Act.get a 1 = .int .u32 k /\ Act.get a 2 = v /\ a.tmps.size = 21 /\ a.defers = [] /\ ∃ r C1, w1.heap[tb]? = some (.cells C1 t (0, 0)) /\ C1.size = C.size /\ C1[off]? = some (.map (some r)) /\ (∀ j, j ≠ off -> C1[j]? = C[j]?) /\
   Mod (fun b => b = tb \/ b = r) w w1 /\ F r /\ (mv = .map (some r) \/ (mv = .map none /\ r = w.heap.size)) /\ MapAt w1 F r u /\ Oct w1 F v bs nil) ?_ ?_)
 ·refine wp_seq (wp_region_lit (Zv rfl Zm (Zv rfl (x_nilCheck (q := ⟨tb, off, none⟩) ?_) (Zv rfl (Za hF0 (b := tb) (o0 := off) ?_) (Zv rfl (Zl h1 (b := tb) (o := off + 0) ?_ hcell) (Zv rfl (x_eqlMap (m := m) hM (fun _ => rfl) ?_) (wpList_nil ?_)))))))
  ·simp (disch := first | omega | simp only [Zs]; omega) only [Zo, Ze, Zn, Zq, a0]
  ·simp (disch := first | omega | simp only [Zs]; omega) only [Zo, Ze, Zn, Zq]
  ·simp (disch := first | omega | simp only [Zs]; omega) only [Zo, Ze, Zn, Zq]
  ·simp (disch := first | omega | simp only [Zs]; omega) only [Zo, Ze, Zn, Zq, hm]
  refine wp_act (fun a : Act => Act.get a 0 = .pointer (some ⟨tb, off, none⟩) /\ Act.get a 1 = .int .u32 k /\ Act.get a 2 = v /\ Act.get a 10 = .bool m.isNone /\ a.tmps.size = 21 /\ a.defers = []) ⟨?_, ?_, ?_, ?_, ?_, ?_⟩ ?_
  ·simp (disch := first | omega | simp only [Zs]; omega) only [Zo, Ze, Zn, Zq, a0]
  ·simp (disch := first | omega | simp only [Zs]; omega) only [Zo, Ze, Zn, Zq, a1]
  ·simp (disch := first | omega | simp only [Zs]; omega) only [Zo, Ze, Zn, Zq, a2]
  ·simp (disch := first | omega | simp only [Zs]; omega) only [Zo, Ze, Zn, Zq]
  ·simp only [Zs]; exact aN
  ·simp only [Zd]; exact ad
  clear a0 a1 a2 aN ad
  rintro a ⟨a0, a1, a2, a10, aN, ad⟩
  rcases hT.split with ⟨hmv, hu⟩ | ⟨r, hr, hmv, hMA⟩
  ·have hmn : m = none := by rw [hm] at hmv; simpa using hmv
   subst hmn
   refine wp_cond_true (by rw [Ze]; exact a10) (wp_region_lit (Zv rfl Zm (Zv rfl x_makeMap (Zv rfl (x_nilCheck (q := ⟨tb, off, none⟩) ?_) (Zv rfl (Za hF0 (b := tb) (o0 := off) ?_) ?_)))))
   ·simp (disch := first | omega | simp only [Zs]; omega) only [Zo, Ze, Zn, Zq, a0]
   ·simp (disch := first | omega | simp only [Zs]; omega) only [Zo, Ze, Zn, Zq]
   have hw1 : Mod none' w (w.alloc (.map #[] 0)) := (Mod.refl w).alloc _
   have hMA := mapAt_new w F
   have hb1 := hw1.some hb (fun f => f)
   have htl : tb < w.heap.size := lt_of_block hb
   have hs1 : (w.alloc (.map #[] 0)).heap.size = w.heap.size + 1 := by simp
   have hv1 := hv.mod (F' := F) hw1 (fun _ _ f => f) (fun _ h => h)
   generalize w.alloc (.map #[] 0) = w1 at *
   refine wpl_skip rfl (x_store1 hS (b := tb) (o := off + 0) (v := .map (some w.heap.size)) (u := mv) ?_ ?_ rfl (by rw [Zc hb1]; exact hc) (Zz hb1)) (wpList_nil ?_)
   ·simp (disch := first | omega | simp only [Zs]; omega) only [Zo, Ze, Zn, Zq]
   ·simp (disch := first | omega | simp only [Zs]; omega) only [Zo, Ze, Zn, Zq]
   have hm2 : Mod (only tb) w1 (w1.setCell ⟨tb, off + 0, none⟩ (.map (some w.heap.size))) := (Mod.refl w1).put _ _
   refine ⟨rfl, ?_, ?_, ?_, ?_, ?_, w.heap.size, C.setIfInBounds (off + 0) (.map (some w.heap.size)), heap_setCell_same hb1 _, by simp, by simp [hoC], fun j hj => by rw [Array.getElem?_setIfInBounds_ne (by omega)], hw1.none.trans (hm2.mono fun _ _ e => .inl e), hfr, .inr ⟨hmv, rfl⟩, ?_, ?_⟩
   ·simp (disch := first | omega | simp only [Zs]; omega) only [Zo, Ze, Zn, Zq, a0]
   ·simp (disch := first | omega | simp only [Zs]; omega) only [Zo, Ze, Zn, Zq, a1]
   ·simp (disch := first | omega | simp only [Zs]; omega) only [Zo, Ze, Zn, Zq, a2]
   ·simp only [Zo, Zs]; exact aN
   ·simp only [Zo, Zd]; exact ad
   ·obtain ⟨es, clock, q1, q2, q3, q4, kb, q5, q6, q7, q8⟩ := hMA
    rw [hu]
    have hkb : kb = [] := by simpa using q5
    subst hkb
    exact ⟨es, clock, hm2.some q1 (fun e => by have : w.heap.size = tb := e; omega), q2, q3, q4, [], q5, q6, q7, fun i hi => by simp at hi⟩
   ·exact hv1.mod hm2 (fun q hq e => htb (by have e' : q = tb := e; rw [<- e']; exact hq)) (fun _ h => h)
  ·have hmn : m = some r := by rw [hm] at hmv; simpa using hmv
   subst hmn
   refine wp_cond_false (by rw [Ze]; exact a10) (wp_skip ⟨rfl, a0, a1, a2, aN, ad, r, C, hb, rfl, by rw [hc, hmv], fun _ _ => rfl, .refl w, hr, .inl hmv, hMA, hv⟩)
 clear a0 a1 a2 aN ad hcell
 rintro e a w1 ⟨rfl, a0, a1, a2, aN, ad, r, C1, hb1, hsz, hc1, hout, hmod, hFr, hwhich, hMA, hv1⟩
 obtain ⟨w2, hrun, hm2, hMA2⟩ := run_mapSet (P := Try.prog) (t := 53) hM hMA hk hv1 hlen hbl
 refine wp_region_lit (Zv rfl Zm (Zv rfl (x_nilCheck (q := ⟨tb, off, none⟩) ?_) (Zv rfl (Za hF0 (b := tb) (o0 := off) ?_) (Zv rfl (Zl h1 (b := tb) (o := off + 0) (v := .map (some r)) ?_ (by rw [Zc hb1]; exact hc1)) (Zv rfl Zm (Zv rfl Zm (wpl_skip rfl (x_mapUpdate ?_ ?_ ?_ hrun) (wpList_nil ?_))))))))
 ·simp (disch := first | omega | simp only [Zs]; omega) only [Zo, Ze, Zn, Zq, a0]
 ·simp (disch := first | omega | simp only [Zs]; omega) only [Zo, Ze, Zn, Zq]
 ·simp (disch := first | omega | simp only [Zs]; omega) only [Zo, Ze, Zn, Zq]
 ·simp (disch := first | omega | simp only [Zs]; omega) only [Zo, Ze, Zn, Zq]
 ·simp (disch := first | omega | simp only [Zs]; omega) only [Zo, Ze, Zn, Zq, a1]
 ·simp (disch := first | omega | simp only [Zs]; omega) only [Zo, Ze, Zn, Zq, a2]
 have hrt : r ≠ tb := fun e => htb (e ▸ hFr)
 refine ⟨?_, .tuple #[], by simp [results, Try.results129], _, rfl, r, hFr, hwhich, hmod.trans (hm2.mono fun _ _ e => .inr e), ⟨C1, hm2.some hb1 (fun e => hrt (Eq.symm e)), hsz, hc1, hout⟩, hMA2⟩
 simp only [Zo, Zd]; exact ad
end Go.Proofs.Ytmehfgiadapekaa
