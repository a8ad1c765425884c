/-
  The map of the inert documents: look-up and store.
-/
import Derived.MapFrom
import Derived.Test.YtnfdcfagdidmhaaP14
namespace Go.Proofs.Ytnfdcfagdidmhaa
open Go.RowKit

theorem mapEs_size (L : List (Int × Int)) : (mapEs L).size = L.length := by simp [mapEs]
theorem mapEs_get (L : List (Int × Int)) (i : Nat) : (mapEs L)[i]? = (L[i]?).map (fun p => { key := intv p.1, val := intv p.2, born := i }) := by simp [mapEs]
theorem mapEs_snoc (L : List (Int × Int)) (p : Int × Int) : mapEs (L ++ [p]) = (mapEs L).push { key := intv p.1, val := intv p.2, born := L.length } := by
  simp [mapEs, List.mapIdx_append]

theorem isKey_int (k : Int) : MapKept.IsKey (.int .i64) (intv k) := rfl
theorem mapEs_keys (L : List (Int × Int)) : ∀ x ∈ (mapEs L).toList, MapKept.IsKey (.int .i64) x.key := by
  intro x hx
  rw [Array.mem_toList_iff, Array.mem_iff_getElem?] at hx
  obtain ⟨i, hi⟩ := hx
  rw [mapEs_get] at hi
  cases h : L[i]? with
  | none => rw [h] at hi; cases hi
  | some p => rw [h] at hi; cases hi; exact isKey_int _

theorem setBlock_upd (w : World) (mb : Nat) (o : Obj) : Upd (fun k => k = mb) w { w with heap := w.heap.setIfInBounds mb o } :=
  ⟨rfl, rfl, rfl, by simp, fun k _ hf => by simp [Ne.symm hf]⟩
theorem setBlock_at {w : World} {mb : Nat} {o' : Obj} (h : w.heap[mb]? = some o') (o : Obj) : (({ w with heap := w.heap.setIfInBounds mb o } : World).heap)[mb]? = some o := by
  simp [lt_of_block h]

section
variable {P : Program} {mt kt et : TypeId} {w : World} {mb : Nat} {L : List (Int × Int)} {k v : Int}

/-- A store of a new key: the entry, then its value. -/
theorem run_mapEntry_new (hm : P.underlying mt = some (.map kt et)) (hd : P.underlying kt = some (.int .i64)) (hz : (zeroValue et).run P w = .ok (.int .i64 0) w) (hb : w.heap[mb]? = some (.map (mapEs L) L.length)) (hno : ∀ p ∈ L, p.1 ≠ k) :
    (Instr.mapEntry mt (.map (some mb)) (.int .i64 k)).run P w = .ok (.tuple #[.int .i64 0, .int .i64 L.length]) { w with heap := w.heap.setIfInBounds mb (.map (mapEs (L ++ [(k, 0)])) (L.length + 1)) } := by
  have hck : ∀ w : World, (Instr.checkKey false 10000 kt (.int .i64 k)).run P w = .ok () w := fun w => MapKept.run_checkKey hd (k := .int .i64 k) (isKey_int k) false 9999
  rcases MapKept.findNow_spec (isKey_int k) (mapEs L).toList 0 (mapEs_keys L) with ⟨h1, _⟩ | ⟨j, e, _, h2, h3⟩
  · rw [show intv k = .int .i64 k from rfl] at h1
    simp [Instr.mapEntry, run_underlying hm, run_getObj_map _ _ _ _ hb, hck, MapKept.run_findKey hd h1, hz, MapKept.run_setObj_map _ hb, Result.andThen, goInt, mapEs_snoc, intv]
  · exfalso
    rw [Array.getElem?_toList, mapEs_get] at h2
    cases h : L[j]? with
    | none => rw [h] at h2; cases h2
    | some p => rw [h] at h2; cases h2; simp [intv] at h3; exact hno p (List.mem_of_getElem? h) h3

theorem run_entryStore_new (hb : w.heap[mb]? = some (.map (mapEs (L ++ [(k, 0)])) (L.length + 1))) :
    (Instr.entryStore mt (.map (some mb)) (.int .i64 L.length) (.int .i64 v)).run P w = .ok () { w with heap := w.heap.setIfInBounds mb (.map (mapEs (L ++ [(k, v)])) (L.length + 1)) } := by
  have hf : (mapEs (L ++ [(k, 0)])).findIdx? (fun e => (e.born : Int) == (L.length : Int)) = some L.length := by
    rw [Array.findIdx?_eq_some_iff_getElem]
    refine ⟨by simp [mapEs_size], ?_, fun j hj => ?_⟩
    · have := mapEs_get (L ++ [(k, 0)]) L.length
      simp at this
      obtain ⟨h1, h2⟩ := Array.getElem?_eq_some_iff.1 this
      rw [h2]; simp
    · have hjl : j < (L ++ [(k, 0)]).length := by simp; omega
      have := mapEs_get (L ++ [(k, 0)]) j
      rw [List.getElem?_eq_getElem hjl, Option.map_some] at this
      obtain ⟨h1, h2⟩ := Array.getElem?_eq_some_iff.1 this
      rw [h2]; simp; omega
  have hmod : (mapEs (L ++ [(k, 0)])).modify L.length (fun e => { e with val := .int .i64 v }) = mapEs (L ++ [(k, v)]) := by
    apply Array.ext_getElem?
    intro i
    rw [Array.getElem?_modify, mapEs_get, mapEs_get, List.getElem?_append, List.getElem?_append]
    by_cases hi : i < L.length
    · have : L.length ≠ i := by omega
      simp [hi, this]
    · by_cases hi2 : i = L.length
      · subst hi2; simp [intv]
      · have h1 : i - L.length ≠ 0 := by omega
        rw [if_neg hi, if_neg hi, List.getElem?_singleton, List.getElem?_singleton]
        simp [h1]
  simp [Instr.entryStore, run_getObj_map _ _ _ _ hb, asInt, asIntOf, Result.andThen, hf, hmod, MapKept.run_setObj_map _ hb]

theorem find_lookup : ∀ (L : List (Int × Int)) (j : Nat) (p : Int × Int), (L.map Prod.fst).Nodup → L[j]? = some p → L.lookup p.1 = some p.2
  | [], j, p, _, h => by simp at h
  | q :: L, j, p, hn, h => by
    simp only [List.map_cons, List.nodup_cons] at hn
    cases j with
    | zero => simp at h; subst h; simp [List.lookup]
    | succ j =>
      simp at h
      have hne : p.1 ≠ q.1 := fun e => hn.1 (by rw [← e]; exact List.mem_map.2 ⟨p, List.mem_of_getElem? h, rfl⟩)
      rw [List.lookup]
      have : (p.1 == q.1) = false := by simpa using hne
      rw [this]
      exact find_lookup L j p hn.2 h
theorem lookup_none : ∀ (L : List (Int × Int)) (k : Int), (∀ p ∈ L, p.1 ≠ k) → L.lookup k = none
  | [], k, _ => rfl
  | q :: L, k, h => by
    have : (k == q.1) = false := by simpa using (fun e : k = q.1 => h q (by simp) e.symm)
    rw [List.lookup, this]
    exact lookup_none L k (fun p hp => h p (by simp [hp]))

/-- A look-up with ok. -/
theorem run_lookup_ok (hm : P.underlying mt = some (.map kt et)) (hd : P.underlying kt = some (.int .i64)) (hz : (zeroValue et).run P w = .ok (.int .i64 0) w) (hb : w.heap[mb]? = some (.map (mapEs L) L.length)) (hn : (L.map Prod.fst).Nodup) :
    (Instr.lookup mt (.map (some mb)) (.int .i64 k) true).run P w = .ok (.tuple #[.int .i64 ((L.lookup k).getD 0), .bool (L.lookup k).isSome]) w := by
  have hck : ∀ (e : Bool) (w : World), (Instr.checkKey e 10000 kt (.int .i64 k)).run P w = .ok () w := fun e w => MapKept.run_checkKey hd (k := .int .i64 k) (isKey_int k) e 9999
  rcases MapKept.findNow_spec (isKey_int k) (mapEs L).toList 0 (mapEs_keys L) with ⟨h1, h2⟩ | ⟨j, e, h1, h2, h3⟩
  · rw [show intv k = .int .i64 k from rfl] at h1
    have hl : L.lookup k = none := lookup_none L k (fun p hp => by
      obtain ⟨i, hi, rfl⟩ := List.getElem_of_mem hp
      have := mapEs_get L i
      rw [List.getElem?_eq_getElem hi, Option.map_some] at this
      have hmem : ({ key := intv L[i].1, val := intv L[i].2, born := i } : MapEntry) ∈ (mapEs L).toList := by
        rw [Array.mem_toList_iff, Array.mem_iff_getElem?]; exact ⟨i, this⟩
      have := h2 _ hmem
      intro e; apply this; simp [intv, e])
    simp [Instr.lookup, run_underlying hm, run_getObj_map _ _ _ _ hb, hck, MapKept.run_findKey hd h1, hz, Result.andThen, hl]
  · rw [show intv k = .int .i64 k from rfl] at h1
    rw [Array.getElem?_toList, mapEs_get] at h2
    cases h : L[j]? with
    | none => rw [h] at h2; cases h2
    | some p =>
      rw [h] at h2
      cases h2
      simp [intv] at h3
      have hl : L.lookup k = some p.2 := by rw [← h3]; exact find_lookup L j p hn h
      simp [Instr.lookup, run_underlying hm, run_getObj_map _ _ _ _ hb, hck, MapKept.run_findKey hd h1, Result.andThen, hl, intv]
theorem run_lookup_nil (hm : P.underlying mt = some (.map kt et)) (hd : P.underlying kt = some (.int .i64)) (hz : (zeroValue et).run P w = .ok (.int .i64 0) w) :
    (Instr.lookup mt (.map none) (.int .i64 k) true).run P w = .ok (.tuple #[.int .i64 0, .bool false]) w := by
  have hck : ∀ (e : Bool) (w : World), (Instr.checkKey e 10000 kt (.int .i64 k)).run P w = .ok () w := fun e w => MapKept.run_checkKey hd (k := .int .i64 k) (isKey_int k) e 9999
  have h1 : Instr.findNow (.int .i64) (.int .i64 k) [] 0 = some none := rfl
  simp [Instr.lookup, run_underlying hm, hck, MapKept.run_findKey hd h1, hz, Result.andThen]
end
end Go.Proofs.Ytnfdcfagdidmhaa
