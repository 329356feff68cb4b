/-
  map[string]Object whose elements are *Int: how such a map lies in memory; zzIntEntries (25), ZZImmIntMap (12), ZZMapIntMap (22), IsFalsy (13, 17).
-/
import Derived.Test.YoeeawClone
import Derived.Test.YoeeawPlain
import Derived.Maps.RangeWalk
import Derived.Deep.RegionLaw
namespace Go.Proofs.Yoeeaw
open Go.RowKit Go.WideMaps Go.Maps

theorem law : Keyed Eeag.prog 9 := string_keyed Eeag.underlying9

/-- An element: an interface value that holds a *Int; it reads as its block's number. -/
def intElem : Value → Option (DataW Nat × List MemPlace)
  | .iface t (.pointer (some ⟨b, 0, none⟩)) => if t = 57 then some (.held b, []) else none
  | _ => none

theorem intElem_mk (b : Nat) : intElem (.iface 57 (.pointer (some ⟨b, 0, none⟩))) = some (.held b, []) := by simp [intElem]

theorem intElem_inv {v : Value} {z : DataW Nat × List MemPlace} (h : intElem v = some z) : ∃ b, v = .iface 57 (.pointer (some ⟨b, 0, none⟩)) ∧ z = (.held b, []) := by
  unfold intElem at h
  split at h
  · split at h
    · rename_i b ht
      subst ht
      cases h
      exact ⟨b, rfl, rfl⟩
    · cases h
  · cases h

/-- BLOCK b OF w IS A MAP OF AT MOST n ENTRIES WHOSE KEYS AND NUMBERS ARE m's. -/
structure IsM (w : World) (b n : Nat) (m : M) : Prop where
  tidy : TidyM m
  owns : ∃ D, w.ownsMap Eeag.prog 9 intElem b n D ∧ Maps.size D = m.length ∧ (∀ k, getM m k = none → Maps.has D (.string k) = false) ∧
    ∀ k v, getM m k = some v → ∃ c, (∀ zd, D.atKey (.string k) zd = .held c) ∧ w.cell? ⟨c, 0, none⟩ = some (.int .i64 v)

theorem IsM.made (w : World) : IsM (w.alloc (.map #[] 0)) w.heap.size 0 [] where
  tidy := List.Pairwise.nil
  owns := ⟨.map [], World.ownsMap_made _ _ _ _, rfl, fun _ _ => rfl, fun k v h => by simp [getM] at h⟩

theorem IsM.mono {w : World} {b n n' : Nat} {m : M} (h : IsM w b n m) (hn : n ≤ n') : IsM w b n' m where
  tidy := h.tidy
  owns := by
    obtain ⟨D, h1, h2⟩ := h.owns
    exact ⟨D, h1.mono hn, h2⟩

theorem IsM.grown {w w' : World} {b n : Nat} {m : M} (h : IsM w b n m) (hg : w.grownBy w' none) : IsM w' b n m where
  tidy := h.tidy
  owns := by
    obtain ⟨D, h1, h2, h3, h4⟩ := h.owns
    refine ⟨D, h1.kept hg (by simp), h2, h3, fun k v hk => ?_⟩
    obtain ⟨c, hc, hcell⟩ := h4 k v hk
    exact ⟨c, hc, hg.cell hcell (by simp)⟩

theorem IsM.drawn {w : World} {b n : Nat} {m : M} (h : IsM w b n m) : IsM w.drew b n m := h.grown ⟨rfl, rfl, rfl, Nat.le_refl _, fun _ _ _ => rfl⟩

theorem ownsMap_no_cell {w : World} {b n : Nat} {D : DataW Nat} (h : w.ownsMap Eeag.prog 9 intElem b n D) (o : Nat) : w.cell? ⟨b, o, none⟩ = none := by
  obtain ⟨es, clock, hb, _⟩ := h
  simp [World.cell?, hb]

/-- 'm[s] = p', p a new *Int that holds v. -/
theorem IsM.store {w : World} {b n : Nat} {m : M} (h : IsM w b n m) (hn : n < maxLen) {s : ByteArray} (hs : s.size ≤ maxLen) {c : Nat} {v : Int} (hc : w.cell? ⟨c, 0, none⟩ = some (.int .i64 v)) :
    ∃ w', (Instr.mapUpdate 42 (.map (some b)) (.string s) (.iface 57 (.pointer (some ⟨c, 0, none⟩)))).run Eeag.prog w = .ok () w' ∧ IsM w' b (n + 1) (putM m s.data.toList v) ∧ w.grownBy w' (some b) := by
  obtain ⟨D, h1, h2, h3, h4⟩ := h.owns
  have hkey := keyOf_string_mk (P := Eeag.prog) Eeag.underlying9 hs
  obtain ⟨w', hrun, hown, hgr⟩ := h1.update (val := .iface 57 (.pointer (some ⟨c, 0, none⟩))) law Eeag.underlying42 hn hkey (intElem_mk c)
  have hcell : ∀ c' v', w.cell? ⟨c', 0, none⟩ = some (.int .i64 v') → w'.cell? ⟨c', 0, none⟩ = some (.int .i64 v') := fun c' v' hc' => by
    refine hgr.cell hc' (fun e => ?_)
    cases e
    rw [ownsMap_no_cell h1] at hc'
    cases hc'
  have hD := h1.isMap
  have hK := law.key hkey
  refine ⟨w', hrun, ⟨h.tidy.put _ _, D.put (.string s.data.toList) (.held c), hown, ?_, fun k hk => ?_, fun k u hk => ?_⟩, hgr⟩
  · rw [Maps.size_put (h1.tidy law)]
    cases hg : getM m s.data.toList with
    | none => rw [h3 _ hg, length_put_new v hg, h2]; rfl
    | some u =>
      obtain ⟨c', hc', _⟩ := h4 _ u hg
      rw [Maps.has_true_of_atKey hc', length_put_old h.tidy v hg, h2]; rfl
  · by_cases e : k = s.data.toList
    · subst e
      rw [getM_put_same] at hk
      cases hk
    · rw [getM_put_other _ _ _ _ e] at hk
      rw [Maps.has_put_other (by simpa using e)]
      exact h3 k hk
  · by_cases e : k = s.data.toList
    · subst e
      rw [getM_put_same] at hk
      cases hk
      exact ⟨c, fun zd => Maps.atKey_put_same hD hK _ _, hcell _ _ hc⟩
    · rw [getM_put_other _ _ _ _ e] at hk
      obtain ⟨c', hc', hcl⟩ := h4 k u hk
      exact ⟨c', fun zd => by rw [Maps.atKey_put_other (by simpa using e)]; exact hc' zd, hcell _ _ hcl⟩

end Go.Proofs.Yoeeaw
