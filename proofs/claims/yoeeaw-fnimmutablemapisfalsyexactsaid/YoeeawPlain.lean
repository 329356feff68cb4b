/-
  PLAIN: a map as the list of its entries; no Go here.
-/
namespace Go.Proofs.Yoeeaw

/-- A map from keys (their bytes) to numbers: the list of its entries. -/
abbrev M := List (List UInt8 × Int)

def getM (m : M) (k : List UInt8) : Option Int := (m.find? (fun p => p.1 == k)).map (·.2)
def putM (m : M) (k : List UInt8) (v : Int) : M := (k, v) :: m.filter (fun p => !(p.1 == k))

/-- The entries 0 .. n-1 laid in, a later one over an earlier one. -/
def buildM (ks : List (List UInt8)) (vs : List Int) : Nat → M
  | 0 => []
  | n + 1 => putM (buildM ks vs n) (ks.getD n []) (vs.getD n 0)

/-- No key twice. -/
def TidyM (m : M) : Prop := m.Pairwise (fun p q => p.1 ≠ q.1)

theorem getM_put_same (m : M) (k : List UInt8) (v : Int) : getM (putM m k v) k = some v := by simp [getM, putM]

theorem find_filter_keep (k k' : List UInt8) (h : k' ≠ k) : ∀ m : M, (m.filter (fun p => !(p.1 == k))).find? (fun p => p.1 == k') = m.find? (fun p => p.1 == k')
  | [] => rfl
  | p :: r => by
    by_cases hp : p.1 = k
    · have h1 : (!(p.1 == k)) = false := by simp [hp]
      have h2 : (p.1 == k') = false := by rw [hp]; simp [Ne.symm h]
      rw [List.filter_cons_of_neg (by simp [h1]), List.find?_cons_of_neg (by simp [h2]), find_filter_keep k k' h r]
    · have h1 : (!(p.1 == k)) = true := by simp [hp]
      rw [List.filter_cons_of_pos (by simp [h1])]
      by_cases hq : p.1 = k'
      · rw [List.find?_cons_of_pos (by simp [hq]), List.find?_cons_of_pos (by simp [hq])]
      · rw [List.find?_cons_of_neg (by simp [hq]), List.find?_cons_of_neg (by simp [hq]), find_filter_keep k k' h r]

theorem getM_put_other (m : M) (k k' : List UInt8) (v : Int) (h : k' ≠ k) : getM (putM m k v) k' = getM m k' := by
  unfold getM putM
  rw [List.find?_cons_of_neg (by simp [Ne.symm h]), find_filter_keep k k' h]

theorem TidyM.put {m : M} (h : TidyM m) (k : List UInt8) (v : Int) : TidyM (putM m k v) := by
  refine List.pairwise_cons.2 ⟨fun q hq => ?_, h.filter _⟩
  have := (List.mem_filter.1 hq).2
  simp at this
  exact Ne.symm this

theorem tidy_build (ks : List (List UInt8)) (vs : List Int) : ∀ n, TidyM (buildM ks vs n)
  | 0 => List.Pairwise.nil
  | n + 1 => (tidy_build ks vs n).put _ _

theorem getM_none {m : M} {k : List UInt8} (h : getM m k = none) : ∀ p ∈ m, p.1 ≠ k := by
  intro p hp e
  unfold getM at h
  have h1 := (Option.map_eq_none_iff.1 h)
  have := List.find?_eq_none.1 h1 p hp
  simp [e] at this

theorem getM_mem {m : M} {k : List UInt8} {v : Int} (h : getM m k = some v) : (k, v) ∈ m := by
  unfold getM at h
  obtain ⟨p, hp, rfl⟩ := Option.map_eq_some_iff.1 h
  have h1 := List.mem_of_find?_eq_some hp
  have h2 := List.find?_some hp
  simp at h2
  obtain ⟨a, b⟩ := p
  simp at h2
  subst h2
  exact h1

theorem getM_of_mem : ∀ {m : M}, TidyM m → ∀ {k : List UInt8} {v : Int}, (k, v) ∈ m → getM m k = some v
  | [], _, _, _, h => by simp at h
  | p :: r, ht, k, v, h => by
    obtain ⟨h1, h2⟩ := List.pairwise_cons.1 ht
    rcases List.mem_cons.1 h with e | h'
    · rw [← e]; simp [getM]
    · have hne : p.1 ≠ k := h1 _ h'
      have := getM_of_mem h2 h'
      unfold getM at this ⊢
      rw [List.find?_cons_of_neg (by simp [hne])]
      exact this

theorem filter_key_none {m : M} {k : List UInt8} (h : getM m k = none) : m.filter (fun p => !(p.1 == k)) = m := by
  rw [List.filter_eq_self]
  intro p hp
  simp [getM_none h p hp]

theorem length_filter_key : ∀ {m : M}, TidyM m → ∀ {k : List UInt8} {v : Int}, getM m k = some v → (m.filter (fun p => !(p.1 == k))).length + 1 = m.length
  | [], _, _, _, h => by simp [getM] at h
  | p :: r, ht, k, v, h => by
    obtain ⟨h1, h2⟩ := List.pairwise_cons.1 ht
    by_cases hp : p.1 = k
    · have hr : r.filter (fun q => !(q.1 == k)) = r := by
        rw [List.filter_eq_self]
        intro q hq
        have := h1 q hq
        rw [hp] at this
        simp [Ne.symm this]
      rw [List.filter_cons_of_neg (by simp [hp]), hr]
      rfl
    · have h' : getM r k = some v := by
        unfold getM at h ⊢
        rw [List.find?_cons_of_neg (by simp [hp])] at h
        exact h
      rw [List.filter_cons_of_pos (by simp [hp]), List.length_cons, length_filter_key h2 h', List.length_cons]

theorem length_put_new {m : M} {k : List UInt8} (v : Int) (h : getM m k = none) : (putM m k v).length = m.length + 1 := by
  unfold putM
  rw [filter_key_none h]
  rfl

theorem length_put_old {m : M} (ht : TidyM m) {k : List UInt8} {u : Int} (v : Int) (h : getM m k = some u) : (putM m k v).length = m.length := by
  unfold putM
  rw [List.length_cons, length_filter_key ht h]

theorem length_build_pos (ks : List (List UInt8)) (vs : List Int) (n : Nat) : (buildM ks vs n).length = 0 ↔ n = 0 := by
  cases n with
  | zero => simp [buildM]
  | succ n => simp [buildM, putM]

/-- As many entries, and each key of the first has the same number in the second. -/
def eqM (m m2 : M) : Bool := (m.length == m2.length) && m.all (fun p => getM m2 p.1 == some p.2)

theorem eqM_len {m m2 : M} (h : m.length ≠ m2.length) : eqM m m2 = false := by simp [eqM, h]

theorem eqM_true {m m2 : M} (ht : TidyM m) (hl : m.length = m2.length) (h : ∀ k v, getM m k = some v → getM m2 k = some v) : eqM m m2 = true := by
  unfold eqM
  rw [Bool.and_eq_true]
  refine ⟨by simp [hl], List.all_eq_true.2 fun p hp => ?_⟩
  simpa using h p.1 p.2 (getM_of_mem ht hp)

theorem eqM_false {m m2 : M} {k : List UInt8} {v : Int} (h : getM m k = some v) (h2 : getM m2 k ≠ some v) : eqM m m2 = false := by
  cases he : eqM m m2
  · rfl
  · unfold eqM at he
    rw [Bool.and_eq_true] at he
    have := List.all_eq_true.1 he.2 (k, v) (getM_mem h)
    simp at this
    exact absurd this h2

end Go.Proofs.Yoeeaw
