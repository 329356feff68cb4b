/-
  PLAIN: the model of the laws (the last entry of each key) against the map; the equality's symmetry. No Go here.
-/
import Derived.Test.YoeeawPlain
namespace Go.Proofs.Yoeeaw

/-! ### lists without repeats -/
theorem length_le_of_sub : ∀ {l1 l2 : M}, l1.Pairwise (fun p q => p ≠ q) → (∀ p ∈ l1, p ∈ l2) → l1.length ≤ l2.length
  | [], _, _, _ => Nat.zero_le _
  | x :: r, l2, h, hs => by
    obtain ⟨h1, h2⟩ := List.pairwise_cons.1 h
    have hx : x ∈ l2 := hs x (by simp)
    have ih := length_le_of_sub (l1 := r) (l2 := l2.erase x) h2 (fun p hp => (List.mem_erase_of_ne (Ne.symm (h1 p hp))).2 (hs p (by simp [hp])))
    rw [List.length_erase_of_mem hx] at ih
    have : 0 < l2.length := List.length_pos_of_mem hx
    simp only [List.length_cons]
    omega

theorem TidyM.apart : ∀ {m : M}, TidyM m → m.Pairwise (fun p q => p ≠ q)
  | [], _ => List.Pairwise.nil
  | p :: r, h => by
    obtain ⟨h1, h2⟩ := List.pairwise_cons.1 h
    exact List.pairwise_cons.2 ⟨fun q hq e => h1 q hq (by rw [e]), TidyM.apart h2⟩

theorem sub_back {m m2 : M} (h : TidyM m) (hs : ∀ p ∈ m, p ∈ m2) (hl : m2.length ≤ m.length) : ∀ p ∈ m2, p ∈ m := by
  intro y hy
  by_cases hm : y ∈ m
  · exact hm
  · have := length_le_of_sub (l1 := y :: m) (l2 := m2) (List.pairwise_cons.2 ⟨fun q hq e => hm (e ▸ hq), h.apart⟩) (fun p hp => by
      rcases List.mem_cons.1 hp with rfl | hp
      · exact hy
      · exact hs p hp)
    simp only [List.length_cons] at this
    omega

/-! ### the equality -/
theorem eqM_iff {m m2 : M} (h : TidyM m) : eqM m m2 = true ↔ m.length = m2.length ∧ ∀ k v, getM m k = some v → getM m2 k = some v := by
  constructor
  · intro he
    refine ⟨?_, fun k v hk => ?_⟩
    · rcases Decidable.em (m.length = m2.length) with h1 | h1
      · exact h1
      · rw [eqM_len h1] at he; cases he
    · rcases Decidable.em (getM m2 k = some v) with h1 | h1
      · exact h1
      · rw [eqM_false hk h1] at he; cases he
  · intro ⟨h1, h2⟩
    exact eqM_true h h1 h2

theorem eqM_symm_of {m m2 : M} (h : TidyM m) (h2 : TidyM m2) (he : eqM m m2 = true) : eqM m2 m = true := by
  obtain ⟨hl, hk⟩ := (eqM_iff h).1 he
  refine eqM_true h2 hl.symm (fun k v hv => ?_)
  exact getM_of_mem h (sub_back h (fun p hp => getM_mem (hk p.1 p.2 (getM_of_mem h hp))) (by omega) _ (getM_mem hv))

theorem eqM_symm {m m2 : M} (h : TidyM m) (h2 : TidyM m2) : eqM m2 m = eqM m m2 := by
  rw [Bool.eq_iff_iff]
  exact ⟨eqM_symm_of h2 h, eqM_symm_of h h2⟩

theorem eqM_refl {m : M} (h : TidyM m) : eqM m m = true := eqM_true h rfl (fun _ _ h => h)

/-! ### the model: the last entry of each key -/
/-- Entry i is the last one below n with its key. -/
def lastB (ks : List (List UInt8)) (n i : Nat) : Bool := (List.range n).all (fun j => !(decide (i < j) && (ks.getD j [] == ks.getD i [])))

theorem lastB_iff (ks : List (List UInt8)) (n i : Nat) : lastB ks n i = true ↔ ∀ j, i < j → j < n → ks.getD j [] ≠ ks.getD i [] := by
  unfold lastB
  rw [List.all_eq_true]
  constructor
  · intro h j h1 h2 e
    have := h j (List.mem_range.2 h2)
    simp only [h1, decide_true, e, beq_self_eq_true, Bool.and_self, Bool.not_true] at this
    cases this
  · intro h j hj
    rcases Decidable.em (i < j) with h1 | h1
    · have := h j h1 (List.mem_range.1 hj)
      rw [Bool.not_eq_true', Bool.and_eq_false_iff]
      right
      rw [beq_eq_false_iff_ne]
      exact this
    · simp only [h1, decide_false, Bool.false_and, Bool.not_false]

/-- The last entries below n, among the first k. -/
def lasts (ks : List (List UInt8)) (n k : Nat) : List Nat := (List.range k).filter (fun i => lastB ks n i)
def distB (ks : List (List UInt8)) (n k : Nat) : Nat := (lasts ks n k).length

theorem distB_zero (ks : List (List UInt8)) (n : Nat) : distB ks n 0 = 0 := rfl
theorem distB_succ (ks : List (List UInt8)) (n k : Nat) : distB ks n (k + 1) = distB ks n k + if lastB ks n k then 1 else 0 := by
  unfold distB lasts
  rw [List.range_succ, List.filter_append, List.length_append]
  cases h : lastB ks n k <;> simp [h]
theorem distB_le (ks : List (List UInt8)) (n k : Nat) : distB ks n k ≤ k := by
  unfold distB lasts
  have := List.length_filter_le (fun i => lastB ks n i) (List.range k)
  simpa using this

theorem get_of_last (ks : List (List UInt8)) (vs : List Int) : ∀ (n i : Nat), i < n → lastB ks n i = true → getM (buildM ks vs n) (ks.getD i []) = some (vs.getD i 0)
  | 0, _, h, _ => by omega
  | n + 1, i, h, hl => by
    show getM (putM (buildM ks vs n) (ks.getD n []) (vs.getD n 0)) (ks.getD i []) = _
    rw [lastB_iff] at hl
    rcases Decidable.em (i = n) with e | e
    · subst e
      exact getM_put_same _ _ _
    · rw [getM_put_other _ _ _ _ (Ne.symm (hl n (by omega) (by omega)))]
      exact get_of_last ks vs n i (by omega) ((lastB_iff ks n i).2 (fun j h1 h2 => hl j h1 (by omega)))

theorem last_of_get (ks : List (List UInt8)) (vs : List Int) : ∀ (n : Nat) (k : List UInt8) (v : Int), getM (buildM ks vs n) k = some v → ∃ i, i < n ∧ lastB ks n i = true ∧ ks.getD i [] = k ∧ vs.getD i 0 = v
  | 0, k, v, h => by simp [buildM, getM] at h
  | n + 1, k, v, h => by
    have h' : getM (putM (buildM ks vs n) (ks.getD n []) (vs.getD n 0)) k = some v := h
    rcases Decidable.em (k = ks.getD n []) with e | e
    · rw [← e, getM_put_same] at h'
      exact ⟨n, by omega, (lastB_iff ks _ n).2 (fun j h1 h2 => by omega), e.symm, Option.some.inj h'⟩
    · rw [getM_put_other _ _ _ _ e] at h'
      obtain ⟨i, h1, h2, h3, h4⟩ := last_of_get ks vs n k v h'
      refine ⟨i, by omega, (lastB_iff ks _ i).2 (fun j h5 h6 => ?_), h3, h4⟩
      rcases Decidable.em (j = n) with ej | ej
      · rw [ej, h3]; exact Ne.symm e
      · exact (lastB_iff ks n i).1 h2 j h5 (by omega)

/-- The last entries as a map. -/
def lastM (ks : List (List UInt8)) (vs : List Int) (n : Nat) : M := (lasts ks n n).map (fun i => (ks.getD i [], vs.getD i 0))

theorem mem_lastM {ks : List (List UInt8)} {vs : List Int} {n : Nat} {p : List UInt8 × Int} : p ∈ lastM ks vs n ↔ ∃ i, i < n ∧ lastB ks n i = true ∧ (ks.getD i [], vs.getD i 0) = p := by
  unfold lastM lasts
  constructor
  · intro h
    obtain ⟨i, hi, e⟩ := List.mem_map.1 h
    obtain ⟨h1, h2⟩ := List.mem_filter.1 hi
    exact ⟨i, List.mem_range.1 h1, h2, e⟩
  · intro ⟨i, h1, h2, e⟩
    exact List.mem_map.2 ⟨i, List.mem_filter.2 ⟨List.mem_range.2 h1, h2⟩, e⟩

theorem tidy_of_lasts (ks : List (List UInt8)) (vs : List Int) (n : Nat) : ∀ (l : List Nat), l.Pairwise (fun i j => i < j) → (∀ i ∈ l, i < n ∧ lastB ks n i = true) → TidyM (l.map (fun i => (ks.getD i [], vs.getD i 0)))
  | [], _, _ => List.Pairwise.nil
  | i :: r, h, hl => by
    obtain ⟨h1, h2⟩ := List.pairwise_cons.1 h
    refine List.pairwise_cons.2 ⟨fun q hq e => ?_, tidy_of_lasts ks vs n r h2 (fun j hj => hl j (List.mem_cons_of_mem _ hj))⟩
    obtain ⟨j, hj, rfl⟩ := List.mem_map.1 hq
    exact (lastB_iff ks n i).1 (hl i (by simp)).2 j (h1 j hj) (hl j (List.mem_cons_of_mem _ hj)).1 e.symm

theorem tidy_lastM (ks : List (List UInt8)) (vs : List Int) (n : Nat) : TidyM (lastM ks vs n) := by
  refine tidy_of_lasts ks vs n (lasts ks n n) (List.Pairwise.filter _ List.pairwise_lt_range) (fun i hi => ?_)
  obtain ⟨h1, h2⟩ := List.mem_filter.1 hi
  exact ⟨List.mem_range.1 h1, h2⟩

theorem length_build (ks : List (List UInt8)) (vs : List Int) (n : Nat) : (buildM ks vs n).length = distB ks n n := by
  have e1 : distB ks n n = (lastM ks vs n).length := by simp [distB, lastM]
  rw [e1]
  have t1 := tidy_build ks vs n
  have t2 := tidy_lastM ks vs n
  refine Nat.le_antisymm (length_le_of_sub t1.apart (fun p hp => ?_)) (length_le_of_sub t2.apart (fun p hp => ?_))
  · obtain ⟨i, h1, h2, h3, h4⟩ := last_of_get ks vs n p.1 p.2 (getM_of_mem t1 hp)
    exact mem_lastM.2 ⟨i, h1, h2, Prod.ext h3 h4⟩
  · obtain ⟨i, h1, h2, e⟩ := mem_lastM.1 hp
    rw [← e]
    exact getM_mem (get_of_last ks vs n i h1 h2)

/-- What zzModelEqual has seen of the first k entries: each last one has its number in m2. -/
def SameTo (ks : List (List UInt8)) (vs : List Int) (n : Nat) (m2 : M) (k : Nat) : Prop := ∀ i, i < k → lastB ks n i = true → getM m2 (ks.getD i []) = some (vs.getD i 0)

theorem sameTo_zero (ks : List (List UInt8)) (vs : List Int) (n : Nat) (m2 : M) : SameTo ks vs n m2 0 := fun i h => by omega
theorem sameTo_skip {ks : List (List UInt8)} {vs : List Int} {n : Nat} {m2 : M} {k : Nat} (h : SameTo ks vs n m2 k) (hl : lastB ks n k = false) : SameTo ks vs n m2 (k + 1) := fun i h1 h2 => by
  rcases Decidable.em (i = k) with e | e
  · rw [e, hl] at h2; cases h2
  · exact h i (by omega) h2
theorem sameTo_hit {ks : List (List UInt8)} {vs : List Int} {n : Nat} {m2 : M} {k : Nat} (h : SameTo ks vs n m2 k) (hg : getM m2 (ks.getD k []) = some (vs.getD k 0)) : SameTo ks vs n m2 (k + 1) := fun i h1 h2 => by
  rcases Decidable.em (i = k) with e | e
  · rw [e]; exact hg
  · exact h i (by omega) h2

theorem model_true {ks : List (List UInt8)} {vs : List Int} {n : Nat} {m2 : M} (hl : (buildM ks vs n).length = m2.length) (h : SameTo ks vs n m2 n) : eqM (buildM ks vs n) m2 = true :=
  eqM_true (tidy_build ks vs n) hl (fun k v hk => by
    obtain ⟨i, h1, h2, h3, h4⟩ := last_of_get ks vs n k v hk
    rw [← h3, ← h4]
    exact h i h1 h2)

theorem model_false {ks : List (List UInt8)} {vs : List Int} {n : Nat} {m2 : M} {i : Nat} (hi : i < n) (hl : lastB ks n i = true) (hg : getM m2 (ks.getD i []) ≠ some (vs.getD i 0)) : eqM (buildM ks vs n) m2 = false :=
  eqM_false (get_of_last ks vs n i hi hl) hg

end Go.Proofs.Yoeeaw
