/-
  THE LOOK-UP IN SUCH A MAP, AND A RANGE OVER IT.
-/
import Derived.Test.YoeeawIntEq
namespace Go.Proofs.Yoeeaw
open Go.RowKit Go.WideMaps Go.Maps
open Go.WideElems (Fit rd rg pl rd_val elemAt)

theorem zero50 (w : World) : (zeroValue 50).run Eeag.prog w = .ok .nilIface w := by kernel_rfl

theorem key9_inv {key : Value} {kl : Lit} (h : keyOf Eeag.prog 9 key = some kl) : ∃ x : ByteArray, key = .string x ∧ kl = .string x.data.toList ∧ x.size ≤ maxLen := by
  cases key <;> simp [keyOf, Eeag.underlying9, mapKey] at h
  obtain ⟨h1, rfl⟩ := h
  exact ⟨_, rfl, rfl, h1⟩

/-- What the datum D of a map in world w says of m. -/
structure Facts (w : World) (D : DataW Nat) (m : M) : Prop where
  size : Maps.size D = m.length
  no : ∀ k, getM m k = none → Maps.has D (.string k) = false
  yes : ∀ k v, getM m k = some v → ∃ c, (∀ zd, D.atKey (.string k) zd = .held c) ∧ w.cell? ⟨c, 0, none⟩ = some (.int .i64 v)

theorem IsM.facts {w : World} {b n : Nat} {m : M} (h : IsM w b n m) : ∃ D, w.ownsMap Eeag.prog 9 intElem b n D ∧ Facts w D m := by
  obtain ⟨D, h1, h2, h3, h4⟩ := h.owns
  exact ⟨D, h1, h2, h3, h4⟩

theorem Facts.at {w : World} {D : DataW Nat} {m : M} (F : Facts w D m) {k : List UInt8} {c : Nat} (h : ∀ zd, D.atKey (.string k) zd = .held c) : ∃ v, getM m k = some v ∧ w.cell? ⟨c, 0, none⟩ = some (.int .i64 v) := by
  cases hg : getM m k with
  | none =>
    have h1 := F.no k hg
    rw [Maps.has_true_of_atKey h] at h1
    cases h1
  | some v =>
    obtain ⟨c', h1, h2⟩ := F.yes k v hg
    have : DataW.held c' = .held c := (h1 .nil).symm.trans (h .nil)
    cases this
    exact ⟨v, rfl, h2⟩

theorem IsM.look_none {w : World} {b n : Nat} {m : M} (h : IsM w b n m) {s : ByteArray} (hs : s.size ≤ maxLen) (hg : getM m s.data.toList = none) :
    (Instr.lookup 42 (.map (some b)) (.string s) false).run Eeag.prog w = .ok .nilIface w := by
  obtain ⟨D, ⟨es, clock, hb, Ft, _, rfl⟩, F⟩ := h.facts
  have hkey := keyOf_string_mk (P := Eeag.prog) Eeag.underlying9 hs
  rcases Maps.fit_look false law Eeag.underlying42 (zero50 w) hb Ft hkey with ⟨hrun, _, _⟩ | ⟨e0, y, _, _, _, _, hat, _⟩
  · exact hrun
  · have := F.no _ hg
    rw [Maps.has_true_of_atKey hat] at this
    cases this

theorem IsM.look_some {w : World} {b n : Nat} {m : M} (h : IsM w b n m) {s : ByteArray} {u : Int} (hs : s.size ≤ maxLen) (hg : getM m s.data.toList = some u) :
    ∃ c, (Instr.lookup 42 (.map (some b)) (.string s) false).run Eeag.prog w = .ok (.iface 57 (.pointer (some ⟨c, 0, none⟩))) w ∧ w.cell? ⟨c, 0, none⟩ = some (.int .i64 u) := by
  obtain ⟨D, ⟨es, clock, hb, Ft, _, rfl⟩, F⟩ := h.facts
  have hkey := keyOf_string_mk (P := Eeag.prog) Eeag.underlying9 hs
  obtain ⟨c, hc, hcell⟩ := F.yes _ u hg
  rcases Maps.fit_look false law Eeag.underlying42 (zero50 w) hb Ft hkey with ⟨_, _, hat⟩ | ⟨e0, y, _, _, hrun, hR, hat, _⟩
  · have h1 := (hat .nil).symm.trans (hc .nil)
    cases h1
  · obtain ⟨c', hv, hy⟩ := intElem_inv hR
    have h1 := (hat .nil).symm.trans (hc .nil)
    rw [hy] at h1
    cases h1
    rw [hv] at hrun
    exact ⟨c, hrun, hcell⟩

/-- THE STEP of a range over such a map. -/
theorem wpList_next_ints (w : World) {ops : Array Oper} {rest : List Oper} {o : Oper} {a : Act} {Q : Exit → Act → World → Prop} (hg : o.guard = none) (it : Operand) (hop : o.op = Op.next it false)
    (b r n : Nat) (D : DataW Nat) (left : Lit → Bool) (cnt : Nat) (hit : a.eval it = .pointer (some ⟨r, 0, none⟩)) (h : w.ranges Eeag.prog 9 intElem b r n D left cnt)
    (hDone : cnt = 0 → (∀ kl, left kl = false) → wpList Eeag.prog ops Q rest (a.put o.dst (.tuple #[.bool false])) w)
    (hMore : ∀ (x : ByteArray) (c : Nat) (w' : World) (cnt' : Nat), x.size ≤ maxLen → left (.string x.data.toList) = true → (∀ zd, D.atKey (.string x.data.toList) zd = .held c) →
      w'.ranges Eeag.prog 9 intElem b r n D (fun z => left z && !z.sameKey (.string x.data.toList)) cnt' → cnt' < cnt → w.grownBy w' (some r) → w'.heap.size = w.heap.size →
      (Instr.entry (.pointer (some ⟨r, 0, none⟩))).run Eeag.prog w' = .ok (.tuple #[.string x, .iface 57 (.pointer (some ⟨c, 0, none⟩))]) w' →
      wpList Eeag.prog ops Q rest (a.put o.dst (.tuple #[.bool true, .string x, .iface 57 (.pointer (some ⟨c, 0, none⟩))])) w') :
    wpList Eeag.prog ops Q (o :: rest) a w :=
  wpList_next_ranges w hg it hop 9 law intElem Value.string (fun c => .iface 57 (.pointer (some ⟨c, 0, none⟩)))
    (fun key kl hkey => by obtain ⟨x, rfl, _⟩ := key9_inv hkey; exact ⟨x, rfl⟩) (fun v y hv => by obtain ⟨c, rfl, _⟩ := intElem_inv hv; exact ⟨c, rfl⟩)
    b r n D left cnt hit h hDone (fun x c kl y w' cnt' hkey hlk hv hat hrg hlt hgr hsz hen => by
      obtain ⟨x', ex, rfl, hwx⟩ := key9_inv hkey
      cases ex
      rw [intElem_mk] at hv
      cases hv
      exact hMore x c w' cnt' hwx hlk hat hrg hlt hgr hsz hen)

/-- The keys of m that have come have the same number in m2. -/
def Agr (m m2 : M) (left : Lit → Bool) : Prop := ∀ k v, getM m k = some v → left (.string k) = false → getM m2 k = some v

theorem agr_start {w : World} {D : DataW Nat} {m : M} (F : Facts w D m) (m2 : M) : Agr m m2 (Maps.has D) := by
  intro k v hk hl
  obtain ⟨c, hc, _⟩ := F.yes k v hk
  rw [Maps.has_true_of_atKey hc] at hl
  cases hl

theorem agr_step {m m2 : M} {left : Lit → Bool} (h : Agr m m2 left) {x : List UInt8} {v : Int} (hx : getM m x = some v) (hx2 : getM m2 x = some v) : Agr m m2 (fun z => left z && !z.sameKey (.string x)) := by
  intro k u hk hl
  by_cases e : k = x
  · subst e
    rw [hx] at hk
    cases hk
    exact hx2
  · have hs : (Lit.string k).sameKey (.string x) = false := Maps.sameKey_ne (by simpa using e)
    simp only [hs, Bool.not_false, Bool.and_true] at hl
    exact h k u hk hl

end Go.Proofs.Yoeeaw
