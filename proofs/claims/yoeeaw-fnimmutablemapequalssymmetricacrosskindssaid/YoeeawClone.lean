/-
  zzCloneS, zzCloneI (functions 9, 10).
-/
import Derived.Test.YoeeawBase
import Derived.Deep.OwnRows
namespace Go.Proofs.Yoeeaw
open Go.RowKit

theorem Eeag.info9 : (Eeag.prog.info? 9).map (fun i => (i.zero, i.size, i.bytes)) = some (some (.string ByteArray.empty), 1, 16) := by kernel_rfl
theorem Eeag.info2 : (Eeag.prog.info? 2).map (fun i => (i.zero, i.size, i.bytes)) = some (some (.int .i64 0), 1, 8) := by kernel_rfl

/-- The row that the call has made, n cells, of which the first k hold f. -/
structure Row (w wr : World) (n k : Nat) (f : Nat → Value) : Prop where
  size : wr.heap.size = w.heap.size + 1
  below : Below w.heap.size w wr
  has : ∀ j, j < n → ∃ v, wr.cell? ⟨w.heap.size, j, none⟩ = some v
  free : ∀ j, j < n → wr.frozen? ⟨w.heap.size, j, none⟩ = false
  done : ∀ j, j < k → wr.cell? ⟨w.heap.size, j, none⟩ = some (f j)

theorem Row.start (w : World) (n : Nat) (z : Value) (e : TypeId) (f : Nat → Value) : Row w (w.alloc (.cells (madeCells #[z] n) e)) n 0 f where
  size := by simp
  below := (Below.refl _ _).alloc (Nat.le_refl _) _
  has j hj := ⟨(madeCells #[z] n)[j]'(by rw [size_madeCells]; exact hj), by simp⟩
  free j hj := by simp
  done j hj := by omega

theorem Row.step {w wr : World} {n k : Nat} {f : Nat → Value} (h : Row w wr n k f) (hk : k < n) : Row w (wr.setCell ⟨w.heap.size, k, none⟩ (f k)) n (k + 1) f where
  size := by simpa [World.setCell] using h.size
  below := h.below.setCell (Nat.le_refl _) _
  has j hj := by
    obtain ⟨v, hv⟩ := h.has j hj
    exact cell?_setCell_some hv
  free j hj := by simpa using h.free j hj
  done j hj := by
    by_cases e : j = k
    · subst e
      obtain ⟨v, hv⟩ := h.has j hk
      exact World.cell?_setCell_same _ _ _ hv
    · rw [World.cell?_setCell_other _ _ _ _ (by simp)]
      exact h.done j (by omega)

theorem grownNone {w w' : World} (h : Below w.heap.size w w') : w.grownBy w' none :=
  ⟨h.os, h.tape, h.output, h.size, fun k hk _ => h.block k hk⟩

theorem SegS.nil {w : World} {ss : List ByteArray} (h : SegS w none ss) : ss.length = 0 := by
  rcases Nat.eq_zero_or_pos ss.length with h0 | h0
  · exact h0
  · obtain ⟨_, _, h1, _⟩ := h 0 h0
    cases h1
theorem SegI.nil {w : World} {zs : List Int} (h : SegI w none zs) : zs.length = 0 := by
  rcases Nat.eq_zero_or_pos zs.length with h0 | h0
  · exact h0
  · obtain ⟨_, _, h1, _⟩ := h 0 h0
    cases h1

set_option maxHeartbeats 400000 in
theorem cloneS (a : Option Addr) (ss : List ByteArray) (cap : Nat) (w : World) (hn : ss.length ≤ 4096) (hs : SegS w a ss) :
    Calls Eeag.prog 9 #[.slice a ss.length cap] w fun e w' => ∃ a' c', e = .returned (.slice a' ss.length c') ∧ SegS w' a' ss ∧ w.grownBy w' none := by
  cases a with
  | none =>
    have h0 := hs.nil
    generalize hnn : ss.length = n at hn h0
    subst h0
    have HN : Hid (ss.length = 0) := hnn
    clear hnn
    have hnil := fun w => Lib.run_eql_slice_nil (P := Eeag.prog) w 22 9 none 0 cap 0 0 Eeag.underlying22
    go_enter Eeag.func9, Eeag.ntmps9
    go_wp2
    go_ret
    exact ⟨none, 0, rfl, hs, grownNone (Below.refl _ _)⟩
  | some ad =>
    generalize hnn : ss.length = n at hn
    have HN : Hid (ss.length = n) := hnn
    clear hnn
    have hnil := fun w => Lib.run_eql_slice_nil (P := Eeag.prog) w 22 9 (some ad) n cap 0 0 Eeag.underlying22
    have hmk := run_make_row' (P := Eeag.prog) 22 9 (.string ByteArray.empty) 16 Eeag.underlying22 Eeag.info9 rfl .i64 .i64 n (by omega) (by omega)
    go_enter Eeag.func9, Eeag.ntmps9
    go_wp2
    go_loopw [4] (fun i wr => ∃ k : Nat, k ≤ n ∧ i = .int .i64 k ∧ Row w wr n k (fun j => .string (ss.getD j ByteArray.empty))) (fun i _ => n - (intOf i).toNat)
    case atStart => exact ⟨0, Nat.zero_le _, rfl, Row.start _ _ _ _ _⟩
    case round =>
      obtain ⟨k, hk, rfl, hrow⟩ := hrel
      by_cases hlt : k < n
      · obtain ⟨b, off, hab, hc⟩ := hs k (by rw [HN.out]; exact hlt)
        cases hab
        have hcx : wr.cell? ⟨b, off + k, none⟩ = some (.string (ss.getD k ByteArray.empty)) := cell_later hrow.below hc
        obtain ⟨v, hv⟩ := hrow.has k hlt
        have hf := hrow.free k hlt
        have hst := hrow.step hlt
        clear hmk hnil hc
        generalize ss.getD k ByteArray.empty = s at hcx hst
        go_wp2
        go_roundw
        case rel => exact ⟨k + 1, by omega, by go_num, hst⟩
        case measure => simp [intOf]; omega
      · have hkn : k = n := by omega
        subst hkn
        clear hmk hnil
        go_wp2
        go_ret
        exact ⟨_, _, rfl, fun j hj => ⟨w.heap.size, 0, rfl, by rw [Nat.zero_add]; exact hrow.done j (by rw [← HN.out]; exact hj)⟩, grownNone hrow.below⟩

set_option maxHeartbeats 400000 in
theorem cloneI (a : Option Addr) (ss : List Int) (cap : Nat) (w : World) (hn : ss.length ≤ 4096) (hs : SegI w a ss) :
    Calls Eeag.prog 10 #[.slice a ss.length cap] w fun e w' => ∃ a' c', e = .returned (.slice a' ss.length c') ∧ SegI w' a' ss ∧ w.grownBy w' none := by
  cases a with
  | none =>
    have h0 := hs.nil
    generalize hnn : ss.length = n at hn h0
    subst h0
    have HN : Hid (ss.length = 0) := hnn
    clear hnn
    have hnil := fun w => Lib.run_eql_slice_nil (P := Eeag.prog) w 23 2 none 0 cap 0 0 Eeag.underlying23
    go_enter Eeag.func10, Eeag.ntmps10
    go_wp2
    go_ret
    exact ⟨none, 0, rfl, hs, grownNone (Below.refl _ _)⟩
  | some ad =>
    generalize hnn : ss.length = n at hn
    have HN : Hid (ss.length = n) := hnn
    clear hnn
    have hnil := fun w => Lib.run_eql_slice_nil (P := Eeag.prog) w 23 2 (some ad) n cap 0 0 Eeag.underlying23
    have hmk := run_make_row' (P := Eeag.prog) 23 2 (.int .i64 0) 8 Eeag.underlying23 Eeag.info2 rfl .i64 .i64 n (by omega) (by omega)
    go_enter Eeag.func10, Eeag.ntmps10
    go_wp2
    go_loopw [4] (fun i wr => ∃ k : Nat, k ≤ n ∧ i = .int .i64 k ∧ Row w wr n k (fun j => .int .i64 (ss.getD j 0))) (fun i _ => n - (intOf i).toNat)
    case atStart => exact ⟨0, Nat.zero_le _, rfl, Row.start _ _ _ _ _⟩
    case round =>
      obtain ⟨k, hk, rfl, hrow⟩ := hrel
      by_cases hlt : k < n
      · obtain ⟨b, off, hab, hc⟩ := hs k (by rw [HN.out]; exact hlt)
        cases hab
        have hcx : wr.cell? ⟨b, off + k, none⟩ = some (.int .i64 (ss.getD k 0)) := cell_later hrow.below hc
        obtain ⟨v, hv⟩ := hrow.has k hlt
        have hf := hrow.free k hlt
        have hst := hrow.step hlt
        clear hmk hnil hc
        generalize ss.getD k 0 = s at hcx hst
        go_wp2
        go_roundw
        case rel => exact ⟨k + 1, by omega, by go_num, hst⟩
        case measure => simp [intOf]; omega
      · have hkn : k = n := by omega
        subst hkn
        clear hmk hnil
        go_wp2
        go_ret
        exact ⟨_, _, rfl, fun j hj => ⟨w.heap.size, 0, rfl, by rw [Nat.zero_add]; exact hrow.done j (by rw [← HN.out]; exact hj)⟩, grownNone hrow.below⟩

end Go.Proofs.Yoeeaw
