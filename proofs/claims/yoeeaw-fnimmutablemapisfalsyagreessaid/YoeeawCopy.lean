/-
  (*ImmutableMap).Copy (27), ZZImmCopyAsMap (16).
-/
import Derived.Test.YoeeawEquals
namespace Go.Proofs.Yoeeaw
open Go.RowKit Go.WideMaps Go.Maps

theorem meth_Copy (c : Nat) (w : World) : (method 190 57 (.pointer (some ⟨c, 0, none⟩)) "Copy").run Eeag.prog w = .ok (54, .pointer (some ⟨c, 0, none⟩)) w := by kernel_rfl

theorem IsM.len_le {w : World} {b n : Nat} {m : M} (h : IsM w b n m) : m.length ≤ n := by
  obtain ⟨D, h1, h2, _⟩ := h.owns
  rw [← h2]
  exact h1.size_le

/-- The map stays what it is while a block that is no row of cells is written. -/
theorem IsM.grownBut {w w' : World} {b n r : Nat} {m : M} (h : IsM w b n m) (hg : w.grownBy w' (some r)) (hne : b ≠ r) (hr : ∀ o, w.cell? ⟨r, o, none⟩ = none) : IsM w' b n m where
  tidy := h.tidy
  owns := by
    obtain ⟨D, h1, h2, h3, h4⟩ := h.owns
    refine ⟨D, h1.kept hg (by simpa using hne), h2, h3, fun k v hk => ?_⟩
    obtain ⟨c, hc, hcell⟩ := h4 k v hk
    refine ⟨c, hc, hg.cell hcell (fun e => ?_)⟩
    cases e
    rw [hr] at hcell
    cases hcell

theorem ranges_no_cell {w : World} {b r n cnt : Nat} {D : DataW Nat} {left : Lit → Bool} (h : w.ranges Eeag.prog 9 intElem b r n D left cnt) (o : Nat) : w.cell? ⟨r, o, none⟩ = none := by
  obtain ⟨es, clock, since, seen, c0, _, _, _, _, hr, _⟩ := h
  simp [World.cell?, hr]

/-- Nothing has been laid in just if nothing has come. -/
def Cnt (mo m : M) (cnt : Nat) : Prop := mo.length = 0 ↔ cnt = m.length

theorem cnt_put (mo m : M) (k : List UInt8) (v : Int) {cnt cnt1 : Nat} (h1 : cnt1 < cnt) (h2 : cnt ≤ m.length) : Cnt (putM mo k v) m cnt1 := by
  unfold Cnt putM
  rw [List.length_cons]
  omega

theorem cnt_end {mo m : M} (h : Cnt mo m 0) : mo.length = 0 ↔ m.length = 0 := by
  unfold Cnt at h
  omega

set_option maxHeartbeats 400000 in
theorem copy27 (p n : Nat) (m : M) (w : World) (ho : IsObj w p n m) (hn : n ≤ 4096) :
    Calls Eeag.prog 27 #[.pointer (some ⟨p, 0, none⟩)] w fun e w' => ∃ q n' m', e = .returned (.iface 32 (.pointer (some ⟨q, 0, none⟩))) ∧ IsObj w' q n' m' ∧ (m'.length = 0 ↔ m.length = 0) ∧ w.grownBy w' none := by
  obtain ⟨B, hc, hM⟩ := ho.ex
  have hmm := @run_makeMap Eeag.prog
  have hml := hM.len_le
  obtain ⟨D, hown, F⟩ := hM.facts
  have hbl := hown.lt
  have hpl : p < w.heap.size := World.block_lt_of_cell? _ _ hc
  have e1 : (w.alloc (.map #[] 0)).heap.size = w.heap.size + 1 := by simp
  clear ho hM
  go_enter Eeag.func27, Eeag.ntmps27
  go_wp2_with (first
    | (at_range; refine wpList_range_own _ rfl _ 42 rfl 9 50 law Eeag.underlying42 _ B n D rfl (hown.alloc _) ?_; intro w0 hrg0 hg0 hs0)
    | go_in)
  go_frame
  rw [e1] at hrg0 hs0 ⊢
  go_loopw [4] (fun _ wr => ∃ (left : Lit → Bool) (cnt : Nat) (mo : M), wr.ranges Eeag.prog 9 intElem B (w.heap.size + 1) n D left cnt ∧ cnt ≤ m.length ∧ IsM wr w.heap.size (m.length - cnt) mo ∧ Cnt mo m cnt ∧ w.grownBy wr none)
    (fun _ wr => wr.rangeLeft B (w.heap.size + 1))
  case atStart =>
    exact ⟨_, _, [], hrg0, by rw [F.size]; exact Nat.le_refl _, ((IsM.made w).grown hg0).mono (Nat.zero_le _), by unfold Cnt; rw [F.size]; simp, grow2 (World.grownBy_alloc _ _ _) hg0⟩
  case round =>
    clear hrg0 hg0 hs0 hmm e1
    obtain ⟨left, cnt, mo, hrg, hcm, hMo, hC, hg⟩ := hrel
    go_wp2_with (first
      | (at_next; refine wpList_next_ints _ rfl _ rfl B (w.heap.size + 1) n D left cnt rfl hrg ?_ ?_)
      | go_in)
    · intro hc0 hl0
      subst hc0
      have HC : Hid (mo.length = 0 ↔ m.length = 0) := cnt_end hC
      clear hl0 hrg hC
      go_wp2
      go_ret
      exact ⟨_, _, mo, rfl, ⟨w.heap.size, by simp, hMo.grown (World.grownBy_alloc _ _ _)⟩, HC.out, grow2 hg (World.grownBy_alloc _ _ _)⟩
    · intro x c w1 cnt1 hx hlx hat hrg1 hlt hg1 hs1 hen
      obtain ⟨v, hv, hcv⟩ := F.at hat
      have hgw : w.grownBy w1 none := hg.andThen hg1 (fun j hj => by cases hj; exact Or.inl (Nat.le_succ _))
      have hcv1 := hgw.cell hcv (by simp)
      have hMo1 := hMo.grownBut hg1 (by omega) (ranges_no_cell hrg)
      have hme := meth_Copy
      clear hlx hat hg1 hs1 hcv hMo hg
      go_wp2_with fail
      refine (intCopy c v _ hcv1).mono ?_
      rintro e w2 ⟨c2, rfl, hcc, hg2⟩
      obtain ⟨w3, hrun, hMo3, hg3⟩ := (hMo1.grown hg2).store (by unfold maxLen; omega) hx hcc
      have hrg3 := (hrg1.kept hg2 (by simp) (by simp)).kept hg3 (fun e => by have := Option.some.inj e; omega) (fun e => by have := Option.some.inj e; omega)
      have hgw3 : w.grownBy w3 none := (grow2 hgw hg2).andThen hg3 (fun j hj => by cases hj; exact Or.inl (Nat.le_refl _))
      have hC3 := cnt_put mo m x.data.toList v hlt hcm
      clear hrg1 hgw hcv1 hMo1 hcc hg2 hg3 hen hC hv
      go_wp2_with fail
      go_roundw
      case rel => exact ⟨_, cnt1, _, hrg3, by omega, hMo3.mono (by omega), hC3, hgw3⟩
      case measure => rw [hrg3.left_eq, hrg.left_eq]; exact hlt

theorem assert32_any (a : Addr) (w : World) : (Instr.typeAssert (.iface 32 (.pointer (some a))) 50 32 true).run Eeag.prog w = .ok (.tuple #[.pointer (some a), .bool true]) w := by kernel_rfl

set_option maxHeartbeats 400000 in
theorem copy16 (p n : Nat) (m : M) (w : World) (ho : IsObj w p n m) (hn : n ≤ 4096) :
    Calls Eeag.prog 16 #[.pointer (some ⟨p, 0, none⟩)] w fun e w' => ∃ q n' m', e = .returned (.tuple #[.pointer (some ⟨q, 0, none⟩), .bool true]) ∧ IsObj w' q n' m' ∧ (m'.length = 0 ↔ m.length = 0) ∧ w.grownBy w' none := by
  have hta := assert32_any
  go_enter Eeag.func16, Eeag.ntmps16
  go_wp2_with fail
  refine (copy27 p n m _ ho hn).mono ?_
  rintro e w1 ⟨q, n', m', rfl, hO, hiff, hg⟩
  have HI : Hid (m'.length = 0 ↔ m.length = 0) := hiff
  clear hiff
  go_wp2_with fail
  go_ret2
  exact ⟨q, n', m', rfl, hO, HI.out, hg⟩

end Go.Proofs.Yoeeaw
