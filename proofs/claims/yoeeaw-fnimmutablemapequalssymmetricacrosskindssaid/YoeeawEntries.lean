/-
  zzIntEntries (25).
-/
import Derived.Test.YoeeawMaps
namespace Go.Proofs.Yoeeaw
open Go.RowKit Go.WideMaps Go.Maps

/-- The keys' bytes. -/
def keysOf (ss : List ByteArray) : List (List UInt8) := ss.map (fun s => s.data.toList)

theorem keysOf_getD (ss : List ByteArray) (k : Nat) : (keysOf ss).getD k [] = (ss.getD k ByteArray.empty).data.toList := by
  unfold keysOf
  by_cases h : k < ss.length
  · simp [List.getD, h]
  · simp [List.getD, List.getElem?_eq_none (Nat.le_of_not_lt h)]

theorem grownBy_drew (w : World) : w.grownBy w.drew none := ⟨rfl, rfl, rfl, Nat.le_refl _, fun _ _ _ => rfl⟩

/-- What a round makes of the loop's relation. -/
theorem entries_step {w wr w1 : World} {ss : List ByteArray} {zs : List Int} {k : Nat} {s : ByteArray} {v : Int} {o : Obj} (hg : w.grownBy wr none)
    (hM1 : IsM w1 w.heap.size (k + 1) (putM (buildM (keysOf ss) zs k) s.data.toList v)) (hg1 : (wr.alloc o).drew.grownBy w1 (some w.heap.size)) (hs : ss.getD k ByteArray.empty = s) (hz : zs.getD k 0 = v) :
    IsM w1 w.heap.size (k + 1) (buildM (keysOf ss) zs (k + 1)) ∧ w.grownBy w1 none := by
  refine ⟨?_, ((hg.andThen (World.grownBy_alloc wr o none) (by simp)).andThen (grownBy_drew _) (by simp)).andThen hg1 (fun j hj => by cases hj; exact Or.inl (Nat.le_refl _))⟩
  show IsM w1 w.heap.size (k + 1) (putM (buildM (keysOf ss) zs k) ((keysOf ss).getD k []) (zs.getD k 0))
  rw [keysOf_getD, hs, hz]
  exact hM1

set_option maxHeartbeats 400000 in
theorem entries (a a' : Option Addr) (ss : List ByteArray) (zs : List Int) (cap cap' n : Nat) (w : World) (hn : n = min ss.length zs.length) (hn1 : n ≤ 4096) (hs : SegS w a ss) (hz : SegI w a' zs) (hl : ∀ s ∈ ss, s.size ≤ maxLen) :
    Calls Eeag.prog 25 #[.slice a ss.length cap, .slice a' zs.length cap'] w fun e w' => ∃ B, e = .returned (.map (some B)) ∧ IsM w' B n (buildM (keysOf ss) zs n) ∧ w.grownBy w' none := by
  have hmm := @run_makeMap Eeag.prog
  generalize h1 : ss.length = l1 at hn
  generalize h2 : zs.length = l2 at hn
  have H1 : Hid (ss.length = l1) := h1
  have H2 : Hid (zs.length = l2) := h2
  clear h1 h2
  by_cases hlt : l2 < l1
  · have hnl : n = l2 := by omega
    clear hn
    subst hnl
    go_enter Eeag.func25, Eeag.ntmps25
    go_wp2
    clear hmm
    go_loopw [7] (fun i wr => ∃ k : Nat, k ≤ n ∧ i = .int .i64 k ∧ IsM wr w.heap.size k (buildM (keysOf ss) zs k) ∧ w.grownBy wr none) (fun i _ => n - (intOf i).toNat)
    case atStart => exact ⟨0, Nat.zero_le _, rfl, IsM.made _, World.grownBy_alloc _ _ _⟩
    case round =>
      obtain ⟨k, hk, rfl, hM, hg⟩ := hrel
      by_cases hkn : k < n
      · obtain ⟨b, off, rfl, hc⟩ := hs k (by rw [H1.out]; omega)
        obtain ⟨b', off', rfl, hc'⟩ := hz k (by rw [H2.out]; omega)
        have hcx := hg.cell hc (by simp)
        have hcx' := hg.cell hc' (by simp)
        generalize hss : ss.getD k ByteArray.empty = s at hcx
        generalize hzz : zs.getD k 0 = v at hcx'
        have HS : Hid (ss.getD k ByteArray.empty = s) := hss
        have HZ : Hid (zs.getD k 0 = v) := hzz
        clear hss hzz hc hc'
        have hk1 : (k : Int) < l1 := by omega
        have hb : b < wr.heap.size := World.block_lt_of_cell? _ _ hcx
        have hb' : b' < wr.heap.size := World.block_lt_of_cell? _ _ hcx'
        have hsz : s.size ≤ maxLen := by
          rw [← HS.out, List.getD, List.getElem?_eq_getElem (by rw [H1.out]; omega)]
          exact hl _ (List.getElem_mem _)
        obtain ⟨w1, hrun, hM1, hg1⟩ := (hM.grown (World.grownBy_alloc wr (.cells #[.int .i64 v] 59) none)).drawn.store (by unfold maxLen; omega) hsz (c := wr.heap.size) (v := v) (by simp)
        have R := entries_step (hg := hg) (hM1 := hM1) (hg1 := hg1) HS.out HZ.out
        clear hM hM1 hg1 hg
        go_wp2
        go_region
        go_wp2
        go_roundw
        case rel => exact ⟨k + 1, by omega, by go_num, R.1, R.2⟩
        case measure => simp [intOf]; omega
      · have hkn' : k = n := by omega
        subst hkn'
        go_wp2
        go_ret
        exact ⟨_, rfl, hM, hg⟩
  · have hnl : n = l1 := by omega
    clear hn
    subst hnl
    go_enter Eeag.func25, Eeag.ntmps25
    go_wp2
    clear hmm
    go_loopw [7] (fun i wr => ∃ k : Nat, k ≤ n ∧ i = .int .i64 k ∧ IsM wr w.heap.size k (buildM (keysOf ss) zs k) ∧ w.grownBy wr none) (fun i _ => n - (intOf i).toNat)
    case atStart => exact ⟨0, Nat.zero_le _, rfl, IsM.made _, World.grownBy_alloc _ _ _⟩
    case round =>
      obtain ⟨k, hk, rfl, hM, hg⟩ := hrel
      by_cases hkn : k < n
      · obtain ⟨b, off, rfl, hc⟩ := hs k (by rw [H1.out]; omega)
        obtain ⟨b', off', rfl, hc'⟩ := hz k (by rw [H2.out]; omega)
        have hcx := hg.cell hc (by simp)
        have hcx' := hg.cell hc' (by simp)
        generalize hss : ss.getD k ByteArray.empty = s at hcx
        generalize hzz : zs.getD k 0 = v at hcx'
        have HS : Hid (ss.getD k ByteArray.empty = s) := hss
        have HZ : Hid (zs.getD k 0 = v) := hzz
        clear hss hzz hc hc'
        have hk1 : (k : Int) < l2 := by omega
        have hb : b < wr.heap.size := World.block_lt_of_cell? _ _ hcx
        have hb' : b' < wr.heap.size := World.block_lt_of_cell? _ _ hcx'
        have hsz : s.size ≤ maxLen := by
          rw [← HS.out, List.getD, List.getElem?_eq_getElem (by rw [H1.out]; omega)]
          exact hl _ (List.getElem_mem _)
        obtain ⟨w1, hrun, hM1, hg1⟩ := (hM.grown (World.grownBy_alloc wr (.cells #[.int .i64 v] 59) none)).drawn.store (by unfold maxLen; omega) hsz (c := wr.heap.size) (v := v) (by simp)
        have R := entries_step (hg := hg) (hM1 := hM1) (hg1 := hg1) HS.out HZ.out
        clear hM hM1 hg1 hg
        go_wp2
        go_region
        go_wp2
        go_roundw
        case rel => exact ⟨k + 1, by omega, by go_num, R.1, R.2⟩
        case measure => simp [intOf]; omega
      · have hkn' : k = n := by omega
        subst hkn'
        go_wp2
        go_ret
        exact ⟨_, rfl, hM, hg⟩

end Go.Proofs.Yoeeaw
