/-
  (*ImmutableMap).Equals (26), (*Map).Equals (31).
-/
import Derived.Test.YoeeawRange
namespace Go.Proofs.Yoeeaw
open Go.RowKit Go.WideMaps Go.Maps

theorem assert32_32 (a : Addr) (w : World) : (Instr.typeAssert (.iface 32 (.pointer (some a))) 50 32 true).run Eeag.prog w = .ok (.tuple #[.pointer (some a), .bool true]) w := by kernel_rfl
theorem assert28_32 (a : Addr) (w : World) : (Instr.typeAssert (.iface 28 (.pointer (some a))) 50 32 true).run Eeag.prog w = .ok (.tuple #[.pointer none, .bool false]) w := by kernel_rfl
theorem assert28_28 (a : Addr) (w : World) : (Instr.typeAssert (.iface 28 (.pointer (some a))) 50 28 true).run Eeag.prog w = .ok (.tuple #[.pointer (some a), .bool true]) w := by kernel_rfl
theorem assert57_32 (a : Addr) (w : World) : (Instr.typeAssert (.iface 57 (.pointer (some a))) 50 32 true).run Eeag.prog w = .ok (.tuple #[.pointer none, .bool false]) w := by kernel_rfl
theorem assert57_28 (a : Addr) (w : World) : (Instr.typeAssert (.iface 57 (.pointer (some a))) 50 28 true).run Eeag.prog w = .ok (.tuple #[.pointer none, .bool false]) w := by kernel_rfl

theorem meth_Equals (c : Nat) (w : World) : (method 190 57 (.pointer (some ⟨c, 0, none⟩)) "Equals").run Eeag.prog w = .ok (55, .pointer (some ⟨c, 0, none⟩)) w := by kernel_rfl

theorem ret_bool {a b : Bool} (h : a = b) : Ending.returned (.bool a) = .returned (.bool b) := by rw [h]

set_option maxHeartbeats 400000 in
theorem eq26_imm (p p2 n n2 : Nat) (m m2 : M) (w : World) (ho : IsObj w p n m) (ho2 : IsObj w p2 n2 m2) :
    Calls Eeag.prog 26 #[.pointer (some ⟨p, 0, none⟩), .iface 28 (.pointer (some ⟨p2, 0, none⟩))] w fun e w' => e = .returned (.bool (eqM m m2)) ∧ w.grownBy w' none := by
  obtain ⟨B, hc, hM⟩ := ho.ex
  obtain ⟨B2, hc2, hM2⟩ := ho2.ex
  have hlen := hM.len
  have hlen2 := hM2.len
  have t1 := assert28_32
  have t2 := assert28_28
  by_cases hll : m.length = m2.length
  · have hb : ((m.length : Int) != (m2.length : Int)) = false := by simp [hll]
    obtain ⟨D, hown, F⟩ := hM.facts
    have htd := hM.tidy
    have HL : Hid (m.length = m2.length) := hll
    clear hll ho ho2
    go_enter Eeag.func26, Eeag.ntmps26
    go_wp2_with (first
      | (at_range; refine wpList_range_own _ rfl _ 42 rfl 9 50 law Eeag.underlying42 _ B n D rfl hown ?_; intro w0 hrg0 hg0 hs0)
      | go_in)
    go_frame
    clear hlen hlen2 t1 t2 hown hM
    go_loopw [9] (fun _ wr => ∃ (left : Lit → Bool) (cnt : Nat), wr.ranges Eeag.prog 9 intElem B w.heap.size n D left cnt ∧ Agr m m2 left ∧ w.grownBy wr none) (fun _ wr => wr.rangeLeft B w.heap.size)
    case atStart => exact ⟨_, _, hrg0, agr_start F m2, hg0⟩
    case round =>
      clear hrg0 hg0 hs0
      obtain ⟨left, cnt, hrg, hA, hg⟩ := hrel
      go_wp2_with (first
        | (at_next; refine wpList_next_ints _ rfl _ rfl B w.heap.size n D left cnt rfl hrg ?_ ?_)
        | go_in)
      · intro hc0 hl0
        have HF : Hid (eqM m m2 = true) := eqM_true htd HL.out (fun k v hk => hA k v hk (hl0 _))
        clear hl0 hrg
        go_wp2
        go_ret
        exact ⟨ret_bool HF.out.symm, hg⟩
      · intro x c w1 cnt1 hx hlx hat hrg1 hlt hg1 hs1 hen
        obtain ⟨v, hv, hcv⟩ := F.at hat
        have hgw : w.grownBy w1 none := hg.andThen hg1 (fun j hj => by cases hj; exact Or.inl (Nat.le_refl _))
        have hcv1 := hgw.cell hcv (by simp)
        have hM21 := hM2.grown hgw
        clear hlx hat hg1 hs1 hcv
        cases hu : getM m2 x.data.toList with
        | none =>
          have hlk := hM21.look_none hx hu
          have HF : Hid (eqM m m2 = false) := eqM_false hv (by rw [hu]; simp)
          clear hu hv hrg1 hrg
          have hme := meth_Equals
          go_wp2_with fail
          refine (intEq_nil c _).mono ?_
          rintro e w2 ⟨rfl, rfl⟩
          go_wp2_with fail
          go_ret
          exact ⟨ret_bool HF.out.symm, hgw⟩
        | some u =>
          obtain ⟨c', hlk, hcu⟩ := hM21.look_some hx hu
          have hme := meth_Equals
          by_cases hvu : v = u
          · have hb2 : (v == u) = true := by simp [hvu]
            have hA1 := agr_step hA hv (by rw [hu, hvu])
            clear hu hv hA
            go_wp2_with fail
            refine (intEq c c' v u _ hcv1 hcu).mono ?_
            rintro e w2 ⟨rfl, hg2⟩
            have hrg2 := hrg1.kept hg2 (by simp) (by simp)
            have hgw2 := grow2 hgw hg2
            clear hgw hg2 hcu hlk hen
            rw [hb2]
            go_wp2_with fail
            go_roundw
            case rel => exact ⟨_, cnt1, hrg2, hA1, hgw2⟩
            case measure => rw [hrg2.left_eq, hrg.left_eq]; exact hlt
          · have hb2 : (v == u) = false := by simp [hvu]
            have HF : Hid (eqM m m2 = false) := eqM_false hv (by rw [hu]; simp; omega)
            clear hu hv hA
            go_wp2_with fail
            refine (intEq c c' v u _ hcv1 hcu).mono ?_
            rintro e w2 ⟨rfl, hg2⟩
            have hgw2 := grow2 hgw hg2
            clear hgw hg2 hcu hlk hen
            rw [hb2]
            go_wp2_with fail
            go_ret
            exact ⟨ret_bool HF.out.symm, hgw2⟩
  · have hb : ((m.length : Int) != (m2.length : Int)) = true := by simp; omega
    rw [eqM_len hll]
    clear hll hM hM2
    go_enter Eeag.func26, Eeag.ntmps26
    go_wp2
    go_ret
    exact ⟨rfl, grownNone (Below.refl _ _)⟩

end Go.Proofs.Yoeeaw
