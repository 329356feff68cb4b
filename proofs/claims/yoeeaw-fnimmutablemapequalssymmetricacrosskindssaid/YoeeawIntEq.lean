/-
  (*Int).Equals (55), (*Int).Copy (54).
-/
import Derived.Test.YoeeawObj
import Derived.Deep.QuietTactic
import Derived.BigQuiet
namespace Go.Proofs.Yoeeaw
open Go.RowKit Go.WideMaps Go.Maps

theorem assert57_nil (w : World) : (Instr.typeAssert .nilIface 50 57 true).run Eeag.prog w = .ok (.tuple #[.pointer none, .bool false]) w := by kernel_rfl
theorem assert57 (a : Addr) (w : World) : (Instr.typeAssert (.iface 57 (.pointer (some a))) 50 57 true).run Eeag.prog w = .ok (.tuple #[.pointer (some a), .bool true]) w := by kernel_rfl

set_option maxHeartbeats 400000 in
theorem intEq_nil (c : Nat) (w : World) :
    Calls Eeag.prog 55 #[.pointer (some ⟨c, 0, none⟩), .nilIface] w fun e w' => e = .returned (.bool false) ∧ w' = w := by
  have hta := assert57_nil
  go_enter Eeag.func55, Eeag.ntmps55
  go_wp2
  go_ret
  exact ⟨rfl, rfl⟩

theorem grownBy_drewN (w : World) (n : Nat) : w.grownBy (w.drewN n) none := ⟨rfl, rfl, rfl, Nat.le_refl _, fun _ _ _ => rfl⟩

set_option maxHeartbeats 400000 in
theorem intEq (c c' : Nat) (v u : Int) (w : World) (h : w.cell? ⟨c, 0, none⟩ = some (.int .i64 v)) (h' : w.cell? ⟨c', 0, none⟩ = some (.int .i64 u)) :
    Calls Eeag.prog 55 #[.pointer (some ⟨c, 0, none⟩), .iface 57 (.pointer (some ⟨c', 0, none⟩))] w fun e w' => e = .returned (.bool (v == u)) ∧ w.grownBy w' none := by
  have hta := assert57
  go_enter Eeag.func55, Eeag.ntmps55
  go_wp2
  go_quiet (fail)
  go_wp2
  go_ret
  exact ⟨rfl, grownBy_drewN _ _⟩

set_option maxHeartbeats 400000 in
theorem intCopy (c : Nat) (v : Int) (w : World) (h : w.cell? ⟨c, 0, none⟩ = some (.int .i64 v)) :
    Calls Eeag.prog 54 #[.pointer (some ⟨c, 0, none⟩)] w fun e w' => ∃ c', e = .returned (.iface 57 (.pointer (some ⟨c', 0, none⟩))) ∧ w'.cell? ⟨c', 0, none⟩ = some (.int .i64 v) ∧ w.grownBy w' none := by
  go_enter Eeag.func54, Eeag.ntmps54
  go_wp2
  go_ret
  exact ⟨_, rfl, by simp, World.grownBy_alloc _ _ _⟩

end Go.Proofs.Yoeeaw
