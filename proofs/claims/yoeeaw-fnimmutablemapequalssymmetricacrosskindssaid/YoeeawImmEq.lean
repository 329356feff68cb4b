/-
  ZZImmEqualsImm (15).
-/
import Derived.Test.YoeeawEquals
namespace Go.Proofs.Yoeeaw
open Go.RowKit

set_option maxHeartbeats 400000 in
theorem immEqImm15 (p p2 n n2 : Nat) (m m2 : M) (w : World) (ho : IsObj w p n m) (ho2 : IsObj w p2 n2 m2) :
    Calls Eeag.prog 15 #[.pointer (some ⟨p, 0, none⟩), .pointer (some ⟨p2, 0, none⟩)] w fun e w' => e = .returned (.bool (eqM m m2)) ∧ w.grownBy w' none := by
  go_enter Eeag.func15, Eeag.ntmps15
  go_wp2_with fail
  refine (eq26_imm p p2 n n2 m m2 _ ho ho2).mono ?_
  rintro e w1 ⟨rfl, hg⟩
  go_wp2_with fail
  go_ret
  exact ⟨rfl, hg⟩

end Go.Proofs.Yoeeaw
