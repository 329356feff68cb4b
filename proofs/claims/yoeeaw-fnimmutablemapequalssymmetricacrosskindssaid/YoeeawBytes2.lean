/-
  The guards on lengths of the laws over two maps (functions 18, 20).
-/
import Derived.Test.YoeeawBase
namespace Go.Proofs.Yoeeaw
open Go.RowKit

set_option maxHeartbeats 400000 in
theorem bytes18 (a a' c c' : Option Addr) (n n' l l' k1 k2 k3 k4 : Nat) (w : World) (hs : SomeS w a n) (ht : SomeS w c l) :
    Calls Eeag.prog 18 #[.slice a n k1, .slice a' n' k2, .slice c l k3, .slice c' l' k4] w fun e w' => BoolRet e ∧ w' = w := by
  go_enter Eeag.func18, Eeag.ntmps18
  go_wp2
  · go_ret
    exact ⟨boolRet _, rfl⟩
  go_loop [9, 10] (fun t i => ∃ (x : Int) (k : Nat), k ≤ n ∧ t = .int .i64 x ∧ i = .int .i64 k) (fun _ i => n - (intOf i).toNat)
  case atStart => exact ⟨_, 0, Nat.zero_le _, rfl, rfl⟩
  case round =>
    obtain ⟨x, k, hk, rfl, rfl⟩ := hrel
    by_cases hlt : k < n
    · obtain ⟨b, off, s, rfl, hc⟩ := hs k hlt
      go_wp2
      · go_ret
        exact ⟨boolRet _, rfl⟩
      · go_ret
        exact ⟨boolRet _, rfl⟩
      · go_round
        case rel => exact ⟨_, k + 1, by omega, rfl, by go_num⟩
        case measure => simp [intOf]; omega
    · go_wp2
      · go_ret
        exact ⟨boolRet _, rfl⟩
      · go_ret
        exact ⟨boolRet _, rfl⟩
      · go_ret
        exact ⟨boolRet _, rfl⟩
      · go_ret
        exact ⟨boolRet _, rfl⟩
      go_loop [9, 11] (fun t i => ∃ (x : Int) (k : Nat), k ≤ l ∧ t = .int .i64 x ∧ i = .int .i64 k) (fun _ i => l - (intOf i).toNat)
      case atStart => exact ⟨_, 0, Nat.zero_le _, rfl, rfl⟩
      case round =>
        obtain ⟨x2, k2, hk2, rfl, rfl⟩ := hrel
        by_cases hlt2 : k2 < l
        · obtain ⟨b, off, s, rfl, hc⟩ := ht k2 hlt2
          go_wp2
          · go_ret
            exact ⟨boolRet _, rfl⟩
          · go_ret
            exact ⟨boolRet _, rfl⟩
          · go_round
            case rel => exact ⟨_, k2 + 1, by omega, rfl, by go_num⟩
            case measure => simp [intOf]; omega
        · go_wp2
          all_goals (go_ret; exact ⟨boolRet _, rfl⟩)

set_option maxHeartbeats 400000 in
theorem bytes20 (a a' c c' : Option Addr) (n n' l l' k1 k2 k3 k4 : Nat) (z : Int) (w : World) (hs : SomeS w a n) (ht : SomeS w c l) :
    Calls Eeag.prog 20 #[.slice a n k1, .slice a' n' k2, .slice c l k3, .slice c' l' k4, .int .i64 z] w fun e w' => BoolRet e ∧ w' = w := by
  go_enter Eeag.func20, Eeag.ntmps20
  go_wp2
  · go_ret
    exact ⟨boolRet _, rfl⟩
  go_loop [11, 12] (fun t i => ∃ (x : Int) (k : Nat), k ≤ n ∧ t = .int .i64 x ∧ i = .int .i64 k) (fun _ i => n - (intOf i).toNat)
  case atStart => exact ⟨_, 0, Nat.zero_le _, rfl, rfl⟩
  case round =>
    obtain ⟨x, k, hk, rfl, rfl⟩ := hrel
    by_cases hlt : k < n
    · obtain ⟨b, off, s, rfl, hc⟩ := hs k hlt
      go_wp2
      · go_ret
        exact ⟨boolRet _, rfl⟩
      · go_ret
        exact ⟨boolRet _, rfl⟩
      · go_round
        case rel => exact ⟨_, k + 1, by omega, rfl, by go_num⟩
        case measure => simp [intOf]; omega
    · go_wp2
      · go_ret
        exact ⟨boolRet _, rfl⟩
      · go_ret
        exact ⟨boolRet _, rfl⟩
      · go_ret
        exact ⟨boolRet _, rfl⟩
      · go_ret
        exact ⟨boolRet _, rfl⟩
      go_loop [11, 13] (fun t i => ∃ (x : Int) (k : Nat), k ≤ l ∧ t = .int .i64 x ∧ i = .int .i64 k) (fun _ i => l - (intOf i).toNat)
      case atStart => exact ⟨_, 0, Nat.zero_le _, rfl, rfl⟩
      case round =>
        obtain ⟨x2, k2, hk2, rfl, rfl⟩ := hrel
        by_cases hlt2 : k2 < l
        · obtain ⟨b, off, s, rfl, hc⟩ := ht k2 hlt2
          go_wp2
          · go_ret
            exact ⟨boolRet _, rfl⟩
          · go_ret
            exact ⟨boolRet _, rfl⟩
          · go_round
            case rel => exact ⟨_, k2 + 1, by omega, rfl, by go_num⟩
            case measure => simp [intOf]; omega
        · go_wp2
          all_goals (go_ret; exact ⟨boolRet _, rfl⟩)

end Go.Proofs.Yoeeaw
