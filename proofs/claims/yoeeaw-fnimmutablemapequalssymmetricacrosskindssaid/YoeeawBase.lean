/-
  THE BASE: how a slice of strings or of int64 lies in memory; the guards on lengths (functions 7, 8, 11, 14).
-/
import Derived.Test.YoeeawRows
import Derived.WalkKit
import Derived.WalkSpells
import Derived.WalkLawsBesides
namespace Go.Proofs.Yoeeaw
open Go.RowKit

/-- At address a lie the strings ss. -/
def SegS (w : World) (a : Option Addr) (ss : List ByteArray) : Prop :=
  ∀ j, j < ss.length → ∃ b off, a = some ⟨b, off, none⟩ ∧ w.cell? ⟨b, off + j, none⟩ = some (.string (ss.getD j ByteArray.empty))

/-- At address a lie the numbers zs. -/
def SegI (w : World) (a : Option Addr) (zs : List Int) : Prop :=
  ∀ j, j < zs.length → ∃ b off, a = some ⟨b, off, none⟩ ∧ w.cell? ⟨b, off + j, none⟩ = some (.int .i64 (zs.getD j 0))

/-- The same, without a list: at each of the first n places lies some string. -/
def SomeS (w : World) (a : Option Addr) (n : Nat) : Prop :=
  ∀ j, j < n → ∃ b off s, a = some ⟨b, off, none⟩ ∧ w.cell? ⟨b, off + j, none⟩ = some (.string s)

theorem SegS.some {w : World} {a : Option Addr} {ss : List ByteArray} (h : SegS w a ss) : SomeS w a ss.length := fun j hj => by
  obtain ⟨b, off, ha, hc⟩ := h j hj
  exact ⟨b, off, _, ha, hc⟩

theorem SegS.grown {w w' : World} {a : Option Addr} {ss : List ByteArray} (h : SegS w a ss) (hg : w.grownBy w' none) : SegS w' a ss := fun j hj => by
  obtain ⟨b, off, ha, hc⟩ := h j hj
  exact ⟨b, off, ha, hg.cell hc (by simp)⟩
theorem SegI.grown {w w' : World} {a : Option Addr} {zs : List Int} (h : SegI w a zs) (hg : w.grownBy w' none) : SegI w' a zs := fun j hj => by
  obtain ⟨b, off, ha, hc⟩ := h j hj
  exact ⟨b, off, ha, hg.cell hc (by simp)⟩

/-- It returned a bool, no matter which. -/
def BoolRet (e : Ending) : Prop := ∃ b, e = .returned (.bool b)
theorem boolRet (b : Bool) : BoolRet (.returned (.bool b)) := ⟨b, rfl⟩
/-- It returned an int, no matter which. -/
def IntRet (e : Ending) : Prop := ∃ x, e = .returned (.int .i64 x)
theorem intRet (x : Int) : IntRet (.returned (.int .i64 x)) := ⟨x, rfl⟩

set_option maxHeartbeats 400000 in
theorem bytes7 (a a' : Option Addr) (n cap n' cap' : Nat) (w : World) (hs : SomeS w a n) :
    Calls Eeag.prog 7 #[.slice a n cap, .slice a' n' cap'] w fun e w' => BoolRet e ∧ w' = w := by
  go_enter Eeag.func7, Eeag.ntmps7
  go_wp2
  · go_ret
    exact ⟨boolRet _, rfl⟩
  go_loop [5, 6] (fun t i => ∃ (x : Int) (k : Nat), k ≤ n ∧ t = .int .i64 x ∧ i = .int .i64 k) (fun _ i => n - (intOf i).toNat)
  case atStart => exact ⟨_, 0, Nat.zero_le _, rfl, rfl⟩
  case round =>
    obtain ⟨x, k, hk, rfl, rfl⟩ := hrel
    by_cases hlt : k < n
    · obtain ⟨b, off, s, rfl, hc⟩ := hs k hlt
      go_wp2
      · go_ret
        exact ⟨boolRet _, rfl⟩
      · go_ret
        exact ⟨boolRet _, rfl⟩
      · go_round
        case rel => exact ⟨_, k + 1, by omega, rfl, by go_num⟩
        case measure => simp [intOf]; omega
    · go_wp2
      all_goals (go_ret; exact ⟨boolRet _, rfl⟩)

set_option maxHeartbeats 400000 in
theorem bytes14 (a a' : Option Addr) (n cap n' cap' : Nat) (w : World) (hs : SomeS w a n) :
    Calls Eeag.prog 14 #[.slice a n cap, .slice a' n' cap'] w fun e w' => BoolRet e ∧ w' = w := by
  go_enter Eeag.func14, Eeag.ntmps14
  go_wp2
  · go_ret
    exact ⟨boolRet _, rfl⟩
  go_loop [5, 6] (fun t i => ∃ (x : Int) (k : Nat), k ≤ n ∧ t = .int .i64 x ∧ i = .int .i64 k) (fun _ i => n - (intOf i).toNat)
  case atStart => exact ⟨_, 0, Nat.zero_le _, rfl, rfl⟩
  case round =>
    obtain ⟨x, k, hk, rfl, rfl⟩ := hrel
    by_cases hlt : k < n
    · obtain ⟨b, off, s, rfl, hc⟩ := hs k hlt
      go_wp2
      · go_ret
        exact ⟨boolRet _, rfl⟩
      · go_ret
        exact ⟨boolRet _, rfl⟩
      · go_round
        case rel => exact ⟨_, k + 1, by omega, rfl, by go_num⟩
        case measure => simp [intOf]; omega
    · go_wp2
      all_goals (go_ret; exact ⟨boolRet _, rfl⟩)

set_option maxHeartbeats 400000 in
theorem bytes8 (a a' : Option Addr) (n cap n' cap' : Nat) (w : World) (hn : n ≤ 4096) (hs : SomeS w a n) :
    Calls Eeag.prog 8 #[.slice a n cap, .slice a' n' cap'] w fun e w' => IntRet e ∧ w' = w := by
  go_enter Eeag.func8, Eeag.ntmps8
  go_wp2
  go_loop [5, 6] (fun t i => ∃ (x : Int) (k : Nat), k ≤ n ∧ t = .int .i64 x ∧ i = .int .i64 k) (fun _ i => n - (intOf i).toNat)
  case atStart => exact ⟨_, 0, Nat.zero_le _, rfl, rfl⟩
  case round =>
    obtain ⟨x, k, hk, rfl, rfl⟩ := hrel
    by_cases hlt : k < n
    · obtain ⟨b, off, s, rfl, hc⟩ := hs k hlt
      go_wp2
      go_round
      case rel => exact ⟨_, k + 1, by omega, rfl, by go_num⟩
      case measure => simp [intOf]; omega
    · go_wp2
      go_ret
      exact ⟨intRet _, rfl⟩

set_option maxHeartbeats 400000 in
theorem n11 (a a' : Option Addr) (n cap n' cap' : Nat) (w : World) :
    Calls Eeag.prog 11 #[.slice a n cap, .slice a' n' cap'] w fun e w' => e = .returned (.int .i64 (min n n' : Nat)) ∧ w' = w := by
  by_cases h : n' < n
  · have e1 : min n n' = n' := by omega
    rw [e1]
    go_enter Eeag.func11, Eeag.ntmps11
    go_wp2
    go_ret
    exact ⟨rfl, rfl⟩
  · have e1 : min n n' = n := by omega
    rw [e1]
    go_enter Eeag.func11, Eeag.ntmps11
    go_wp2
    go_ret
    exact ⟨rfl, rfl⟩

end Go.Proofs.Yoeeaw
