/-
  ZZImmIntMap (12), ZZMapIntMap (22), IsFalsy (13, 17).
-/
import Derived.Test.YoeeawEntries
namespace Go.Proofs.Yoeeaw
open Go.RowKit Go.WideMaps Go.Maps

/-- Block p holds a struct whose one cell is a map that holds m. -/
structure IsObj (w : World) (p n : Nat) (m : M) : Prop where
  ex : ∃ B, w.cell? ⟨p, 0, none⟩ = some (.map (some B)) ∧ IsM w B n m

theorem IsObj.grown {w w' : World} {p n : Nat} {m : M} (h : IsObj w p n m) (hg : w.grownBy w' none) : IsObj w' p n m := by
  obtain ⟨B, h1, h2⟩ := h.ex
  exact ⟨B, hg.cell h1 (by simp), h2.grown hg⟩

theorem IsObj.mono {w : World} {p n n' : Nat} {m : M} (h : IsObj w p n m) (hn : n ≤ n') : IsObj w p n' m := by
  obtain ⟨B, h1, h2⟩ := h.ex
  exact ⟨B, h1, h2.mono hn⟩

theorem IsM.len {w : World} {b n : Nat} {m : M} (h : IsM w b n m) (ty : TypeId) : (Builtin.len_ #[42] ty #[.map (some b)]).run Eeag.prog w = .ok (.int .i64 (m.length : Nat)) w := by
  obtain ⟨D, h1, h2, _⟩ := h.owns
  rw [← h2]
  exact h1.len Eeag.underlying42 ty

theorem grow2 {a b c : World} (h : a.grownBy b none) (k : b.grownBy c none) : a.grownBy c none := h.andThen k (by simp)

set_option maxHeartbeats 400000 in
theorem imm12 (a a' : Option Addr) (ss : List ByteArray) (zs : List Int) (cap cap' n : Nat) (w : World) (hn : n = min ss.length zs.length) (hn1 : n ≤ 4096) (hs : SegS w a ss) (hz : SegI w a' zs) (hl : ∀ s ∈ ss, s.size ≤ maxLen) :
    Calls Eeag.prog 12 #[.slice a ss.length cap, .slice a' zs.length cap'] w fun e w' => ∃ p, e = .returned (.pointer (some ⟨p, 0, none⟩)) ∧ IsObj w' p n (buildM (keysOf ss) zs n) ∧ w.grownBy w' none := by
  go_enter Eeag.func12, Eeag.ntmps12
  go_wp2_with fail
  refine (entries a a' ss zs cap cap' n _ hn hn1 hs hz hl).mono ?_
  rintro e w1 ⟨B, rfl, hM, hg⟩
  clear hn
  go_wp2_with fail
  go_ret
  exact ⟨_, rfl, ⟨B, by simp, hM.grown (World.grownBy_alloc _ _ _)⟩, grow2 hg (World.grownBy_alloc _ _ _)⟩

set_option maxHeartbeats 400000 in
theorem map22 (a a' : Option Addr) (ss : List ByteArray) (zs : List Int) (cap cap' n : Nat) (w : World) (hn : n = min ss.length zs.length) (hn1 : n ≤ 4096) (hs : SegS w a ss) (hz : SegI w a' zs) (hl : ∀ s ∈ ss, s.size ≤ maxLen) :
    Calls Eeag.prog 22 #[.slice a ss.length cap, .slice a' zs.length cap'] w fun e w' => ∃ p, e = .returned (.pointer (some ⟨p, 0, none⟩)) ∧ IsObj w' p n (buildM (keysOf ss) zs n) ∧ w.grownBy w' none := by
  go_enter Eeag.func22, Eeag.ntmps22
  go_wp2_with fail
  refine (entries a a' ss zs cap cap' n _ hn hn1 hs hz hl).mono ?_
  rintro e w1 ⟨B, rfl, hM, hg⟩
  clear hn
  go_wp2_with fail
  go_ret
  exact ⟨_, rfl, ⟨B, by simp, hM.grown (World.grownBy_alloc _ _ _)⟩, grow2 hg (World.grownBy_alloc _ _ _)⟩

set_option maxHeartbeats 400000 in
theorem falsy13 (p n : Nat) (m : M) (w : World) (h : IsObj w p n m) :
    Calls Eeag.prog 13 #[.pointer (some ⟨p, 0, none⟩)] w fun e w' => e = .returned (.bool (((m.length : Nat) : Int) == 0)) ∧ w' = w := by
  obtain ⟨B, h1, h2⟩ := h.ex
  have hlen := h2.len
  clear h2 h
  go_enter Eeag.func13, Eeag.ntmps13
  go_wp2
  go_ret
  exact ⟨rfl, rfl⟩

set_option maxHeartbeats 400000 in
theorem falsy17 (p n : Nat) (m : M) (w : World) (h : IsObj w p n m) :
    Calls Eeag.prog 17 #[.pointer (some ⟨p, 0, none⟩)] w fun e w' => e = .returned (.bool (((m.length : Nat) : Int) == 0)) ∧ w' = w := by
  obtain ⟨B, h1, h2⟩ := h.ex
  have hlen := h2.len
  clear h2 h
  go_enter Eeag.func17, Eeag.ntmps17
  go_wp2
  go_ret
  exact ⟨rfl, rfl⟩

end Go.Proofs.Yoeeaw
