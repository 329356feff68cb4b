/-
  FnImmutableMapIsFalsyExact (3): the walk.
-/
import Derived.Test.YoeeawObj
namespace Go.Proofs.Yoeeaw
open Go.RowKit Go.WideMaps Go.Maps

set_option maxHeartbeats 400000 in
theorem exact3 (a a' : Option Addr) (ss : List ByteArray) (zs : List Int) (cap cap' : Nat) (w : World) (hs : SegS w a ss) (hz : SegI w a' zs) (hl : ∀ s ∈ ss, s.size ≤ maxLen) :
    Calls Eeag.prog 3 #[.slice a ss.length cap, .slice a' zs.length cap'] w fun e w' => e = .returned (.bool true) ∧ w.grownBy w' none := by
  go_enter Eeag.func3, Eeag.ntmps3
  go_wp2_with fail
  refine (bytes7 _ _ _ _ _ _ _ hs.some).mono ?_
  rintro e w1 ⟨⟨b, rfl⟩, rfl⟩
  cases b
  · go_wp2_with fail
    go_ret
    exact ⟨rfl, grownNone (Below.refl _ _)⟩
  by_cases h1 : 4096 < ss.length
  · have h1' : decide ((4096 : Int) < (ss.length : Int)) = true := decide_eq_true (by omega)
    go_wp2_with fail
    go_ret
    exact ⟨rfl, grownNone (Below.refl _ _)⟩
  by_cases h2 : 4096 < zs.length
  · have h1' : decide ((4096 : Int) < (ss.length : Int)) = false := decide_eq_false (by omega)
    have h2' : decide ((4096 : Int) < (zs.length : Int)) = true := decide_eq_true (by omega)
    go_wp2_with fail
    go_ret
    exact ⟨rfl, grownNone (Below.refl _ _)⟩
  have h1' : decide ((4096 : Int) < (ss.length : Int)) = false := decide_eq_false (by omega)
  have h2' : decide ((4096 : Int) < (zs.length : Int)) = false := decide_eq_false (by omega)
  go_wp2_with fail
  refine (bytes8 _ _ _ _ _ _ _ (by omega) hs.some).mono ?_
  rintro e w2 ⟨⟨x, rfl⟩, rfl⟩
  by_cases hx : 1048576 < x
  · go_wp2_with fail
    go_ret
    exact ⟨rfl, grownNone (Below.refl _ _)⟩
  go_wp2_with fail
  refine (cloneS a ss cap _ (by omega) hs).mono ?_
  rintro e w3 ⟨a3, c3, rfl, hs3, hg3⟩
  have hz3 := hz.grown hg3
  go_wp2_with fail
  refine (cloneI a' zs cap' _ (by omega) hz3).mono ?_
  rintro e w4 ⟨a4, c4, rfl, hz4, hg4⟩
  have hs4 := hs3.grown hg4
  have hg5 := grow2 hg3 hg4
  clear hs hz hz3 hs3 hg3 hg4
  go_wp2_with fail
  refine (n11 _ _ _ _ _ _ _).mono ?_
  rintro e w5 ⟨rfl, rfl⟩
  go_wp2_with fail
  refine (imm12 a3 a4 ss zs c3 c4 _ _ rfl (by omega) hs4 hz4 hl).mono ?_
  rintro e w6 ⟨p, rfl, hO, hg6⟩
  go_wp2_with fail
  refine (falsy13 _ _ _ _ hO).mono ?_
  rintro e w7 ⟨rfl, rfl⟩
  have hfin : ((((buildM (keysOf ss) zs (min ss.length zs.length)).length : Nat) : Int) == 0) = (((min ss.length zs.length : Nat) : Int) == 0) := by
    rw [Bool.eq_iff_iff]
    simp only [beq_iff_eq]
    have := length_build_pos (keysOf ss) zs (min ss.length zs.length)
    omega
  rw [hfin]
  clear hfin hO
  go_wp2_with fail
  go_ret
  exact ⟨by simp, grow2 hg5 hg6⟩

end Go.Proofs.Yoeeaw
