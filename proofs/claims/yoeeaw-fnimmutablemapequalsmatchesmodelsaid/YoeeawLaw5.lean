/-
  FnImmutableMapEqualsMatchesModel (5): the walk.
-/
import Derived.Test.YoeeawImmEq
import Derived.Test.YoeeawModelEq
import Derived.Test.YoeeawBytes2
namespace Go.Proofs.Yoeeaw
open Go.RowKit Go.WideMaps Go.Maps

set_option maxHeartbeats 1000000 in
theorem law5 (a a' c c' : Option Addr) (ss tt : List ByteArray) (zs us : List Int) (k1 k2 k3 k4 : Nat) (w : World) (hs : SegS w a ss) (hz : SegI w a' zs) (ht : SegS w c tt) (hu : SegI w c' us)
    (hl : ∀ s ∈ ss, s.size ≤ maxLen) (hl2 : ∀ s ∈ tt, s.size ≤ maxLen) :
    Calls Eeag.prog 5 #[.slice a ss.length k1, .slice a' zs.length k2, .slice c tt.length k3, .slice c' us.length k4] w fun e w' => e = .returned (.bool true) ∧ w.grownBy w' none := by
  go_enter Eeag.func5, Eeag.ntmps5
  go_wp2_with fail
  refine (bytes18 _ _ _ _ _ _ _ _ _ _ _ _ _ hs.some ht.some).mono ?_
  rintro e w1 ⟨⟨b, rfl⟩, rfl⟩
  cases b
  · go_wp2_with fail
    go_ret
    exact ⟨rfl, grownNone (Below.refl _ _)⟩
  by_cases h1 : 4096 < ss.length
  · have f1 : decide ((4096 : Int) < (ss.length : Int)) = true := decide_eq_true (by omega)
    go_wp2_with fail
    go_ret
    exact ⟨rfl, grownNone (Below.refl _ _)⟩
  by_cases h2 : 4096 < zs.length
  · have f1 : decide ((4096 : Int) < (ss.length : Int)) = false := decide_eq_false (by omega)
    have f2 : decide ((4096 : Int) < (zs.length : Int)) = true := decide_eq_true (by omega)
    go_wp2_with fail
    go_ret
    exact ⟨rfl, grownNone (Below.refl _ _)⟩
  by_cases h3 : 4096 < tt.length
  · have f1 : decide ((4096 : Int) < (ss.length : Int)) = false := decide_eq_false (by omega)
    have f2 : decide ((4096 : Int) < (zs.length : Int)) = false := decide_eq_false (by omega)
    have f3 : decide ((4096 : Int) < (tt.length : Int)) = true := decide_eq_true (by omega)
    go_wp2_with fail
    go_ret
    exact ⟨rfl, grownNone (Below.refl _ _)⟩
  by_cases h4 : 4096 < us.length
  · have f1 : decide ((4096 : Int) < (ss.length : Int)) = false := decide_eq_false (by omega)
    have f2 : decide ((4096 : Int) < (zs.length : Int)) = false := decide_eq_false (by omega)
    have f3 : decide ((4096 : Int) < (tt.length : Int)) = false := decide_eq_false (by omega)
    have f4 : decide ((4096 : Int) < (us.length : Int)) = true := decide_eq_true (by omega)
    go_wp2_with fail
    go_ret
    exact ⟨rfl, grownNone (Below.refl _ _)⟩
  have f1 : decide ((4096 : Int) < (ss.length : Int)) = false := decide_eq_false (by omega)
  have f2 : decide ((4096 : Int) < (zs.length : Int)) = false := decide_eq_false (by omega)
  have f3 : decide ((4096 : Int) < (tt.length : Int)) = false := decide_eq_false (by omega)
  have f4 : decide ((4096 : Int) < (us.length : Int)) = false := decide_eq_false (by omega)
  go_wp2_with fail
  refine (bytes8 _ _ _ _ _ _ _ (by omega) hs.some).mono ?_
  rintro e w2 ⟨⟨x1, rfl⟩, rfl⟩
  go_wp2_with fail
  refine (bytes8 _ _ _ _ _ _ _ (by omega) ht.some).mono ?_
  rintro e w3 ⟨⟨x2, rfl⟩, rfl⟩
  by_cases hx : 1048576 < wrap64 (x1 + x2)
  · go_wp2_with fail
    go_ret
    exact ⟨rfl, grownNone (Below.refl _ _)⟩
  go_wp2_with fail
  refine (cloneS a ss k1 _ (by omega) hs).mono ?_
  rintro e w4 ⟨a4, c4, rfl, hs4, hg4⟩
  have hz4 := hz.grown hg4
  have ht4 := ht.grown hg4
  have hu4 := hu.grown hg4
  clear hs hz ht hu
  go_wp2_with fail
  refine (cloneI a' zs k2 _ (by omega) hz4).mono ?_
  rintro e w5 ⟨a5, c5, rfl, hz5, hg5⟩
  have hs5 := hs4.grown hg5
  have ht5 := ht4.grown hg5
  have hu5 := hu4.grown hg5
  have hG5 := grow2 hg4 hg5
  clear hs4 hz4 ht4 hu4 hg4 hg5
  go_wp2_with fail
  refine (cloneS c tt k3 _ (by omega) ht5).mono ?_
  rintro e w6 ⟨a6, c6, rfl, ht6, hg6⟩
  have hs6 := hs5.grown hg6
  have hz6 := hz5.grown hg6
  have hu6 := hu5.grown hg6
  have hG6 := grow2 hG5 hg6
  clear hs5 hz5 ht5 hu5 hG5 hg6
  go_wp2_with fail
  refine (cloneI c' us k4 _ (by omega) hu6).mono ?_
  rintro e w7 ⟨a7, c7, rfl, hu7, hg7⟩
  have hs7 := hs6.grown hg7
  have hz7 := hz6.grown hg7
  have ht7 := ht6.grown hg7
  have hG7 := grow2 hG6 hg7
  clear hs6 hz6 ht6 hu6 hG6 hg7
  go_wp2_with fail
  refine (imm12 a4 a5 ss zs c4 c5 _ _ rfl (by omega) hs7 hz7 hl).mono ?_
  rintro e w8 ⟨p, rfl, hO8, hg8⟩
  have hs8 := hs7.grown hg8
  have hz8 := hz7.grown hg8
  have ht8 := ht7.grown hg8
  have hu8 := hu7.grown hg8
  have hG8 := grow2 hG7 hg8
  clear hs7 hz7 ht7 hu7 hG7 hg8
  go_wp2_with fail
  refine (imm12 a6 a7 tt us c6 c7 _ _ rfl (by omega) ht8 hu8 hl2).mono ?_
  rintro e w9 ⟨p2, rfl, hP9, hg9⟩
  have hO9 := hO8.grown hg9
  have hs9 := hs8.grown hg9
  have hz9 := hz8.grown hg9
  have ht9 := ht8.grown hg9
  have hu9 := hu8.grown hg9
  have hG9 := grow2 hG8 hg9
  clear hs8 hz8 ht8 hu8 hG8 hg9 hO8
  go_wp2_with fail
  refine (n11 _ _ _ _ _ _ _).mono ?_
  rintro e w10 ⟨rfl, rfl⟩
  go_wp2_with fail
  refine (n11 _ _ _ _ _ _ _).mono ?_
  rintro e w11 ⟨rfl, rfl⟩
  go_wp2_with fail
  refine (modelEq19 a4 a5 a6 a7 ss tt zs us c4 c5 c6 c7 _ _ _ hs9 hz9 ht9 hu9 (by omega) (by omega) (by omega) (by omega) (by omega) (by omega)).mono ?_
  rintro e w12 ⟨rfl, hg12⟩
  have hO12 := hO9.grown hg12
  have hP12 := hP9.grown hg12
  have hG12 := grow2 hG9 hg12
  clear hs9 hz9 ht9 hu9 hG9 hg12 hO9 hP9
  go_wp2_with fail
  refine (immEqImm15 p p2 _ _ _ _ _ hO12 hP12).mono ?_
  rintro e w13 ⟨rfl, hg13⟩
  have hG13 := grow2 hG12 hg13
  clear hO12 hP12 hG12 hg13
  generalize eqM (buildM (keysOf ss) zs (min ss.length zs.length)) (buildM (keysOf tt) us (min tt.length us.length)) = r
  go_wp2_with fail
  go_ret
  exact ⟨by simp, hG13⟩

end Go.Proofs.Yoeeaw
