/-
  FnImmutableMapEqualsSymmetricAcrossKinds (6): the walk.
-/
import Derived.Test.YoeeawImmEq
import Derived.Test.YoeeawEquals2
import Derived.Test.YoeeawPlain2
import Derived.Test.YoeeawBytes2
namespace Go.Proofs.Yoeeaw
open Go.RowKit Go.WideMaps Go.Maps

set_option maxHeartbeats 1000000 in
theorem law6 (a a' c c' : Option Addr) (ss tt : List ByteArray) (zs us : List Int) (k1 k2 k3 k4 : Nat) (x : Int) (w : World) (hs : SegS w a ss) (hz : SegI w a' zs) (ht : SegS w c tt) (hu : SegI w c' us)
    (hl : ∀ s ∈ ss, s.size ≤ maxLen) (hl2 : ∀ s ∈ tt, s.size ≤ maxLen) :
    Calls Eeag.prog 6 #[.slice a ss.length k1, .slice a' zs.length k2, .slice c tt.length k3, .slice c' us.length k4, .int .i64 x] w fun e w' => e = .returned (.bool true) ∧ w.grownBy w' none := by
  go_enter Eeag.func6, Eeag.ntmps6
  go_wp2_with fail
  refine (bytes20 _ _ _ _ _ _ _ _ _ _ _ _ _ _ hs.some ht.some).mono ?_
  rintro e w1 ⟨⟨b, rfl⟩, rfl⟩
  cases b
  · go_wp2_with fail
    go_ret
    exact ⟨rfl, grownNone (Below.refl _ _)⟩
  by_cases h1 : 4096 < ss.length
  · have f1 : decide ((4096 : Int) < (ss.length : Int)) = true := decide_eq_true (by omega)
    go_wp2_with fail
    go_ret
    exact ⟨rfl, grownNone (Below.refl _ _)⟩
  by_cases h2 : 4096 < zs.length
  · have f1 : decide ((4096 : Int) < (ss.length : Int)) = false := decide_eq_false (by omega)
    have f2 : decide ((4096 : Int) < (zs.length : Int)) = true := decide_eq_true (by omega)
    go_wp2_with fail
    go_ret
    exact ⟨rfl, grownNone (Below.refl _ _)⟩
  by_cases h3 : 4096 < tt.length
  · have f1 : decide ((4096 : Int) < (ss.length : Int)) = false := decide_eq_false (by omega)
    have f2 : decide ((4096 : Int) < (zs.length : Int)) = false := decide_eq_false (by omega)
    have f3 : decide ((4096 : Int) < (tt.length : Int)) = true := decide_eq_true (by omega)
    go_wp2_with fail
    go_ret
    exact ⟨rfl, grownNone (Below.refl _ _)⟩
  by_cases h4 : 4096 < us.length
  · have f1 : decide ((4096 : Int) < (ss.length : Int)) = false := decide_eq_false (by omega)
    have f2 : decide ((4096 : Int) < (zs.length : Int)) = false := decide_eq_false (by omega)
    have f3 : decide ((4096 : Int) < (tt.length : Int)) = false := decide_eq_false (by omega)
    have f4 : decide ((4096 : Int) < (us.length : Int)) = true := decide_eq_true (by omega)
    go_wp2_with fail
    go_ret
    exact ⟨rfl, grownNone (Below.refl _ _)⟩
  have f1 : decide ((4096 : Int) < (ss.length : Int)) = false := decide_eq_false (by omega)
  have f2 : decide ((4096 : Int) < (zs.length : Int)) = false := decide_eq_false (by omega)
  have f3 : decide ((4096 : Int) < (tt.length : Int)) = false := decide_eq_false (by omega)
  have f4 : decide ((4096 : Int) < (us.length : Int)) = false := decide_eq_false (by omega)
  go_wp2_with fail
  refine (bytes8 _ _ _ _ _ _ _ (by omega) hs.some).mono ?_
  rintro e w2 ⟨⟨x1, rfl⟩, rfl⟩
  go_wp2_with fail
  refine (bytes8 _ _ _ _ _ _ _ (by omega) ht.some).mono ?_
  rintro e w3 ⟨⟨x2, rfl⟩, rfl⟩
  by_cases hx : 1048576 < wrap64 (x1 + x2)
  · go_wp2_with fail
    go_ret
    exact ⟨rfl, grownNone (Below.refl _ _)⟩
  go_wp2_with fail
  refine (cloneS a ss k1 _ (by omega) hs).mono ?_
  rintro e w4 ⟨a4, c4, rfl, hs4, hg4⟩
  have hz4 := hz.grown hg4
  have ht4 := ht.grown hg4
  have hu4 := hu.grown hg4
  clear hs hz ht hu
  go_wp2_with fail
  refine (cloneI a' zs k2 _ (by omega) hz4).mono ?_
  rintro e w5 ⟨a5, c5, rfl, hz5, hg5⟩
  have hs5 := hs4.grown hg5
  have ht5 := ht4.grown hg5
  have hu5 := hu4.grown hg5
  have hG5 := grow2 hg4 hg5
  clear hs4 hz4 ht4 hu4 hg4 hg5
  go_wp2_with fail
  refine (cloneS c tt k3 _ (by omega) ht5).mono ?_
  rintro e w6 ⟨a6, c6, rfl, ht6, hg6⟩
  have hs6 := hs5.grown hg6
  have hz6 := hz5.grown hg6
  have hu6 := hu5.grown hg6
  have hG6 := grow2 hG5 hg6
  clear hs5 hz5 ht5 hu5 hG5 hg6
  go_wp2_with fail
  refine (cloneI c' us k4 _ (by omega) hu6).mono ?_
  rintro e w7 ⟨a7, c7, rfl, hu7, hg7⟩
  have hs7 := hs6.grown hg7
  have hz7 := hz6.grown hg7
  have ht7 := ht6.grown hg7
  have hG7 := grow2 hG6 hg7
  clear hs6 hz6 ht6 hu6 hG6 hg7
  go_wp2_with fail
  refine (imm12 a4 a5 ss zs c4 c5 _ _ rfl (by omega) hs7 hz7 hl).mono ?_
  rintro e w8 ⟨p, rfl, hO8, hg8⟩
  have hs8 := hs7.grown hg8
  have hz8 := hz7.grown hg8
  have ht8 := ht7.grown hg8
  have hu8 := hu7.grown hg8
  have hG8 := grow2 hG7 hg8
  clear hs7 hz7 ht7 hu7 hG7 hg8
  go_wp2_with fail
  refine (imm12 a6 a7 tt us c6 c7 _ _ rfl (by omega) ht8 hu8 hl2).mono ?_
  rintro e w9 ⟨p2, rfl, hP9, hg9⟩
  have hO9 := hO8.grown hg9
  have hs9 := hs8.grown hg9
  have hz9 := hz8.grown hg9
  have ht9 := ht8.grown hg9
  have hu9 := hu8.grown hg9
  have hG9 := grow2 hG8 hg9
  clear hs8 hz8 ht8 hu8 hG8 hg9 hO8
  have T1 := tidy_build (keysOf ss) zs (min ss.length zs.length)
  have T2 := tidy_build (keysOf tt) us (min tt.length us.length)
  go_wp2_with fail
  refine (immEqImm15 p p2 _ _ _ _ _ hO9 hP9).mono ?_
  rintro e w10 ⟨rfl, hg10⟩
  have hO10 := hO9.grown hg10
  have hP10 := hP9.grown hg10
  have hs10 := hs9.grown hg10
  have hz10 := hz9.grown hg10
  have ht10 := ht9.grown hg10
  have hu10 := hu9.grown hg10
  have hG10 := grow2 hG9 hg10
  clear hs9 hz9 ht9 hu9 hG9 hg10 hO9 hP9
  go_wp2_with fail
  refine (immEqImm15 p2 p _ _ _ _ _ hP10 hO10).mono ?_
  rintro e w11 ⟨rfl, hg11⟩
  rw [eqM_symm T1 T2]
  have hO11 := hO10.grown hg11
  have hP11 := hP10.grown hg11
  have hs11 := hs10.grown hg11
  have hz11 := hz10.grown hg11
  have ht11 := ht10.grown hg11
  have hu11 := hu10.grown hg11
  have hG11 := grow2 hG10 hg11
  clear hs10 hz10 ht10 hu10 hG10 hg11 hO10 hP10
  generalize hr : eqM (buildM (keysOf ss) zs (min ss.length zs.length)) (buildM (keysOf tt) us (min tt.length us.length)) = r
  have HR : Hid (eqM (buildM (keysOf ss) zs (min ss.length zs.length)) (buildM (keysOf tt) us (min tt.length us.length)) = r) := hr
  clear hr
  have hrr : (r != r) = false := by simp
  go_wp2_with fail
  refine (map22 a6 a7 tt us c6 c7 _ _ rfl (by omega) ht11 hu11 hl2).mono ?_
  rintro e w12 ⟨q, rfl, hQ12, hg12⟩
  have hO12 := hO11.grown hg12
  have hP12 := hP11.grown hg12
  have hs12 := hs11.grown hg12
  have hz12 := hz11.grown hg12
  have hG12 := grow2 hG11 hg12
  clear hs11 hz11 ht11 hu11 hG11 hg12 hO11 hP11
  go_wp2_with fail
  refine (immEqMap21 p q _ _ _ _ _ hO12 hQ12).mono ?_
  rintro e w13 ⟨rfl, hg13⟩
  rw [HR.out]
  have hO13 := hO12.grown hg13
  have hP13 := hP12.grown hg13
  have hs13 := hs12.grown hg13
  have hz13 := hz12.grown hg13
  have hG13 := grow2 hG12 hg13
  clear hs12 hz12 hG12 hg13 hO12 hP12 hQ12
  go_wp2_with fail
  refine (map22 a4 a5 ss zs c4 c5 _ _ rfl (by omega) hs13 hz13 hl).mono ?_
  rintro e w14 ⟨q2, rfl, hQ14, hg14⟩
  have hO14 := hO13.grown hg14
  have hP14 := hP13.grown hg14
  have hG14 := grow2 hG13 hg14
  clear hs13 hz13 hG13 hg14 hO13 hP13
  go_wp2_with fail
  refine (mapEqImm23 q2 p2 _ _ _ _ _ hQ14 hP14).mono ?_
  rintro e w15 ⟨rfl, hg15⟩
  rw [HR.out]
  have hO15 := hO14.grown hg15
  have hG15 := grow2 hG14 hg15
  clear hG14 hg15 hO14 hP14 hQ14
  go_wp2_with fail
  refine (immEqImm15 p p _ _ _ _ _ hO15 hO15).mono ?_
  rintro e w16 ⟨rfl, hg16⟩
  rw [eqM_refl T1]
  have hG16 := grow2 hG15 hg16
  clear hG15 hg16 hO15
  go_wp2_with fail
  refine (immEqInt24 p x _).mono ?_
  rintro e w17 ⟨rfl, hg17⟩
  have hG17 := grow2 hG16 hg17
  clear hG16 hg17
  go_wp2_with fail
  go_ret
  exact ⟨rfl, hG17⟩

end Go.Proofs.Yoeeaw
