/-
  ZZImmEqualsImm (15); FnImmutableMapIsFalsyAgrees (4): the walk.
-/
import Derived.Test.YoeeawCopy
namespace Go.Proofs.Yoeeaw
open Go.RowKit Go.WideMaps Go.Maps

set_option maxHeartbeats 400000 in
theorem eq15 (p p2 n n2 : Nat) (m m2 : M) (w : World) (ho : IsObj w p n m) (ho2 : IsObj w p2 n2 m2) :
    Calls Eeag.prog 15 #[.pointer (some ⟨p, 0, none⟩), .pointer (some ⟨p2, 0, none⟩)] w fun e w' => e = .returned (.bool (eqM m m2)) ∧ w.grownBy w' none := by
  go_enter Eeag.func15, Eeag.ntmps15
  go_wp2_with fail
  refine (eq26_imm p p2 n n2 m m2 _ ho ho2).mono ?_
  rintro e w1 ⟨rfl, hg⟩
  go_wp2_with fail
  go_ret
  exact ⟨rfl, hg⟩

theorem eqM_nil_right (m : M) : eqM m [] = (((m.length : Nat) : Int) == 0) := by
  cases m with
  | nil => rfl
  | cons p r =>
    have h1 : eqM (p :: r) [] = false := eqM_len (by simp)
    rw [h1]
    symm
    rw [beq_eq_false_iff_ne, List.length_cons]
    omega

theorem eqM_nil_left (m : M) : eqM [] m = (((m.length : Nat) : Int) == 0) := by
  cases m with
  | nil => rfl
  | cons p r =>
    have h1 : eqM [] (p :: r) = false := eqM_len (by simp)
    rw [h1]
    symm
    rw [beq_eq_false_iff_ne, List.length_cons]
    omega

theorem segS_nil (w : World) : SegS w none [] := fun j hj => by simp at hj
theorem segI_nil (w : World) : SegI w none [] := fun j hj => by simp at hj

set_option maxHeartbeats 400000 in
theorem agrees4 (a a' : Option Addr) (ss : List ByteArray) (zs : List Int) (cap cap' : Nat) (w : World) (hs : SegS w a ss) (hz : SegI w a' zs) (hl : ∀ s ∈ ss, s.size ≤ maxLen) :
    Calls Eeag.prog 4 #[.slice a ss.length cap, .slice a' zs.length cap'] w fun e w' => e = .returned (.bool true) ∧ w.grownBy w' none := by
  go_enter Eeag.func4, Eeag.ntmps4
  go_wp2_with fail
  refine (bytes14 _ _ _ _ _ _ _ hs.some).mono ?_
  rintro e w1 ⟨⟨b, rfl⟩, rfl⟩
  cases b
  · go_wp2_with fail
    go_ret
    exact ⟨rfl, grownNone (Below.refl _ _)⟩
  by_cases h1 : 4096 < ss.length
  · have h1' : decide ((4096 : Int) < (ss.length : Int)) = true := decide_eq_true (by omega)
    go_wp2_with fail
    go_ret
    exact ⟨rfl, grownNone (Below.refl _ _)⟩
  by_cases h2 : 4096 < zs.length
  · have h1' : decide ((4096 : Int) < (ss.length : Int)) = false := decide_eq_false (by omega)
    have h2' : decide ((4096 : Int) < (zs.length : Int)) = true := decide_eq_true (by omega)
    go_wp2_with fail
    go_ret
    exact ⟨rfl, grownNone (Below.refl _ _)⟩
  have h1' : decide ((4096 : Int) < (ss.length : Int)) = false := decide_eq_false (by omega)
  have h2' : decide ((4096 : Int) < (zs.length : Int)) = false := decide_eq_false (by omega)
  go_wp2_with fail
  refine (bytes8 _ _ _ _ _ _ _ (by omega) hs.some).mono ?_
  rintro e w2 ⟨⟨x, rfl⟩, rfl⟩
  by_cases hx : 1048576 < x
  · go_wp2_with fail
    go_ret
    exact ⟨rfl, grownNone (Below.refl _ _)⟩
  go_wp2_with fail
  refine (cloneS a ss cap _ (by omega) hs).mono ?_
  rintro e w3 ⟨a3, c3, rfl, hs3, hg3⟩
  have hz3 := hz.grown hg3
  go_wp2_with fail
  refine (cloneI a' zs cap' _ (by omega) hz3).mono ?_
  rintro e w4 ⟨a4, c4, rfl, hz4, hg4⟩
  have hs4 := hs3.grown hg4
  have hg5 := grow2 hg3 hg4
  clear hs hz hz3 hs3 hg3 hg4
  go_wp2_with fail
  refine (imm12 a3 a4 ss zs c3 c4 _ _ rfl (by omega) hs4 hz4 hl).mono ?_
  rintro e w6 ⟨p, rfl, hO, hg6⟩
  have hn : min ss.length zs.length ≤ 4096 := by omega
  generalize min ss.length zs.length = n at hO hn
  generalize buildM (keysOf ss) zs n = m at hO
  have hgA := grow2 hg5 hg6
  clear hg5 hg6 hs4 hz4
  go_wp2_with fail
  refine (imm12 none none [] [] 0 0 0 _ rfl (by omega) (segS_nil _) (segI_nil _) (fun s hs => by simp at hs)).mono ?_
  rintro e w7 ⟨p2, rfl, hO2, hg7⟩
  have hO2' : IsObj w7 p2 0 [] := hO2
  have hO' := hO.grown hg7
  have hgB := grow2 hgA hg7
  clear hO hO2 hgA hg7
  go_wp2_with fail
  refine (falsy13 _ _ _ _ hO').mono ?_
  rintro e w8 ⟨rfl, rfl⟩
  go_wp2_with fail
  refine (eq15 p p2 n 0 m [] _ hO' hO2').mono ?_
  rintro e w9 ⟨rfl, hg9⟩
  rw [eqM_nil_right]
  have hO9 := hO'.grown hg9
  have hO29 := hO2'.grown hg9
  have hgC := grow2 hgB hg9
  clear hO' hO2' hgB hg9
  generalize hf : (((m.length : Nat) : Int) == 0) = f
  have HF : Hid ((((m.length : Nat) : Int) == 0) = f) := hf
  clear hf
  have hff : (f != f) = false := by simp
  go_wp2_with fail
  refine (eq15 p2 p 0 n [] m _ hO29 hO9).mono ?_
  rintro e w10 ⟨rfl, hg10⟩
  rw [eqM_nil_left, HF.out]
  have hO10 := hO9.grown hg10
  have hgD := grow2 hgC hg10
  clear hO9 hO29 hgC hg10
  go_wp2_with fail
  refine (copy16 p n m _ hO10 hn).mono ?_
  rintro e w11 ⟨q, n', m', rfl, hO11, hiff, hg11⟩
  have hm' : (((m'.length : Nat) : Int) == 0) = f := by
    rw [← HF.out, Bool.eq_iff_iff]
    simp only [beq_iff_eq]
    omega
  have HM : Hid ((((m'.length : Nat) : Int) == 0) = f) := hm'
  clear hm' hiff
  have hgE := grow2 hgD hg11
  clear hgD hg11 hO10
  go_wp2_with fail
  refine (falsy17 _ _ _ _ hO11).mono ?_
  rintro e w12 ⟨rfl, rfl⟩
  rw [HM.out]
  go_wp2_with fail
  go_ret
  exact ⟨by simp, hgE⟩

end Go.Proofs.Yoeeaw
