/-
  FnImmutableMapEqualsSymmetricAcrossKindsSaid, proved.
-/
import Derived.Test.YoeeawLaw6
import Derived.Test.YoeeawArgs
namespace Go.Proofs.Yoeeaw
open Go.ChangeShapes Go.WideShapes Go.ChangeAt Go.RowKit

set_option maxRecDepth 100000 in
theorem symmetric_lifted (os : Os) (started : os.Started) (H : Type) (enc : TypeId × Value → H) :
    ReturnsInHanded {} Eeag.checked os 6 .any (Rows.fnImmutableMapEqualsSymmetricAcrossKindsSpec.pre6 enc Eeag.prog Eeag.f6 Rows.fnImmutableMapEqualsSymmetricAcrossKindsRow.domain false) (Rows.fnImmutableMapEqualsSymmetricAcrossKindsSpec.post enc Eeag.prog Eeag.f6 false true false false) := by
  refine returnsInHanded_of_change (C := Eeag.checked) Eeag.own started (by kernel_rfl) Eeag.func6
    (ChangeSpec.witness6 (enc := enc) (C := Eeag.checked) false ⟨#[], #[.slice none 0 0, .slice none 0 0, .slice none 0 0, .slice none 0 0, .int .i64 0], []⟩ 8 (by kernel_rfl) (by kernel_rfl) (by kernel_rfl) (by kernel_rfl)) ?_
  intro W base args ds gs before hval0 hW _ _
  have hval : ∀ (j : Nat) t v, Eeag.f6.params[j]? = some t → args[j]? = some v → Value.okWide Eeag.prog W .any base t v := hval0
  have hW' := hW
  obtain ⟨p, q, hA0, hV, rfl, _, _⟩ := hW
  have hA : DataW.TrodAll enc Eeag.prog W 0 (fun _ => true) true Eeag.f6.params.toList args.toList ds p := hA0
  rw [Eeag.params6] at hA hval
  obtain ⟨v0, vs0, d0, ds0, p0, q0, hargs, rfl, rfl, h0, r0⟩ := trodAll_cons hA
  obtain ⟨v1, vs1, d1, ds1, p1, q1, rfl, rfl, rfl, h1, r1⟩ := trodAll_cons r0
  obtain ⟨v2, vs2, d2, ds2, p2, q2, rfl, rfl, rfl, h2, r2⟩ := trodAll_cons r1
  obtain ⟨v3, vs3, d3, ds3, p3, q3, rfl, rfl, rfl, h3, r3⟩ := trodAll_cons r2
  obtain ⟨v4, vs4, d4, ds4, p4, q4, rfl, rfl, rfl, h4, r4⟩ := trodAll_cons r3
  obtain ⟨rfl, rfl, rfl⟩ := trodAll_nil r4
  obtain rfl : args = #[v0, v1, v2, v3, v4] := by rw [← Array.toArray_toList (xs := args), hargs]
  obtain ⟨rfl, rfl⟩ := trodVars_none hV
  obtain ⟨a0, len0, cap0, rfl⟩ := okWide_slice Eeag.underlying22 (hval 0 22 v0 rfl rfl)
  obtain ⟨a1, len1, cap1, rfl⟩ := okWide_slice Eeag.underlying23 (hval 1 23 v1 rfl rfl)
  obtain ⟨a2, len2, cap2, rfl⟩ := okWide_slice Eeag.underlying22 (hval 2 22 v2 rfl rfl)
  obtain ⟨a3, len3, cap3, rfl⟩ := okWide_slice Eeag.underlying23 (hval 3 23 v3 rfl rfl)
  obtain ⟨x, rfl, rfl, rfl, wx⟩ := open_int Eeag.underlying2 (hval 4 2 v4 rfl rfl) h4
  clear hA0 hval0
  simp only [List.append_nil] at hW'
  have hlt : ∀ x ∈ p0 ++ (p1 ++ (p2 ++ p3)), x.block < W.heap.size := fun x hx => hW'.lt x hx
  obtain ⟨ss, rfl, hs, hl⟩ := args_strs h0
  obtain ⟨zs, rfl, hz⟩ := args_ints h1
  obtain ⟨tt, rfl, ht, hl2⟩ := args_strs h2
  obtain ⟨us, rfl, hu⟩ := args_ints h3
  refine (law6 a0 a1 a2 a3 ss tt zs us cap0 cap1 cap2 cap3 x W hs hz ht hu hl hl2).mono fun e W' ⟨he, hg⟩ => ?_
  subst he
  have hnx := below_of_grown hg
  refine ⟨_, rfl, _, _, _, [], p0 ++ (p1 ++ (p2 ++ (p3 ++ []))), [], hW', trodAll_mk1 (shut_bool Eeag.underlying4 true), ⟨p0, _, ?_, ⟨p1, _, ?_, ⟨p2, _, ?_, ⟨p3, [], ?_, trodAll_mk1 (shut_int Eeag.underlying2 wx), rfl⟩, rfl⟩, rfl⟩, rfl⟩, rfl, hnx.frame _, fun h => by cases h⟩
  · exact Below.trod Eeag.laidOut (by kernel_rfl) (of_decide_eq_true (by kernel_rfl)) h0 hnx (fun x hx => hlt x (by simp [hx]))
  · exact Below.trod Eeag.laidOut (by kernel_rfl) (of_decide_eq_true (by kernel_rfl)) h1 hnx (fun x hx => hlt x (by simp [hx]))
  · exact Below.trod Eeag.laidOut (by kernel_rfl) (of_decide_eq_true (by kernel_rfl)) h2 hnx (fun x hx => hlt x (by simp [hx]))
  · exact Below.trod Eeag.laidOut (by kernel_rfl) (of_decide_eq_true (by kernel_rfl)) h3 hnx (fun x hx => hlt x (by simp [hx]))

theorem fnImmutableMapEqualsSymmetricAcrossKinds_holds : Rows.FnImmutableMapEqualsSymmetricAcrossKindsSaid :=
  OpenClaim.holds_of_wide 6 Eeag.f6 rfl rfl rfl rfl rfl rfl rfl ⟨rfl, rfl, rfl, rfl, rfl⟩ rfl rfl rfl rfl rfl (by kernel_rfl) Eeag.func6 (by kernel_rfl)
    (of_decide_eq_true (by kernel_rfl)) (by unfold Func.isWrapper; first | (rw [if_pos (by decide +kernel)]; kernel_rfl) | (rw [if_neg (by decide +kernel)]; exact ⟨rfl, rfl⟩))
    (fun os started H enc _ => symmetric_lifted os started H enc)

end Go.Proofs.Yoeeaw
