/-
  FnImmutableMapEqualsMatchesModelSaid, proved.
-/
import Derived.Test.YoeeawLaw5
import Derived.Test.YoeeawArgs
namespace Go.Proofs.Yoeeaw
open Go.ChangeShapes Go.WideShapes Go.ChangeAt Go.RowKit

set_option maxRecDepth 100000 in
theorem matches_lifted (os : Os) (started : os.Started) (H : Type) (enc : TypeId × Value → H) :
    ReturnsInHanded {} Eeag.checked os 5 .any (Rows.fnImmutableMapEqualsMatchesModelSpec.pre6 enc Eeag.prog Eeag.f5 Rows.fnImmutableMapEqualsMatchesModelRow.domain false) (Rows.fnImmutableMapEqualsMatchesModelSpec.post enc Eeag.prog Eeag.f5 false true false false) := by
  refine returnsInHanded_of_change (C := Eeag.checked) Eeag.own started (by kernel_rfl) Eeag.func5
    (ChangeSpec.witness6 (enc := enc) (C := Eeag.checked) false ⟨#[], #[.slice none 0 0, .slice none 0 0, .slice none 0 0, .slice none 0 0], []⟩ 8 (by kernel_rfl) (by kernel_rfl) (by kernel_rfl) (by kernel_rfl)) ?_
  intro W base args ds gs before hval0 hW _ _
  have hval : ∀ (j : Nat) t v, Eeag.f5.params[j]? = some t → args[j]? = some v → Value.okWide Eeag.prog W .any base t v := hval0
  have hW' := hW
  obtain ⟨p, q, hA0, hV, rfl, _, _⟩ := hW
  have hA : DataW.TrodAll enc Eeag.prog W 0 (fun _ => true) true Eeag.f5.params.toList args.toList ds p := hA0
  rw [Eeag.params5] at hA hval
  obtain ⟨v0, v1, v2, v3, d0, d1, d2, d3, p0, p1, p2, p3, rfl, rfl, rfl, h0, h1, h2, h3⟩ := trodAll_four hA
  obtain ⟨rfl, rfl⟩ := trodVars_none hV
  obtain ⟨a0, len0, cap0, rfl⟩ := okWide_slice Eeag.underlying22 (hval 0 22 v0 rfl rfl)
  obtain ⟨a1, len1, cap1, rfl⟩ := okWide_slice Eeag.underlying23 (hval 1 23 v1 rfl rfl)
  obtain ⟨a2, len2, cap2, rfl⟩ := okWide_slice Eeag.underlying22 (hval 2 22 v2 rfl rfl)
  obtain ⟨a3, len3, cap3, rfl⟩ := okWide_slice Eeag.underlying23 (hval 3 23 v3 rfl rfl)
  clear hA0 hval0
  simp only [List.append_nil] at hW'
  have hlt : ∀ x ∈ p0 ++ p1 ++ p2 ++ p3, x.block < W.heap.size := fun x hx => hW'.lt x hx
  obtain ⟨ss, rfl, hs, hl⟩ := args_strs h0
  obtain ⟨zs, rfl, hz⟩ := args_ints h1
  obtain ⟨tt, rfl, ht, hl2⟩ := args_strs h2
  obtain ⟨us, rfl, hu⟩ := args_ints h3
  refine (law5 a0 a1 a2 a3 ss tt zs us cap0 cap1 cap2 cap3 W hs hz ht hu hl hl2).mono fun e W' ⟨he, hg⟩ => ?_
  subst he
  have hnx := below_of_grown hg
  refine ⟨_, rfl, _, _, _, [], p0 ++ (p1 ++ (p2 ++ p3)), [], hW', trodAll_mk1 (shut_bool Eeag.underlying4 true), trodAll_mk4 ?_ ?_ ?_ ?_, rfl, hnx.frame _, fun h => by cases h⟩
  · exact Below.trod Eeag.laidOut (by kernel_rfl) (of_decide_eq_true (by kernel_rfl)) h0 hnx (fun x hx => hlt x (by simp [hx]))
  · exact Below.trod Eeag.laidOut (by kernel_rfl) (of_decide_eq_true (by kernel_rfl)) h1 hnx (fun x hx => hlt x (by simp [hx]))
  · exact Below.trod Eeag.laidOut (by kernel_rfl) (of_decide_eq_true (by kernel_rfl)) h2 hnx (fun x hx => hlt x (by simp [hx]))
  · exact Below.trod Eeag.laidOut (by kernel_rfl) (of_decide_eq_true (by kernel_rfl)) h3 hnx (fun x hx => hlt x (by simp [hx]))

theorem fnImmutableMapEqualsMatchesModel_holds : Rows.FnImmutableMapEqualsMatchesModelSaid :=
  OpenClaim.holds_of_wide 5 Eeag.f5 rfl rfl rfl rfl rfl rfl rfl ⟨rfl, rfl, rfl, rfl, rfl⟩ rfl rfl rfl rfl rfl (by kernel_rfl) Eeag.func5 (by kernel_rfl)
    (of_decide_eq_true (by kernel_rfl)) (by unfold Func.isWrapper; first | (rw [if_pos (by decide +kernel)]; kernel_rfl) | (rw [if_neg (by decide +kernel)]; exact ⟨rfl, rfl⟩))
    (fun os started H enc _ => matches_lifted os started H enc)

end Go.Proofs.Yoeeaw
