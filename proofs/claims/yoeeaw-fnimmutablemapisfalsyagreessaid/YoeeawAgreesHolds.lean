/-
  FnImmutableMapIsFalsyAgreesSaid, proved.
-/
import Derived.Test.YoeeawAgrees
import Derived.Test.YoeeawArgs
namespace Go.Proofs.Yoeeaw
open Go.ChangeShapes Go.WideShapes Go.ChangeAt Go.RowKit

set_option maxRecDepth 100000 in
theorem agrees_lifted (os : Os) (started : os.Started) (H : Type) (enc : TypeId × Value → H) :
    ReturnsInHanded {} Eeag.checked os 4 .any (Rows.fnImmutableMapIsFalsyAgreesSpec.pre6 enc Eeag.prog Eeag.f4 Rows.fnImmutableMapIsFalsyAgreesRow.domain false) (Rows.fnImmutableMapIsFalsyAgreesSpec.post enc Eeag.prog Eeag.f4 false true false false) := by
  refine returnsInHanded_of_change (C := Eeag.checked) Eeag.own started (by kernel_rfl) Eeag.func4
    (ChangeSpec.witness6 (enc := enc) (C := Eeag.checked) false ⟨#[], #[.slice none 0 0, .slice none 0 0], []⟩ 8 (by kernel_rfl) (by kernel_rfl) (by kernel_rfl) (by kernel_rfl)) ?_
  intro W base args ds gs before hval0 hW _ _
  have hval : ∀ (j : Nat) t v, Eeag.f4.params[j]? = some t → args[j]? = some v → Value.okWide Eeag.prog W .any base t v := hval0
  have hW' := hW
  obtain ⟨p, q, hA0, hV, rfl, _, _⟩ := hW
  have hA : DataW.TrodAll enc Eeag.prog W 0 (fun _ => true) true Eeag.f4.params.toList args.toList ds p := hA0
  rw [Eeag.params4] at hA hval
  obtain ⟨v0, v1, d0, d1, p0, p1, rfl, rfl, rfl, h0, h1⟩ := trodAll_two hA
  obtain ⟨rfl, rfl⟩ := trodVars_none hV
  obtain ⟨a0, len0, cap0, rfl⟩ := okWide_slice Eeag.underlying22 (hval 0 22 v0 rfl rfl)
  obtain ⟨a1, len1, cap1, rfl⟩ := okWide_slice Eeag.underlying23 (hval 1 23 v1 rfl rfl)
  clear hA0 hval0
  simp only [List.append_nil] at hW'
  have hlt : ∀ x ∈ p0 ++ p1, x.block < W.heap.size := fun x hx => hW'.lt x hx
  obtain ⟨ss, rfl, hs, hl⟩ := args_strs h0
  obtain ⟨zs, rfl, hz⟩ := args_ints h1
  refine (agrees4 a0 a1 ss zs cap0 cap1 W hs hz hl).mono fun e W' ⟨he, hg⟩ => ?_
  subst he
  have hnx := below_of_grown hg
  refine ⟨_, rfl, _, _, _, [], p0 ++ p1, [], hW', trodAll_mk1 (shut_bool Eeag.underlying4 true), trodAll_mk2 ?_ ?_, rfl, hnx.frame _, fun h => by cases h⟩
  · exact Below.trod Eeag.laidOut (by kernel_rfl) (of_decide_eq_true (by kernel_rfl)) h0 hnx (fun x hx => hlt x (List.mem_append_left _ hx))
  · exact Below.trod Eeag.laidOut (by kernel_rfl) (of_decide_eq_true (by kernel_rfl)) h1 hnx (fun x hx => hlt x (List.mem_append_right _ hx))

theorem fnImmutableMapIsFalsyAgrees_holds : Rows.FnImmutableMapIsFalsyAgreesSaid :=
  OpenClaim.holds_of_wide 4 Eeag.f4 rfl rfl rfl rfl rfl rfl rfl ⟨rfl, rfl, rfl, rfl, rfl⟩ rfl rfl rfl rfl rfl (by kernel_rfl) Eeag.func4 (by kernel_rfl)
    (of_decide_eq_true (by kernel_rfl)) (by unfold Func.isWrapper; first | (rw [if_pos (by decide +kernel)]; kernel_rfl) | (rw [if_neg (by decide +kernel)]; exact ⟨rfl, rfl⟩))
    (fun os started H enc _ => agrees_lifted os started H enc)


end Go.Proofs.Yoeeaw
