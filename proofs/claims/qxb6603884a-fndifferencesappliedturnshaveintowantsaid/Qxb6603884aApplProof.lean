/-
  The row of FnDifferencesAppliedTurnsHaveIntoWant, proved.
-/
import Derived.Test.Qxb6603884aAppl
import Derived.Test.Qxb6603884aOpen
namespace Go.Proofs.Qxb6603884a
open Go.ChangeShapes Go.WideShapes Go.ChangeAt Go.RowKit

set_option maxRecDepth 100000 in
theorem appl_lifted (os : Os) (started : os.Started) (H : Type) (enc : TypeId × Value → H) :
    ReturnsInHanded {} Try.checked os 4 .any (Rows.fnDifferencesAppliedTurnsHaveIntoWantSpec.pre6 enc Try.prog Try.f4 Rows.fnDifferencesAppliedTurnsHaveIntoWantRow.domain false) (Rows.fnDifferencesAppliedTurnsHaveIntoWantSpec.post enc Try.prog Try.f4 false true false false) := by
  refine returnsInHanded_of_change (C := Try.checked) Try.own started (by kernel_rfl) Try.func4
    (ChangeSpec.witness6 (enc := enc) (C := Try.checked) false ⟨#[], #[.map none, .map none], []⟩ 8 (by kernel_rfl) (by kernel_rfl) (by kernel_rfl) (by kernel_rfl)) ?_
  intro W base args ds gs before hval0 hW _ _
  have hval : ∀ (j : Nat) t v, Try.f4.params[j]? = some t → args[j]? = some v → Value.okWide Try.prog W .any base t v := hval0
  have hW' := hW
  obtain ⟨p, q, hA0, hV, rfl, hfz, hnd⟩ := hW
  have hA : DataW.TrodAll enc Try.prog W 0 (fun _ => true) true Try.f4.params.toList args.toList ds p := hA0
  rw [Try.params4] at hA hval
  obtain ⟨v0, v1, d0, d1, p0, p1, rfl, rfl, rfl, h0, h1⟩ := trodAll_two hA
  obtain ⟨rfl, rfl⟩ := trodVars_none hV
  obtain ⟨a0, rfl⟩ := okWide_map Try.underlying22 (hval 0 22 v0 rfl rfl)
  obtain ⟨a1, rfl⟩ := okWide_map Try.underlying22 (hval 1 22 v1 rfl rfl)
  clear hA0 hval0
  simp only [List.append_nil] at hW'
  have hlt : ∀ x ∈ p0 ++ p1, x.block < W.heap.size := fun x hx => by simpa using hW'.lt x hx
  obtain ⟨g0, M0, hM0, hL0, hk0, hr0⟩ := open_bmap h0
  obtain ⟨g1, M1, hM1, hL1, hk1, hr1⟩ := open_bmap h1
  refine (appl_calls a0 a1 g0 g1 M0 M1 W hM0 hM1 hL0 hL1 hk0 hk1 hr0 hr1).mono fun e W' ⟨he, hnx⟩ => ?_
  subst he
  have b0 := Below.trod Try.laidOut (by kernel_rfl) (of_decide_eq_true (by kernel_rfl)) h0 hnx (fun x hx => hlt x (List.mem_append_left _ hx))
  have b1 := Below.trod Try.laidOut (by kernel_rfl) (of_decide_eq_true (by kernel_rfl)) h1 hnx (fun x hx => hlt x (List.mem_append_right _ hx))
  exact ⟨_, rfl, _, _, _, [], p0 ++ p1, [], hW', trodAll_mk1 (shut_bool Try.underlying4 true), trodAll_mk2 b0 b1, rfl, hnx.frame _, fun h => by cases h⟩

theorem appl_holds : Rows.FnDifferencesAppliedTurnsHaveIntoWantSaid :=
  OpenClaim.holds_of_wide 4 Try.f4 rfl rfl rfl rfl rfl rfl rfl ⟨rfl, rfl, rfl, rfl, rfl⟩ rfl rfl rfl rfl rfl (by kernel_rfl) Try.func4 (by kernel_rfl)
    (of_decide_eq_true (by kernel_rfl)) (by unfold Func.isWrapper; first | (rw [if_pos (by decide +kernel)]; kernel_rfl) | (rw [if_neg (by decide +kernel)]; exact ⟨rfl, rfl⟩))
    (fun os started H enc _ => appl_lifted os started H enc)

end Go.Proofs.Qxb6603884a
