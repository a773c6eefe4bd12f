/- The row of FnWithinUnderLeafwise, proved. -/
import Derived.Test.Qxb6605276aLaw
import Derived.Test.Qxb6605276aOpen
namespace Go.Proofs.Qxb6605276a
open Go.ChangeShapes Go.WideShapes Go.ChangeAt Go.RowKit

theorem wf_i32 {n : Int} (h : (Lit.int .i32 n).wf = true) : -2147483648 ≤ n ∧ n ≤ 2147483647 := by
  have m1 : IntKind.i32.min = -2147483648 := by decide
  have m2 : IntKind.i32.max = 2147483647 := by decide
  simp [Lit.wf, m1, m2] at h
  exact h
theorem wf_i64 {n : Int} (h : (Lit.int .i64 n).wf = true) : -9223372036854775808 ≤ n ∧ n ≤ 9223372036854775807 := by
  have m1 : IntKind.i64.min = -9223372036854775808 := by decide
  have m2 : IntKind.i64.max = 9223372036854775807 := by decide
  simp [Lit.wf, m1, m2] at h
  exact h

theorem law_calls (pu pn pt pm : Option Addr) (lu ln lt lm cu cn ct cm : Nat) (U : Nat → Nat → Int) (N T mf : Nat → Int) (a b f s : Int) (w : World)
    (ha : -2147483648 ≤ a ∧ a ≤ 2147483647) (hb : -2147483648 ≤ b ∧ b ≤ 2147483647) (hf1 : f ≤ 9223372036854775807)
    (hU : QuadA w pu lu U) (hUr : ∀ i, i < lu → ∀ k, k < 4 → -2147483648 ≤ U i k ∧ U i k ≤ 2147483647)
    (hN : RowA w pn ln (fun i => .int .u64 (N i))) (hT : RowA w pt lt (fun i => .int .i64 (T i))) (hM : RowA w pm lm (fun i => .int .u64 (mf i)))
    (k1 : lu ≤ maxLen) (k2 : ln ≤ maxLen) (k3 : lt ≤ maxLen) (k4 : lm ≤ maxLen) :
    Calls Try.prog 5 #[.slice pu lu cu, .slice pn ln cn, .slice pt lt ct, .int .i32 a, .int .i32 b, .slice pm lm cm, .int .i64 f, .int .i64 s] w (Ends w) := by
  by_cases h : Pre lu ln lt lm s
  · exact law_main pu pn pt pm lu ln lt lm cu cn ct cm ⟨U, N, T⟩ mf a b f s w h ha hb hf1 hU hUr hN hT hM
  · unfold maxLen at k1 k2 k3 k4
    exact law_early pu pn pt pm lu ln lt lm cu cn ct cm a b f s w h (by omega) (by omega) (by omega) (by omega)

set_option maxRecDepth 100000 in
theorem lifted (os : Os) (started : os.Started) (H : Type) (enc : TypeId × Value → H) :
    ReturnsInHanded {} Try.checked os 5 .any (Rows.fnWithinUnderLeafwiseSpec.pre6 enc Try.prog Try.f5 Rows.fnWithinUnderLeafwiseRow.domain false) (Rows.fnWithinUnderLeafwiseSpec.post enc Try.prog Try.f5 false true false false) := by
  refine returnsInHanded_of_change (C := Try.checked) Try.own started (by kernel_rfl) Try.func5
    (ChangeSpec.witness6 (enc := enc) (C := Try.checked) false ⟨#[], #[.slice none 0 0, .slice none 0 0, .slice none 0 0, .int .i32 0, .int .i32 0, .slice none 0 0, .int .i64 0, .int .i64 0], []⟩ 8 (by kernel_rfl) (by kernel_rfl) (by kernel_rfl) (by kernel_rfl)) ?_
  intro W base args ds gs before hval0 hW _ _
  have hval : ∀ (j : Nat) t v, Try.f5.params[j]? = some t → args[j]? = some v → Value.okWide Try.prog W .any base t v := hval0
  have hW' := hW
  obtain ⟨p, q, hA0, hV, rfl, hfz, hnd⟩ := hW
  have hA : DataW.TrodAll enc Try.prog W 0 (fun _ => true) true Try.f5.params.toList args.toList ds p := hA0
  rw [Try.params5] at hA hval
  obtain ⟨l⟩ := args
  simp only at hA
  obtain ⟨v0, vs0, d0, ds0, p0, q0, rfl, rfl, rfl, t0, hA⟩ := trodAll_cons hA
  obtain ⟨v1, vs1, d1, ds1, p1, q1, rfl, rfl, rfl, t1, hA⟩ := trodAll_cons hA
  obtain ⟨v2, vs2, d2, ds2, p2, q2, rfl, rfl, rfl, t2, hA⟩ := trodAll_cons hA
  obtain ⟨v3, vs3, d3, ds3, p3, q3, rfl, rfl, rfl, t3, hA⟩ := trodAll_cons hA
  obtain ⟨v4, vs4, d4, ds4, p4, q4, rfl, rfl, rfl, t4, hA⟩ := trodAll_cons hA
  obtain ⟨v5, vs5, d5, ds5, p5, q5, rfl, rfl, rfl, t5, hA⟩ := trodAll_cons hA
  obtain ⟨v6, vs6, d6, ds6, p6, q6, rfl, rfl, rfl, t6, hA⟩ := trodAll_cons hA
  obtain ⟨v7, vs7, d7, ds7, p7, q7, rfl, rfl, rfl, t7, hA⟩ := trodAll_cons hA
  obtain ⟨rfl, rfl⟩ := trodVars_none hV
  have hA' : vs7 = [] ∧ ds7 = [] ∧ q7 = [] := by
    cases vs7 <;> cases ds7 <;> simp [DataW.TrodAll] at hA
    exact ⟨rfl, rfl, hA⟩
  obtain ⟨rfl, rfl, rfl⟩ := hA'
  clear hA
  obtain ⟨a0, l0, c0, rfl⟩ := okWide_slice Try.underlying28 (hval 0 28 v0 rfl rfl)
  obtain ⟨a1, l1, c1, rfl⟩ := okWide_slice Try.underlying29 (hval 1 29 v1 rfl rfl)
  obtain ⟨a2, l2, c2, rfl⟩ := okWide_slice Try.underlying30 (hval 2 30 v2 rfl rfl)
  obtain ⟨n3, rfl, rfl, rfl, wf3⟩ := open_int Try.underlying21 (hval 3 21 v3 rfl rfl) t3
  obtain ⟨n4, rfl, rfl, rfl, wf4⟩ := open_int Try.underlying21 (hval 4 21 v4 rfl rfl) t4
  obtain ⟨a5, l5, c5, rfl⟩ := okWide_slice Try.underlying29 (hval 5 29 v5 rfl rfl)
  obtain ⟨n6, rfl, rfl, rfl, wf6⟩ := open_int Try.underlying3 (hval 6 3 v6 rfl rfl) t6
  obtain ⟨n7, rfl, rfl, rfl, wf7⟩ := open_int Try.underlying3 (hval 7 3 v7 rfl rfl) t7
  clear hA0 hval0
  simp only [List.append_nil, List.nil_append] at hW'
  have hlt : ∀ x ∈ p0 ++ (p1 ++ (p2 ++ p5)), x.block < W.heap.size := fun x hx => by
    have := hW'.lt x
    simp only [List.mem_append] at this hx
    exact this (by first | exact hx | (rcases hx with h | h | h | h <;> simp [h]))
  obtain ⟨U, hU, hUr, k0⟩ := open_quads t0
  obtain ⟨N, hN, k1⟩ := open_nums Try.underlying29 Try.underlying41 Try.cells41 t1
  obtain ⟨T, hT, k2⟩ := open_nums Try.underlying30 Try.underlying3 Try.cells3 t2
  obtain ⟨M, hM, k5⟩ := open_nums Try.underlying29 Try.underlying41 Try.cells41 t5
  refine (law_calls a0 a1 a2 a5 l0 l1 l2 l5 c0 c1 c2 c5 U N T M n3 n4 n6 n7 W (wf_i32 wf3) (wf_i32 wf4) (wf_i64 wf6).2 hU hUr hN hT hM k0 k1 k2 k5).mono fun e W' ⟨he, hnx⟩ => ?_
  subst he
  have b0 := Below.trod Try.laidOut (by kernel_rfl) (of_decide_eq_true (by kernel_rfl)) t0 hnx (fun x hx => hlt x (by simp [hx]))
  have b1 := Below.trod Try.laidOut (by kernel_rfl) (of_decide_eq_true (by kernel_rfl)) t1 hnx (fun x hx => hlt x (by simp [hx]))
  have b2 := Below.trod Try.laidOut (by kernel_rfl) (of_decide_eq_true (by kernel_rfl)) t2 hnx (fun x hx => hlt x (by simp [hx]))
  have b5 := Below.trod Try.laidOut (by kernel_rfl) (of_decide_eq_true (by kernel_rfl)) t5 hnx (fun x hx => hlt x (by simp [hx]))
  exact ⟨_, rfl, _, _, _, [], _, [], hW', trodAll_mk1 (shut_bool Try.underlying4 true), ⟨p0, _, b0, ⟨p1, _, b1, ⟨p2, _, b2, ⟨[], _, shut_int Try.underlying21 wf3, ⟨[], _, shut_int Try.underlying21 wf4, ⟨p5, _, b5, trodAll_mk2 (shut_int Try.underlying3 wf6) (shut_int Try.underlying3 wf7), rfl⟩, rfl⟩, rfl⟩, rfl⟩, rfl⟩, rfl⟩, rfl, hnx.frame _, fun h => by cases h⟩

theorem within_holds : Rows.FnWithinUnderLeafwiseSaid :=
  OpenClaim.holds_of_wide 5 Try.f5 rfl rfl rfl rfl rfl rfl rfl ⟨rfl, rfl, rfl, rfl, rfl⟩ rfl rfl rfl rfl rfl (by kernel_rfl) Try.func5 (by kernel_rfl)
    (of_decide_eq_true (by kernel_rfl)) (by unfold Func.isWrapper; first | (rw [if_pos (by decide +kernel)]; kernel_rfl) | (rw [if_neg (by decide +kernel)]; exact ⟨rfl, rfl⟩))
    (fun os started H enc _ => lifted os started H enc)
end Go.Proofs.Qxb6605276a
