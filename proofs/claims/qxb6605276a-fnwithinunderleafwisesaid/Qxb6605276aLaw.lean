/- The law FnWithinUnderLeafwise (function 5): the walk. -/
import Derived.Test.Qxb6605276aModel
import Derived.Test.Qxb6605276aModel2
import Derived.Test.Qxb6605276aBytes
namespace Go.Proofs.Qxb6605276a
open Go.RowKit

/-- Behind the model: where the input fits, ZZWithinUnder answers what the model wants. -/
def MZ (args : Array Value) (w : World) (e : Ending) (w' : World) : Prop :=
  ∃ fits want, e = .returned (.tuple #[.bool fits, .bool want]) ∧ (∃ q, w' = w.drewN q) ∧ (fits = true → Calls Try.prog 14 args w' fun e w'' => e = .returned (.bool want) ∧ Below w'.heap.size w' w'')

theorem mz_false {args : Array Value} {w : World} {e : Ending} {w' : World} (h : e = .returned (.tuple #[.bool false, .bool true]) ∧ w' = w) : MZ args w e w' :=
  ⟨false, true, h.1, ⟨0, h.2⟩, fun h => by cases h⟩

theorem bool_iff {x y : Bool} {p : Prop} (h1 : x = true ↔ p) (h2 : y = true ↔ p) : x = y := by
  cases x <;> cases y <;> simp_all

theorem model_all (pu pn pt pm : Option Addr) (lu ln lt lm : Nat) (t : Nd) (mf : Nat → Int) (a b f s : Int) (w : World) (h : Pre lu ln lt lm s)
    (ha : -2147483648 ≤ a ∧ a ≤ 2147483647) (hb : -2147483648 ≤ b ∧ b ≤ 2147483647) (hf1 : f ≤ 9223372036854775807)
    (hU : QuadB w pu lu t.U) (hUr : ∀ i, i < lu → ∀ k, k < 4 → -2147483648 ≤ t.U i k ∧ t.U i k ≤ 2147483647)
    (hN : RowB w pn ln (fun i => .int .u64 (t.N i))) (hT : RowB w pt lt (fun i => .int .i64 (t.T i))) (hM : RowB w pm lm (fun i => .int .u64 (mf i))) :
    Calls Try.prog 13 #[.slice pu lu lu, .slice pn ln ln, .slice pt lt lt, .int .i32 a, .int .i32 b, .slice pm lm lm, .int .i64 f, .int .i64 s] w
      (MZ #[.slice pu lu lu, .slice pn ln ln, .slice pt lt lt, .int .i32 a, .int .i32 b, .slice pm lm lm, .int .i64 f, .int .i64 s] w) := by
  by_cases hl : ln ≠ lu ∨ lt ≠ lu
  · exact (model_lens pu pn pt pm lu ln lt lm lu ln lt lm a b f s w h hl).mono fun e w' hp => mz_false hp
  · obtain rfl : lu = ln := by omega
    obtain rfl : lu = lt := by omega
    by_cases hr : 0 ≤ a ∧ a < lu ∧ 0 ≤ b ∧ b < lu
    · obtain ⟨A, rfl⟩ := Int.eq_ofNat_of_zero_le hr.1
      obtain ⟨B, rfl⟩ := Int.eq_ofNat_of_zero_le hr.2.2.1
      have h6 := h.lo
      obtain ⟨S, rfl⟩ := Int.eq_ofNat_of_zero_le (show 0 ≤ s by omega)
      have hA : A < lu := by omega
      have hB : B < lu := by omega
      cases pu with
      | none => have := hU.1 rfl; omega
      | some ad =>
        obtain ⟨bu, rfl, hcU⟩ := hU.2 _ rfl
        cases pn with
        | none => have := hN.1 rfl; omega
        | some ad =>
          obtain ⟨bn, rfl, hcN⟩ := hN.2 _ rfl
          cases pt with
          | none => have := hT.1 rfl; omega
          | some ad =>
            obtain ⟨bt, rfl, hcT⟩ := hT.2 _ rfl
            have hn := h.u
            cases pm with
            | none =>
              obtain rfl := hM.1 rfl
              refine (model_nil bu bn bt lu lu lu lu 0 A B f S w t h hA hB hcU hUr hcN hcT).mono ?_
              rintro e w' ⟨fits, want, rfl, ⟨q, rfl⟩, hp⟩
              refine ⟨fits, want, rfl, ⟨q, rfl⟩, fun hfit => ?_⟩
              obtain ⟨d, hd, rfl, _, hF, hW⟩ := hp hfit
              have hw : want = W t none d A B 0 := (bool_iff hW (W_iff t lu none d A B f.toNat hF)).trans (W_none t d A B _ _)
              rw [hw]
              exact zz14 bu bn bt lu none 0 0 t A B f _ _ (w.drewN q) hn hcU hcN hcT (fun W' S' B' hN' hS' _ => wu_nil lu t S' B' 0 0 d A B f W' hA hB hF hd hN' hS')
            | some ad =>
              obtain ⟨mb, rfl, hcM⟩ := hM.2 _ rfl
              by_cases hok : 0 ≤ f ∧ f + S ≤ lm
              · obtain ⟨F, rfl⟩ := Int.eq_ofNat_of_zero_le hok.1
                refine (model_some bu bn bt lu lm mb lu lu lu lm mf A B F S w t h hA hB (by omega) hcU hUr hcN hcT hcM).mono ?_
                rintro e w' ⟨fits, want, rfl, ⟨q, rfl⟩, hp⟩
                refine ⟨fits, want, rfl, ⟨q, rfl⟩, fun hfit => ?_⟩
                obtain ⟨d, hd, rfl, _, hF, hW⟩ := hp hfit
                have hw : want = W t (some mf) d A B F := bool_iff hW (W_iff t lu (some mf) d A B F hF)
                rw [hw]
                exact zz14 bu bn bt lu (some ⟨mb, 0, none⟩) lm lm t A B F _ _ (w.drewN q) hn hcU hcN hcT (fun W' S' B' hN' hS' hB' => wu_some lu t S' B' mb 0 lm lm mf h.m d A B F W' hA hB hF hd (by omega) hN' hS' (fun i hi => by
                  rw [Nat.zero_add]
                  exact cell_later hB' (hcM i hi)))
              · exact (model_bad _ _ _ _ lu lm lu lu lu lm A B f S w h hA hB hok hf1).mono fun e w' hp => mz_false hp
    · exact (model_range pu pn pt pm lu lm lu lu lu lm a b f s w h ha hb (by omega)).mono fun e w' hp => mz_false hp

theorem RowB.later {w w' : World} {p : Option Addr} {n : Nat} {g : Nat → Value} (h : RowB w p n g) (hB : Below w.heap.size w w') : RowB w' p n g :=
  ⟨h.1, fun a ha => by
    obtain ⟨b, e, hc⟩ := h.2 a ha
    exact ⟨b, e, fun i hi => cell_later hB (hc i hi)⟩⟩
theorem QuadB.later {w w' : World} {p : Option Addr} {n : Nat} {U : Nat → Nat → Int} (h : QuadB w p n U) (hB : Below w.heap.size w w') : QuadB w' p n U :=
  ⟨h.1, fun a ha => by
    obtain ⟨b, e, hc⟩ := h.2 a ha
    exact ⟨b, e, fun i hi k hk => cell_later hB (hc i hi k hk)⟩⟩
theorem RowA.later {w w' : World} {p : Option Addr} {n : Nat} {g : Nat → Value} (h : RowA w p n g) (hB : Below w.heap.size w w') : RowA w' p n g :=
  ⟨h.1, fun hn => by
    obtain ⟨b, o, e, hc⟩ := h.2 hn
    exact ⟨b, o, e, fun i hi => cell_later hB (hc i hi)⟩⟩

/-- True, and what lay there lies there still. -/
def Ends (w : World) (e : Ending) (w' : World) : Prop := e = .returned (.bool true) ∧ Below w.heap.size w w'

set_option maxHeartbeats 4000000 in
set_option maxRecDepth 100000 in
theorem law_early (pu pn pt pm : Option Addr) (lu ln lt lm cu cn ct cm : Nat) (a b f s : Int) (w : World) (h : ¬ Pre lu ln lt lm s) (k1 : lu ≤ 9223372036854775807) (k2 : ln ≤ 9223372036854775807) (k3 : lt ≤ 9223372036854775807) (k4 : lm ≤ 9223372036854775807) :
    Calls Try.prog 5 #[.slice pu lu cu, .slice pn ln cn, .slice pt lt ct, .int .i32 a, .int .i32 b, .slice pm lm cm, .int .i64 f, .int .i64 s] w (Ends w) := by
  have H9 := bytes9 pu pn pt pm lu ln lt lm cu cn ct cm a b f s w
  have HE : Hid (Ends w (.returned (.bool true)) w) := ⟨rfl, Below.refl _ _⟩
  by_cases h1 : 65536 < lu
  · clear h
    go_enter Try.func5, Try.ntmps5
    go_wp2_with fail
    refine H9.mono ?_
    rintro e w' ⟨r, rfl, hw⟩
    obtain rfl := hw.symm
    cases r
    all_goals go_wp2_with fail
    all_goals (go_ret; exact HE.out)
  · by_cases h2 : 131072 < ln
    · clear h
      go_enter Try.func5, Try.ntmps5
      go_wp2_with fail
      refine H9.mono ?_
      rintro e w' ⟨r, rfl, hw⟩
      obtain rfl := hw.symm
      cases r
      all_goals go_wp2_with fail
      all_goals (go_ret; exact HE.out)
    · by_cases h3 : 131072 < lt
      · clear h
        go_enter Try.func5, Try.ntmps5
        go_wp2_with fail
        refine H9.mono ?_
        rintro e w' ⟨r, rfl, hw⟩
        obtain rfl := hw.symm
        cases r
        all_goals go_wp2_with fail
        all_goals (go_ret; exact HE.out)
      · by_cases h4 : 131072 < lm
        · clear h
          go_enter Try.func5, Try.ntmps5
          go_wp2_with fail
          refine H9.mono ?_
          rintro e w' ⟨r, rfl, hw⟩
          obtain rfl := hw.symm
          cases r
          all_goals go_wp2_with fail
          all_goals (go_ret; exact HE.out)
        · by_cases h5 : 1048576 < 16 * lu + 8 * ln + 8 * lt + 8 * lm
          · clear h
            go_enter Try.func5, Try.ntmps5
            go_wp2_with fail
            refine H9.mono ?_
            rintro e w' ⟨r, rfl, hw⟩
            obtain rfl := hw.symm
            cases r
            all_goals go_wp2_with fail
            all_goals (go_ret; exact HE.out)
          · by_cases h6 : s < 1
            · clear h
              go_enter Try.func5, Try.ntmps5
              go_wp2_with fail
              refine H9.mono ?_
              rintro e w' ⟨r, rfl, hw⟩
              obtain rfl := hw.symm
              cases r
              all_goals go_wp2_with fail
              all_goals (go_ret; exact HE.out)
            · have h7 : 65536 < s := by
                rcases Int.lt_or_le 65536 s with h0 | h0
                · exact h0
                · exact absurd ⟨by omega, by omega, by omega, by omega, by omega, by omega, h0⟩ h
              clear h
              go_enter Try.func5, Try.ntmps5
              go_wp2_with fail
              refine H9.mono ?_
              rintro e w' ⟨r, rfl, hw⟩
              obtain rfl := hw.symm
              cases r
              all_goals go_wp2_with fail
              all_goals (go_ret; exact HE.out)

set_option maxHeartbeats 4000000 in
set_option maxRecDepth 100000 in
theorem law_main (pu pn pt pm : Option Addr) (lu ln lt lm cu cn ct cm : Nat) (t : Nd) (mf : Nat → Int) (a b f s : Int) (w : World) (h : Pre lu ln lt lm s)
    (ha : -2147483648 ≤ a ∧ a ≤ 2147483647) (hb : -2147483648 ≤ b ∧ b ≤ 2147483647) (hf1 : f ≤ 9223372036854775807)
    (hU : QuadA w pu lu t.U) (hUr : ∀ i, i < lu → ∀ k, k < 4 → -2147483648 ≤ t.U i k ∧ t.U i k ≤ 2147483647)
    (hN : RowA w pn ln (fun i => .int .u64 (t.N i))) (hT : RowA w pt lt (fun i => .int .i64 (t.T i))) (hM : RowA w pm lm (fun i => .int .u64 (mf i))) :
    Calls Try.prog 5 #[.slice pu lu cu, .slice pn ln cn, .slice pt lt ct, .int .i32 a, .int .i32 b, .slice pm lm cm, .int .i64 f, .int .i64 s] w (Ends w) := by
  have H9 := bytes9 pu pn pt pm lu ln lt lm cu cn ct cm a b f s w
  have HE : Hid (Ends w (.returned (.bool true)) w) := ⟨rfl, Below.refl _ _⟩
  have H10 := copy10 pu lu cu t.U w h.u hU
  have H11 : Hid (∀ w1 : World, Below w.heap.size w w1 → Calls Try.prog 11 #[.slice pn ln cn] w1 fun e w' => ∃ p', e = .returned (.slice p' ln ln) ∧ p'.isNone = pn.isNone ∧ RowB w' p' ln (fun i => .int .u64 (t.N i)) ∧ Below w1.heap.size w1 w') := fun w1 hw => copy11 pn ln cn t.N w1 h.n (hN.later hw)
  have H12 : Hid (∀ w1 : World, Below w.heap.size w w1 → Calls Try.prog 12 #[.slice pt lt ct] w1 fun e w' => ∃ p', e = .returned (.slice p' lt lt) ∧ p'.isNone = pt.isNone ∧ RowB w' p' lt (fun i => .int .i64 (t.T i)) ∧ Below w1.heap.size w1 w') := fun w1 hw => copy12 pt lt ct t.T w1 h.t (hT.later hw)
  have H11m : Hid (∀ w1 : World, Below w.heap.size w w1 → Calls Try.prog 11 #[.slice pm lm cm] w1 fun e w' => ∃ p', e = .returned (.slice p' lm lm) ∧ p'.isNone = pm.isNone ∧ RowB w' p' lm (fun i => .int .u64 (mf i)) ∧ Below w1.heap.size w1 w') := fun w1 hw => copy11 pm lm cm mf w1 h.m (hM.later hw)
  have HMA := fun (pu pn pt pm : Option Addr) (w : World) (x1 : QuadB w pu lu t.U) (x2 : RowB w pn ln (fun i => .int .u64 (t.N i))) (x3 : RowB w pt lt (fun i => .int .i64 (t.T i))) (x4 : RowB w pm lm (fun i => .int .u64 (mf i))) => model_all pu pn pt pm lu ln lt lm t mf a b f s w h ha hb hf1 x1 hUr x2 x3 x4
  obtain ⟨h1, h2, h3, h4, h5, h6, h7⟩ := h
  clear hU hUr hN hT hM
  go_enter Try.func5, Try.ntmps5
  go_wp2_with fail
  refine H9.mono ?_
  rintro e w' ⟨r, rfl, hw⟩
  obtain rfl := hw.symm
  cases r
  all_goals go_wp2_with fail
  · go_ret
    exact HE.out
  · refine H10.mono ?_
    rintro e w1 ⟨pu', rfl, _, hU1, hB1⟩
    go_wp2_with fail
    refine (H11.out w1 hB1).mono ?_
    rintro e w2 ⟨pn', rfl, _, hN2, hB2⟩
    have hB2' := hB1.trans (hB2.mono hB1.size)
    go_wp2_with fail
    refine (H12.out w2 hB2').mono ?_
    rintro e w3 ⟨pt', rfl, _, hT3, hB3⟩
    have hB3' := hB2'.trans (hB3.mono hB2'.size)
    go_wp2_with fail
    refine (H11m.out w3 hB3').mono ?_
    rintro e w4 ⟨pm', rfl, _, hM4, hB4⟩
    have hB4' := hB3'.trans (hB4.mono hB3'.size)
    have hm := HMA pu' pn' pt' pm' w4 (((hU1.later hB2).later hB3).later hB4) ((hN2.later hB3).later hB4) (hT3.later hB4) hM4
    go_wp2_with fail
    refine hm.mono ?_
    rintro e w5 ⟨fits, want, rfl, ⟨q, rfl⟩, hz⟩
    have hB5 : Below w.heap.size w (w4.drewN q) := below_drewN hB4' q
    cases fits with
    | false =>
      go_wp2_with fail
      go_ret
      exact ⟨rfl, hB5⟩
    | true =>
      have hz1 := hz rfl
      clear hz
      go_wp2_with fail
      refine hz1.mono ?_
      rintro e w6 ⟨rfl, hB6⟩
      have hB6' := hB5.trans (hB6.mono hB5.size)
      go_wp2_with fail
      go_ret
      exact ⟨by simp, hB6'⟩
end Go.Proofs.Qxb6605276a
