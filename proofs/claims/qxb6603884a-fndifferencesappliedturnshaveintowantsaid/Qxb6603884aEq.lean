/-
  zzEq (function 11), zzSame (function 10): two byte slices compared.
-/
import Derived.Test.Qxb6603884aRows
import Derived.Test.Qxb6603884aKit
import Derived.WalkSpells
import Derived.WalkLawsBesides
import Derived.Deep.QuietTactic
import Derived.BigQuiet
namespace Go.Proofs.Qxb6603884a
open Go.RowKit

def nums (l : Bs) : List Int := l.map fun b => (b.toNat : Int)
theorem nums_length (l : Bs) : (nums l).length = l.length := by simp [nums]
theorem nums_getD (l : Bs) (i : Nat) (h : i < l.length) : (nums l).getD i 0 = ((l[i]).toNat : Int) := by simp [nums, List.getD_eq_getElem?_getD, h]

/-- The header h reads, in w, as the bytes l. -/
def ByA (w : World) (h : Hd) (l : Bs) : Prop :=
  l.length = h.2.1 ∧ (0 < h.2.1 → ∃ b o, h.1 = some ⟨b, o, none⟩ ∧ ∀ i, i < h.2.1 → w.cell? ⟨b, o + i, none⟩ = some (.int .u8 ((nums l).getD i 0)))

theorem ByA.later {w w' : World} {h : Hd} {l : Bs} (hb : ByA w h l) (hB : Below w.heap.size w w') : ByA w' h l := by
  refine ⟨hb.1, fun hp => ?_⟩
  obtain ⟨b, o, e, hc⟩ := hb.2 hp
  refine ⟨b, o, e, fun i hi => ?_⟩
  have h0 := hc i hi
  exact cell_later hB h0

theorem take_next {l : Bs} {k : Nat} (h : k < l.length) : l.take (k + 1) = l.take k ++ [l[k]] := by
  rw [List.take_succ_eq_append_getElem h]

theorem eq_step {la lb : Bs} {k : Nat} (ha : k < la.length) (hb : k < lb.length) (h : la.take k = lb.take k) (e : ((la[k]).toNat : Int) = ((lb[k]).toNat : Int)) : la.take (k + 1) = lb.take (k + 1) := by
  have : la[k] = lb[k] := UInt8.toNat_inj.1 (by omega)
  rw [take_next ha, take_next hb, h, this]

theorem ne_step {la lb : Bs} {k : Nat} (ha : k < la.length) (hb : k < lb.length) (e : ((la[k]).toNat : Int) ≠ ((lb[k]).toNat : Int)) : (la == lb) = false := by
  rw [beq_eq_false_iff_ne]
  intro he
  subst he
  exact e rfl

set_option maxHeartbeats 400000 in
theorem zzEq_calls (p1 p2 : Option Addr) (n1 c1 n2 c2 : Nat) (la lb : Bs) (w : World) (h1 : ByA w (p1, n1, c1) la) (h2 : ByA w (p2, n2, c2) lb) (hs : n1 ≤ 9223372036854775807) (hs2 : n2 ≤ 9223372036854775807) :
    Calls Try.prog 11 #[.slice p1 n1 c1, .slice p2 n2 c2] w fun e w' => e = .returned (.bool (la == lb)) ∧ ∃ q, w' = w.drewN q := by
  obtain ⟨l1, k1⟩ := h1
  obtain ⟨l2, k2⟩ := h2
  simp only at l1 l2 k1 k2
  by_cases hl : n1 = n2
  · subst hl
    by_cases h0 : n1 = 0
    · subst h0
      obtain rfl : la = [] := List.eq_nil_of_length_eq_zero l1
      obtain rfl : lb = [] := List.eq_nil_of_length_eq_zero l2
      clear k1 k2 l1 l2
      go_enter Try.func11, Try.ntmps11
      go_wp2
      refine wp_loop_rounds 1 ?_
      rw [rounds_succ]
      go_wp2
      go_ret
      exact ⟨rfl, 0, rfl⟩
    · obtain ⟨b1, o1, rfl, cc1⟩ := k1 (by omega)
      obtain ⟨b2, o2, rfl, cc2⟩ := k2 (by omega)
      clear k1 k2
      go_enter Try.func11, Try.ntmps11
      go_wp2
      go_loopw [13] (fun i wr => ∃ k q : Nat, k ≤ n1 ∧ i = .int .i64 k ∧ wr = w.drewN q ∧ Hid (la.take k = lb.take k)) (fun i _ => n1 - (intOf i).toNat)
      case atStart => exact ⟨0, 0, Nat.zero_le _, rfl, rfl, by simp [Hid]⟩
      case round =>
        obtain ⟨k, q, hk, rfl, rfl, HT⟩ := hrel
        by_cases hlt : k < n1
        · have d1 := cc1 k hlt
          have d2 := cc2 k hlt
          rw [nums_getD la k (by omega)] at d1
          rw [nums_getD lb k (by omega)] at d2
          clear cc1 cc2
          have HS : Hid (((la[k]'(by omega)).toNat : Int) = ((lb[k]'(by omega)).toNat : Int) → la.take (k + 1) = lb.take (k + 1)) := eq_step (by omega) (by omega) HT.out
          have HN : Hid (((la[k]'(by omega)).toNat : Int) ≠ ((lb[k]'(by omega)).toNat : Int) → (la == lb) = false) := ne_step (by omega) (by omega)
          generalize ((la[k]'(by omega)).toNat : Int) = x at d1 HS HN
          generalize ((lb[k]'(by omega)).toNat : Int) = y at d2 HS HN
          by_cases hxy : x = y
          · subst hxy
            have HS1 : Hid (la.take (k + 1) = lb.take (k + 1)) := HS.out rfl
            clear HS HN
            have hne : (x != x) = false := by simp
            go_wp2_with fail
            go_quiet (fail)
            go_wp2
            go_roundw
            case rel => exact ⟨k + 1, _, by omega, by go_num, rfl, HS1.out⟩
            case measure => simp [intOf]; omega
          · have HN1 : Hid ((la == lb) = false) := HN.out hxy
            clear HS HN
            have hne : (x != y) = true := by simpa using hxy
            go_wp2_with fail
            go_quiet (fail)
            go_wp2
            go_ret
            exact ⟨by rw [HN1.out]; rfl, _, World.drewN_drewN ..⟩
        · go_wp2
          go_ret
          have : la = lb := by
            have := HT.out
            rwa [List.take_of_length_le (by omega), List.take_of_length_le (by omega)] at this
          exact ⟨by rw [this]; simp, _, rfl⟩
  · have hne : ((n1 : Int) != (n2 : Int)) = true := by simp; omega
    have hx : (la == lb) = false := by
      rw [beq_eq_false_iff_ne]
      intro e
      rw [e] at l1
      omega
    have HX : Hid ((la == lb) = false) := hx
    clear k1 k2 hx
    go_enter Try.func11, Try.ntmps11
    go_wp2
    go_ret
    exact ⟨by rw [HX.out]; rfl, 0, rfl⟩

set_option maxHeartbeats 400000 in
theorem zzSame_calls (p1 p2 : Option Addr) (n1 c1 n2 c2 : Nat) (la lb : Bs) (w : World) (h1 : ByA w (p1, n1, c1) la) (h2 : ByA w (p2, n2, c2) lb) (hs : n1 ≤ 9223372036854775807) (hs2 : n2 ≤ 9223372036854775807) :
    Calls Try.prog 10 #[.slice p1 n1 c1, .slice p2 n2 c2] w fun e w' => e = .returned (.bool ((p1.isNone == p2.isNone) && (la == lb))) ∧ ∃ q, w' = w.drewN q := by
  have hc := zzEq_calls p1 p2 n1 c1 n2 c2 la lb w h1 h2 hs hs2
  generalize (la == lb) = r at hc
  clear h1 h2
  have q31 : ∀ (w : World) (a : Option Addr) (n c n' c' : Nat), (binOp .eql 31 (.slice a n c) (.slice none n' c')).run Try.prog w = .ok (.bool a.isNone) w := fun w a n c n' c' => Lib.run_eql_slice_nil w _ _ a n c n' c' Try.underlying31
  cases p1 <;> cases p2
  all_goals
    simp only [Option.isNone_none, Option.isNone_some]
    go_enter Try.func10, Try.ntmps10
    go_wp2_with (go_at_call 11; refine hc.mono ?_; rintro e w' ⟨rfl, q, rfl⟩)
    go_ret
    first | exact ⟨by simp, _, rfl⟩ | exact ⟨by simp, 0, rfl⟩

end Go.Proofs.Qxb6603884a
