/- zzBytes (function 9): it returns some bool; and the model where the mask does not cover the leaves. -/
import Derived.Test.Qxb6605276aModel0
namespace Go.Proofs.Qxb6605276a
open Go.RowKit

def SomeBool (w : World) (e : Ending) (w' : World) : Prop := ∃ r : Bool, e = .returned (.bool r) ∧ w' = w

set_option maxHeartbeats 4000000 in
set_option maxRecDepth 100000 in
theorem bytes9 (pu pn pt pm : Option Addr) (lu ln lt lm cu cn ct cm : Nat) (a b f s : Int) (w : World) :
    Calls Try.prog 9 #[.slice pu lu cu, .slice pn ln cn, .slice pt lt ct, .int .i32 a, .int .i32 b, .slice pm lm cm, .int .i64 f, .int .i64 s] w (SomeBool w) := by
  go_enter Try.func9, Try.ntmps9
  go_wp2_with fail
  all_goals (go_ret; exact ⟨_, rfl, rfl⟩)

set_option maxHeartbeats 4000000 in
set_option maxRecDepth 100000 in
theorem model_bad (pu pn pt : Option Addr) (ad : Addr) (n lm cu cn ct cm : Nat) (a b : Nat) (f : Int) (s : Nat) (w : World) (h : Pre n n n lm s) (ha : a < n) (hb : b < n) (hbad : ¬ (0 ≤ f ∧ f + s ≤ lm)) (hf1 : f ≤ 9223372036854775807) :
    Calls Try.prog 13 #[.slice pu n cu, .slice pn n cn, .slice pt n ct, .int .i32 a, .int .i32 b, .slice (some ad) lm cm, .int .i64 f, .int .i64 s] w
      fun e w' => e = .returned (.tuple #[.bool false, .bool true]) ∧ w' = w := by
  obtain ⟨h1, h2, h3, h4, h5, h6, h7⟩ := h
  have q29 : ∀ (w : World) (a : Option Addr) (n c n' c' : Nat), (binOp .neq 29 (.slice a n c) (.slice none n' c')).run Try.prog w = .ok (.bool (!a.isNone)) w := fun w a n c n' c' => run_neq_slice_nil_any w _ _ a n c n' c' Try.underlying29
  have HBAD : Hid _ := hbad
  clear hbad
  go_enter Try.func13, Try.ntmps13
  go_wp2_with fail
  go_loopw [19] (fun v wr => ∃ (x : Nat), v = .int .i64 x ∧ 1 ≤ x ∧ x ≤ 65536 ∧ w = wr) (fun v _ => (intOf v).toNat)
  case atStart => exact ⟨s, rfl, by omega, by omega, rfl⟩
  case round =>
    obtain ⟨x, rfl, hx, hx2, rfl⟩ := hrel
    by_cases hx1 : x = 1
    · subst hx1
      by_cases e1 : f < 0
      · go_wp2_with fail
        go_ret2
        exact ⟨rfl, rfl⟩
      · by_cases e2 : (lm : Int) < f
        · go_wp2_with fail
          go_ret2
          exact ⟨rfl, rfl⟩
        · have e3 : (lm : Int) - f < s := by have hb2 : ¬ (0 ≤ f ∧ f + (s : Int) ≤ (lm : Int)) := HBAD.out; omega
          go_wp2_with fail
          go_ret2
          exact ⟨rfl, rfl⟩
    · by_cases hx4 : x % 4 = 0
      · obtain ⟨y, rfl⟩ : ∃ y, x = 4 * y := ⟨x / 4, by omega⟩
        clear hx4
        go_wp2_with fail
        go_roundw
        case rel => exact ⟨y, rfl, by omega, by omega, by first | rfl | trivial⟩
        case measure => simp [intOf]; omega
      · go_wp2_with fail
        go_ret2
        exact ⟨rfl, rfl⟩
end Go.Proofs.Qxb6605276a
