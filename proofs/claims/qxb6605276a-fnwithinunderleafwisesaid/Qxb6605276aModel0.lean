/- withinModelB1 (function 13). -/
import Derived.Test.Qxb6605276aZZ
namespace Go.Proofs.Qxb6605276a
open Go.RowKit

/-- What the law has checked ahead of the model. -/
structure Pre (lu ln lt lm : Nat) (s : Int) : Prop where
  u : lu ≤ 65536
  n : ln ≤ 131072
  t : lt ≤ 131072
  m : lm ≤ 131072
  sum : 16 * lu + 8 * ln + 8 * lt + 8 * lm ≤ 1048576
  lo : 1 ≤ s
  hi : s ≤ 65536

set_option maxHeartbeats 4000000 in
set_option maxRecDepth 100000 in
theorem model_lens (pu pn pt pm : Option Addr) (lu ln lt lm cu cn ct cm : Nat) (a b f s : Int) (w : World) (h : Pre lu ln lt lm s) (hne : ln ≠ lu ∨ lt ≠ lu) :
    Calls Try.prog 13 #[.slice pu lu cu, .slice pn ln cn, .slice pt lt ct, .int .i32 a, .int .i32 b, .slice pm lm cm, .int .i64 f, .int .i64 s] w
      fun e w' => e = .returned (.tuple #[.bool false, .bool true]) ∧ w' = w := by
  obtain ⟨h1, h2, h3, h4, h5, h6, h7⟩ := h
  by_cases e1 : ln = lu
  · have e2 : ((lt : Int) != (lu : Int)) = true := by simp; omega
    subst e1
    go_enter Try.func13, Try.ntmps13
    go_wp2_with fail
    go_ret2
    exact ⟨rfl, rfl⟩
  · have e2 : ((ln : Int) != (lu : Int)) = true := by simp; omega
    go_enter Try.func13, Try.ntmps13
    go_wp2_with fail
    go_ret2
    exact ⟨rfl, rfl⟩

set_option maxHeartbeats 4000000 in
set_option maxRecDepth 100000 in
theorem model_range (pu pn pt pm : Option Addr) (n lm cu cn ct cm : Nat) (a b f s : Int) (w : World) (h : Pre n n n lm s) (ha : -2147483648 ≤ a ∧ a ≤ 2147483647) (hb : -2147483648 ≤ b ∧ b ≤ 2147483647) (hne : ¬ (0 ≤ a ∧ a < n ∧ 0 ≤ b ∧ b < n)) :
    Calls Try.prog 13 #[.slice pu n cu, .slice pn n cn, .slice pt n ct, .int .i32 a, .int .i32 b, .slice pm lm cm, .int .i64 f, .int .i64 s] w
      fun e w' => e = .returned (.tuple #[.bool false, .bool true]) ∧ w' = w := by
  obtain ⟨h1, h2, h3, h4, h5, h6, h7⟩ := h
  obtain ⟨ha1, ha2⟩ := ha
  obtain ⟨hb1, hb2⟩ := hb
  by_cases e1 : a < 0
  · clear hne
    go_enter Try.func13, Try.ntmps13
    go_wp2_with fail
    go_ret2
    exact ⟨rfl, rfl⟩
  · by_cases e2 : b < 0
    · clear hne
      go_enter Try.func13, Try.ntmps13
      go_wp2_with fail
      go_ret2
      exact ⟨rfl, rfl⟩
    · by_cases e3 : a < n
      · have e4 : (n : Int) ≤ b := by omega
        clear hne
        go_enter Try.func13, Try.ntmps13
        go_wp2_with fail
        go_ret2
        exact ⟨rfl, rfl⟩
      · have e4 : (n : Int) ≤ a := by omega
        clear hne
        go_enter Try.func13, Try.ntmps13
        go_wp2_with fail
        go_ret2
        exact ⟨rfl, rfl⟩

/-- What the model answers. -/
def ModelPost (t : Nd) (n : Nat) (mk : Option (Nat → Int)) (lm a b : Nat) (f : Int) (s : Nat) (fits want : Bool) : Prop :=
  fits = true → ∃ d, d ≤ 8 ∧ s = 4 ^ d ∧ (mk.isSome = true → 0 ≤ f ∧ f + s ≤ lm) ∧ Fits t n d a b ∧ (want = true ↔ Want t n mk d a b f.toNat)

/-- What stands behind the model's return. -/
def MPost (w : World) (t : Nd) (n : Nat) (mk : Option (Nat → Int)) (lm a b : Nat) (f : Int) (s : Nat) (e : Ending) (w' : World) : Prop :=
  ∃ fits want, e = .returned (.tuple #[.bool fits, .bool want]) ∧ (∃ q, w' = w.drewN q) ∧ ModelPost t n mk lm a b f s fits want

theorem pow_le8 {d s : Nat} (h : s = 4 ^ d) (hs : s ≤ 65536) : d ≤ 8 := by
  rcases Nat.lt_or_ge 8 d with h1 | h1
  · have := Nat.pow_le_pow_right (n := 4) (by omega) h1
    have e : (4 : Nat) ^ (8 + 1) = 262144 := by decide
    rw [Nat.succ_eq_add_one, e] at this
    omega
  · exact h1

/-- Every leaf place below j is looked at. -/
def FitsTo (t : Nd) (n e a b j : Nat) : Prop := ∀ j', j' < j → ∃ r, run t n e a b (t.T a == 0) j' = some r ∧ (r.2.2 = true → t.N r.1 = 0)
def WantTo (t : Nd) (n : Nat) (mk : Option (Nat → Int)) (e a b f j : Nat) : Prop := ∀ j', j' < j → ∀ r, run t n e a b (t.T a == 0) j' = some r → dm (t.N r.1) (t.N r.2.1) (mk.map (· (f + j'))) = 0

theorem fits_step {t : Nd} {n e a b j x y : Nat} {sp : Bool} (h : FitsTo t n e a b j) (hr : run t n e a b (t.T a == 0) j = some (x, y, sp)) (hs : sp = true → t.N x = 0) : FitsTo t n e a b (j + 1) := by
  intro j' hj'
  rcases Nat.lt_or_ge j' j with h1 | h1
  · exact h j' h1
  · obtain rfl : j' = j := by omega
    exact ⟨_, hr, hs⟩
theorem want_step {t : Nd} {n : Nat} {mk : Option (Nat → Int)} {e a b f j x y : Nat} {sp want want' : Bool} (h : want = true ↔ WantTo t n mk e a b f j) (hr : run t n e a b (t.T a == 0) j = some (x, y, sp))
    (hw : want' = true ↔ want = true ∧ dm (t.N x) (t.N y) (mk.map (· (f + j))) = 0) : want' = true ↔ WantTo t n mk e a b f (j + 1) := by
  rw [hw, h]
  constructor
  · rintro ⟨h1, h2⟩ j' hj' r hr'
    rcases Nat.lt_or_ge j' j with h3 | h3
    · exact h1 j' h3 r hr'
    · obtain rfl : j' = j := by omega
      rw [hr] at hr'
      cases hr'
      exact h2
  · intro h1
    refine ⟨fun j' hj' r hr' => h1 j' (Nat.lt_succ_of_lt hj') r hr', ?_⟩
    have h2 := h1 j (Nat.lt_succ_self j) (x, y, sp) hr
    exact h2

theorem run_down {t : Nd} {n d x y j k cx cy : Nat} {sp : Bool} (hk : j / 4 ^ d % 4 = k) (hx : t.U x k = (cx : Int)) (hy : t.U y k = (cy : Int)) (hcx : cx < n) (hcy : cy < n) :
    run t n (d + 1) x y sp j = run t n d cx cy (sp || t.T cx == 0) j := by
  have e1 : t.c x k = cx := by simp [Nd.c, hx]
  have e2 : t.c y k = cy := by simp [Nd.c, hy]
  have i1 : inR n (t.U x k) = true := by simp [inR, hx]; omega
  have i2 : inR n (t.U y k) = true := by simp [inR, hy]; omega
  rw [run_succ, hk, i1, i2, e1, e2]
  rfl

end Go.Proofs.Qxb6605276a
