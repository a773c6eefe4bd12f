/- withinUnder (function 16): the walk. -/
import Derived.Test.Qxb6605276aPlain
import Derived.BigQuiet
import Derived.BigRegion
import Derived.BigCall
import Derived.BigGuard
import Derived.Below
namespace Go.Proofs.Qxb6605276a
open Go.RowKit

/-- The nodes lie in block B, seven cells each. -/
def NodesAt (w : World) (B n : Nat) (t : Nd) : Prop :=
  ∀ i, i < n → (∀ k, k < 4 → w.cell? ⟨B, i * 7 + k, none⟩ = some (.int .i32 (t.U i k))) ∧ w.cell? ⟨B, i * 7 + 4, none⟩ = some (.int .u64 (t.N i)) ∧ w.cell? ⟨B, i * 7 + 6, none⟩ = some (.int .i64 (t.T i))
theorem NodesAt.cells {w W : World} {B n : Nat} {t : Nd} (h : NodesAt w B n t) (hW : ∀ a : Addr, W.cell? a = w.cell? a) : NodesAt W B n t := fun i hi => by
  obtain ⟨h1, h2, h3⟩ := h i hi
  exact ⟨fun k hk => (hW _).trans (h1 k hk), (hW _).trans h2, (hW _).trans h3⟩

theorem quiet_add {P : Program} {f : FuncId} {args : Array Value} {w : World} {B x : Nat} {v : Value} (h : Calls P f args (w.drewN (B + x)) fun e w' => e = .returned v ∧ ∃ m, w' = (w.drewN (B + x)).drewN m) :
    Calls P f args (w.drewN (B + x)) fun e w'' => e = .returned v ∧ ∃ n, w'' = w.drewN (B + n) :=
  h.mono fun _ _ ⟨he, m, hm⟩ => ⟨he, x + m, by rw [hm, World.drewN_drewN, Nat.add_assoc]⟩

theorem beq_nat_int {x y : Nat} : ((x : Int) == (y : Int)) = (x == y) := by
  by_cases h : x = y
  · subst h; simp
  · have h1 : ((x : Int) == (y : Int)) = false := by simp; omega
    have h2 : (x == y) = false := by simpa using h
    rw [h1, h2]

set_option maxHeartbeats 2000000 in
set_option maxRecDepth 100000 in
/-- Ahead of all else: the same node, or none left. -/
theorem wu_early {w : World} {S B n : Nat} {t : Nd} {x y : Nat} (hx : x < n) (hy : y < n) (hN : NodesAt w B n t) (hS : w.cell? ⟨S, 3, none⟩ = some (.slice (some ⟨B, 0, none⟩) n n))
    (p : Option Addr) (ml mc : Nat) (f s : Int) (h : (x == y || t.T x == 0) = true) :
    Calls Try.prog 16 #[.pointer (some ⟨S, 0, none⟩), .int .i32 x, .int .i32 y, .slice p ml mc, .int .i64 f, .int .i64 s] w fun e w' => e = .returned (.bool true) ∧ ∃ q, w' = w.drewN q := by
  have hcx := (hN x hx).2.2
  cases hxy : x == y with
  | true =>
    have hne : ((x : Int) == (y : Int)) = true := by rw [beq_nat_int]; exact hxy
    go_enter Try.func16, Try.ntmps16
    go_wp2_with fail
    go_quiet (fail)
    go_wp2_with fail
    go_ret
    exact ⟨rfl, _, rfl⟩
  | false =>
    have hne : ((x : Int) == (y : Int)) = false := by rw [beq_nat_int]; exact hxy
    have hT : (t.T x == 0) = true := by simpa [hxy] using h
    go_enter Try.func16, Try.ntmps16
    go_wp2_with fail
    go_quiet (fail)
    go_wp2_with fail
    go_ret
    exact ⟨rfl, _, rfl⟩

set_option maxHeartbeats 2000000 in
set_option maxRecDepth 100000 in
theorem wu_leaf_nil {w : World} {S B n : Nat} {t : Nd} {x y : Nat} (hx : x < n) (hy : y < n) (hN : NodesAt w B n t) (hS : w.cell? ⟨S, 3, none⟩ = some (.slice (some ⟨B, 0, none⟩) n n))
    (ml mc : Nat) (f : Int) (h : (x == y || t.T x == 0) = false) :
    Calls Try.prog 16 #[.pointer (some ⟨S, 0, none⟩), .int .i32 x, .int .i32 y, .slice none ml mc, .int .i64 f, .int .i64 1] w fun e w' => e = .returned (.bool (dm (t.N x) (t.N y) none == 0)) ∧ ∃ q, w' = w.drewN q := by
  obtain ⟨h1, h2⟩ : (x == y) = false ∧ (t.T x == 0) = false := by simpa using h
  have hne : ((x : Int) == (y : Int)) = false := by rw [beq_nat_int]; exact h1
  have hcx := (hN x hx).2.2
  have hnx := (hN x hx).2.1
  have hny := (hN y hy).2.1
  have q29 : ∀ (w : World) (a : Option Addr) (n c n' c' : Nat), (binOp .neq 29 (.slice a n c) (.slice none n' c')).run Try.prog w = .ok (.bool (!a.isNone)) w := fun w a n c n' c' => run_neq_slice_nil_any w _ _ a n c n' c' Try.underlying29
  rw [show dm (t.N x) (t.N y) none = bits .andNot .u64 (t.N x) (t.N y) from rfl]
  generalize t.N x = nx at hnx
  generalize t.N y = ny at hny
  generalize hv : bits .andNot .u64 nx ny = v
  go_enter Try.func16, Try.ntmps16
  go_wp2_with fail
  go_quiet (fail)
  go_wp2_with fail
  go_quiet (fail)
  go_wp2_with fail
  go_ret
  exact ⟨rfl, _, rfl⟩

set_option maxHeartbeats 2000000 in
set_option maxRecDepth 100000 in
theorem wu_leaf_some {w : World} {S B n : Nat} {t : Nd} {x y : Nat} (hx : x < n) (hy : y < n) (hN : NodesAt w B n t) (hS : w.cell? ⟨S, 3, none⟩ = some (.slice (some ⟨B, 0, none⟩) n n))
    (mb mo ml mc f : Nat) (z : Int) (hf : f < ml) (hm : w.cell? ⟨mb, mo + f, none⟩ = some (.int .u64 z)) (h : (x == y || t.T x == 0) = false) :
    Calls Try.prog 16 #[.pointer (some ⟨S, 0, none⟩), .int .i32 x, .int .i32 y, .slice (some ⟨mb, mo, none⟩) ml mc, .int .i64 f, .int .i64 1] w fun e w' => e = .returned (.bool (dm (t.N x) (t.N y) (some z) == 0)) ∧ ∃ q, w' = w.drewN q := by
  obtain ⟨h1, h2⟩ : (x == y) = false ∧ (t.T x == 0) = false := by simpa using h
  have hne : ((x : Int) == (y : Int)) = false := by rw [beq_nat_int]; exact h1
  have hcx := (hN x hx).2.2
  have hnx := (hN x hx).2.1
  have hny := (hN y hy).2.1
  have q29 : ∀ (w : World) (a : Option Addr) (n c n' c' : Nat), (binOp .neq 29 (.slice a n c) (.slice none n' c')).run Try.prog w = .ok (.bool (!a.isNone)) w := fun w a n c n' c' => run_neq_slice_nil_any w _ _ a n c n' c' Try.underlying29
  rw [show dm (t.N x) (t.N y) (some z) = bits .and .u64 (bits .andNot .u64 (t.N x) (t.N y)) z from rfl]
  generalize t.N x = nx at hnx
  generalize t.N y = ny at hny
  generalize hv : bits .andNot .u64 nx ny = v
  generalize hv2 : bits .and .u64 v z = v2
  go_enter Try.func16, Try.ntmps16
  go_wp2_with fail
  go_quiet (fail)
  go_wp2_with fail
  go_quiet (fail)
  go_wp2_with fail
  go_ret
  exact ⟨rfl, _, rfl⟩

set_option maxHeartbeats 2000000 in
set_option maxRecDepth 100000 in
theorem wu_inner {w : World} {S B n : Nat} {t : Nd} {x y : Nat} (hx : x < n) (hy : y < n) (hN : NodesAt w B n t) (hS : w.cell? ⟨S, 3, none⟩ = some (.slice (some ⟨B, 0, none⟩) n n))
    (p : Option Addr) (ml mc : Nat) (f : Int) (q : Nat) (hq : 0 < q) (hq2 : q ≤ 65536) (h : (x == y || t.T x == 0) = false) (R : Nat → Bool)
    (hc : ∀ k, k < 4 → ∀ W : World, (∀ a : Addr, W.cell? a = w.cell? a) → Calls Try.prog 16 #[.pointer (some ⟨S, 0, none⟩), .int .i32 (t.U x k), .int .i32 (t.U y k), .slice p ml mc, .int .i64 (wrap64 (f + wrap64 ((k : Int) * (q : Int)))), .int .i64 q] W fun e w' => e = .returned (.bool (R k)) ∧ ∃ q, w' = W.drewN q) :
    Calls Try.prog 16 #[.pointer (some ⟨S, 0, none⟩), .int .i32 x, .int .i32 y, .slice p ml mc, .int .i64 f, .int .i64 ((4 * q : Nat) : Int)] w fun e w' => e = .returned (.bool ((List.range 4).all R)) ∧ ∃ q, w' = w.drewN q := by
  obtain ⟨h1, h2⟩ : (x == y) = false ∧ (t.T x == 0) = false := by simpa using h
  have hne : ((x : Int) == (y : Int)) = false := by rw [beq_nat_int]; exact h1
  have hcx := (hN x hx).2.2
  have hux := (hN x hx).1
  have huy := (hN y hy).1
  have HC : Hid _ := hc
  clear hc
  go_enter Try.func16, Try.ntmps16
  go_wp2_with fail
  go_quiet (fail)
  go_wp2_with fail
  go_loopw [64] (fun i wr => ∃ k q' : Nat, k ≤ 4 ∧ i = .int .i64 k ∧ wr = w.drewN q' ∧ Hid (∀ j, j < k → R j = true)) (fun i _ => 4 - (intOf i).toNat)
  case atStart => exact ⟨0, _, by omega, rfl, rfl, fun j hj => absurd hj (Nat.not_lt_zero j)⟩
  case round =>
    obtain ⟨k, q', hk, rfl, rfl, HR⟩ := hrel
    by_cases hlt : k < 4
    · have hc1 := hux k hlt
      have hc2 := huy k hlt
      have HK : Hid _ := HC.out k hlt
      cases hRk : R k with
      | true =>
        have HR2 : Hid (∀ j, j < k + 1 → R j = true) := fun j hj => by
          rcases Nat.lt_or_ge j k with h1 | h1
          · exact HR.out j h1
          · obtain rfl : j = k := by omega
            exact hRk
        rw [hRk] at HK
        clear hux huy HC hRk HR
        go_wp2_with fail
        go_quiet ((go_at_call 16; exact quiet_add (HK.out _ (fun _ => rfl))))
        go_wp2_with fail
        go_roundw
        case rel => exact ⟨k + 1, _, by omega, by go_num, rfl, HR2.out⟩
        case measure => simp [intOf]; omega
      | false =>
        have HA : Hid ((List.range 4).all R = false) := by
          show (List.range 4).all R = false
          rw [List.all_eq_false]
          exact ⟨k, by simpa using hlt, by simp [hRk]⟩
        rw [hRk] at HK
        clear hux huy HC hRk HR
        go_wp2_with fail
        go_quiet ((go_at_call 16; exact quiet_add (HK.out _ (fun _ => rfl))))
        go_wp2_with fail
        go_ret
        exact ⟨by rw [HA.out]; rfl, _, World.drewN_drewN ..⟩
    · obtain rfl : k = 4 := by omega
      have HA : Hid ((List.range 4).all R = true) := by
        show (List.range 4).all R = true
        rw [List.all_eq_true]
        exact fun j hj => HR.out j (by simpa using hj)
      clear hux huy HC HR
      go_wp2_with fail
      go_ret
      exact ⟨by rw [HA.out]; rfl, _, rfl⟩

theorem c_cast {t : Nd} {x k : Nat} (h : 0 ≤ t.U x k) : t.U x k = ((t.c x k : Nat) : Int) := by unfold Nd.c; omega

theorem wrap_small (f m : Nat) (h : f + m ≤ 400000) : wrap64 ((f : Int) + wrap64 (m : Int)) = ((f + m : Nat) : Int) := by
  have e : wrap64 (m : Int) = m := by unfold wrap64; omega
  rw [e]
  unfold wrap64
  omega

theorem wrap_mul (f k Q : Nat) (h : f + k * Q ≤ 400000) : wrap64 ((f : Int) + wrap64 ((k : Int) * (Q : Int))) = ((f + k * Q : Nat) : Int) := by
  rw [← Int.natCast_mul]
  exact wrap_small _ _ h

theorem wu_nil (n : Nat) (t : Nd) (S B ml mc : Nat) : ∀ (d x y : Nat) (f : Int) (w : World), x < n → y < n → Fits t n d x y → d ≤ 8 → NodesAt w B n t → w.cell? ⟨S, 3, none⟩ = some (.slice (some ⟨B, 0, none⟩) n n) →
    Calls Try.prog 16 #[.pointer (some ⟨S, 0, none⟩), .int .i32 x, .int .i32 y, .slice none ml mc, .int .i64 f, .int .i64 ((4 ^ d : Nat) : Int)] w fun e w' => e = .returned (.bool (W t none d x y 0)) ∧ ∃ q, w' = w.drewN q := by
  intro d
  induction d with
  | zero =>
    intro x y f w hx hy hF _ hN hS
    cases he : (x == y || t.T x == 0) with
    | true =>
      have e : W t none 0 x y 0 = true := by unfold W; rw [he]; rfl
      rw [e]
      exact wu_early hx hy hN hS none ml mc f _ he
    | false =>
      have e : W t none 0 x y 0 = (dm (t.N x) (t.N y) none == 0) := by unfold W; rw [he]; rfl
      rw [e]
      exact wu_leaf_nil hx hy hN hS ml mc f he
  | succ d ih =>
    intro x y f w hx hy hF hd hN hS
    cases he : (x == y || t.T x == 0) with
    | true =>
      have e : W t none (d + 1) x y 0 = true := by unfold W; rw [he]; rfl
      rw [e]
      exact wu_early hx hy hN hS none ml mc f _ he
    | false =>
      have e : W t none (d + 1) x y 0 = (List.range 4).all fun k => W t none d (t.c x k) (t.c y k) 0 := by
        conv => lhs; unfold W
        rw [he, Bool.false_or]
        congr 1
        funext k
        exact W_none t d _ _ _ _
      have hT : (t.T x == 0) = false := by simp at he ⊢; exact he.2
      have h4 : 4 ^ d ≤ 65536 := by
        have := Nat.pow_le_pow_right (n := 4) (by omega) (show d ≤ 8 from by omega)
        simpa using this
      rw [e, show (4 ^ (d + 1) : Nat) = 4 * 4 ^ d from by rw [Nat.pow_succ, Nat.mul_comm]]
      refine wu_inner hx hy hN hS none ml mc f (4 ^ d) (Nat.pow_pos (by omega)) h4 he _ fun k hk W hW => ?_
      obtain ⟨h1, h2, h3, _⟩ := hF.child hT hk
      rw [c_cast h1.1, c_cast h2.1]
      exact ih _ _ _ W (by have := c_cast h1.1; omega) (by have := c_cast h2.1; omega) h3 (by omega) (hN.cells hW) ((hW _).trans hS)

theorem wu_some (n : Nat) (t : Nd) (S B mb mo ml mc : Nat) (mf : Nat → Int) (hml : ml ≤ 131072) : ∀ (d x y f : Nat) (w : World), x < n → y < n → Fits t n d x y → d ≤ 8 → f + 4 ^ d ≤ ml → NodesAt w B n t → w.cell? ⟨S, 3, none⟩ = some (.slice (some ⟨B, 0, none⟩) n n) →
    (∀ i, i < ml → w.cell? ⟨mb, mo + i, none⟩ = some (.int .u64 (mf i))) →
    Calls Try.prog 16 #[.pointer (some ⟨S, 0, none⟩), .int .i32 x, .int .i32 y, .slice (some ⟨mb, mo, none⟩) ml mc, .int .i64 f, .int .i64 ((4 ^ d : Nat) : Int)] w fun e w' => e = .returned (.bool (W t (some mf) d x y f)) ∧ ∃ q, w' = w.drewN q := by
  intro d
  induction d with
  | zero =>
    intro x y f w hx hy hF _ hf hN hS hM
    cases he : (x == y || t.T x == 0) with
    | true =>
      have e : W t (some mf) 0 x y f = true := by unfold W; rw [he]; rfl
      rw [e]
      exact wu_early hx hy hN hS _ ml mc f _ he
    | false =>
      have e : W t (some mf) 0 x y f = (dm (t.N x) (t.N y) (some (mf f)) == 0) := by unfold W; rw [he]; rfl
      rw [e]
      exact wu_leaf_some hx hy hN hS mb mo ml mc f _ (by simp at hf; omega) (hM f (by simp at hf; omega)) he
  | succ d ih =>
    intro x y f w hx hy hF hd hf hN hS hM
    cases he : (x == y || t.T x == 0) with
    | true =>
      have e : W t (some mf) (d + 1) x y f = true := by unfold W; rw [he]; rfl
      rw [e]
      exact wu_early hx hy hN hS _ ml mc f _ he
    | false =>
      have e : W t (some mf) (d + 1) x y f = (List.range 4).all fun k => W t (some mf) d (t.c x k) (t.c y k) (f + k * 4 ^ d) := by
        conv => lhs; unfold W
        rw [he, Bool.false_or]
      have hT : (t.T x == 0) = false := by simp at he ⊢; exact he.2
      have h4 : 4 ^ d ≤ 65536 := by
        have := Nat.pow_le_pow_right (n := 4) (by omega) (show d ≤ 8 from by omega)
        simpa using this
      rw [e, show (4 ^ (d + 1) : Nat) = 4 * 4 ^ d from by rw [Nat.pow_succ, Nat.mul_comm]]
      rw [Nat.pow_succ] at hf
      refine wu_inner hx hy hN hS _ ml mc f (4 ^ d) (Nat.pow_pos (by omega)) h4 he _ fun k hk W hW => ?_
      obtain ⟨h1, h2, h3, _⟩ := hF.child hT hk
      have hkq : k * 4 ^ d ≤ 3 * 4 ^ d := Nat.mul_le_mul_right _ (by omega)
      have hle : f + k * 4 ^ d + 4 ^ d ≤ ml := by
        generalize 4 ^ d = Q at hf hkq ⊢
        omega
      have hw := wrap_mul f k (4 ^ d) (by generalize 4 ^ d = Q at hle ⊢; omega)
      rw [c_cast h1.1, c_cast h2.1, hw]
      exact ih _ _ _ W (by have := c_cast h1.1; omega) (by have := c_cast h2.1; omega) h3 (by omega) hle (hN.cells hW) ((hW _).trans hS) (fun i hi => (hW _).trans (hM i hi))
end Go.Proofs.Qxb6605276a
