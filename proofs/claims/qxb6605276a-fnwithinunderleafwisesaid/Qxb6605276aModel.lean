/- withinModelB1 (function 13), no mask: the three loops. -/
import Derived.Test.Qxb6605276aModel0
namespace Go.Proofs.Qxb6605276a
open Go.RowKit

set_option maxHeartbeats 8000000 in
set_option maxRecDepth 100000 in
theorem model_nil (bu bn bt n cu cn ct cm : Nat) (a b : Nat) (f : Int) (s : Nat) (w : World) (t : Nd) (h : Pre n n n 0 s) (ha : a < n) (hb : b < n)
    (hU : ∀ i, i < n → ∀ k, k < 4 → w.cell? ⟨bu, i * 4 + k, none⟩ = some (.int .i32 (t.U i k)))
    (hUr : ∀ i, i < n → ∀ k, k < 4 → -2147483648 ≤ t.U i k ∧ t.U i k ≤ 2147483647)
    (hN : ∀ i, i < n → w.cell? ⟨bn, i, none⟩ = some (.int .u64 (t.N i)))
    (hT : ∀ i, i < n → w.cell? ⟨bt, i, none⟩ = some (.int .i64 (t.T i))) :
    Calls Try.prog 13 #[.slice (some ⟨bu, 0, none⟩) n cu, .slice (some ⟨bn, 0, none⟩) n cn, .slice (some ⟨bt, 0, none⟩) n ct, .int .i32 a, .int .i32 b, .slice none 0 cm, .int .i64 f, .int .i64 s] w
      (MPost w t n none 0 a b f s) := by
  obtain ⟨h1, h2, h3, h4, h5, h6, h7⟩ := h
  have q29 : ∀ (w : World) (a : Option Addr) (n c n' c' : Nat), (binOp .neq 29 (.slice a n c) (.slice none n' c')).run Try.prog w = .ok (.bool (!a.isNone)) w := fun w a n c n' c' => run_neq_slice_nil_any w _ _ a n c n' c' Try.underlying29
  have HFalse : Hid (ModelPost t n none 0 a b f s false true) := fun h => by cases h
  have g1 : decide ((65536 : Int) < (n : Int)) = false := by simp; omega
  have g2 : decide ((131072 : Int) < (n : Int)) = false := by simp; omega
  have g6 : decide (n ≤ a) = false := by simp; omega
  have g7 : decide (n ≤ b) = false := by simp; omega
  have g8 : decide ((s : Int) < 1) = false := by simp; omega
  have g9 : decide ((65536 : Int) < (s : Int)) = false := by simp; omega
  have g4 : decide ((1048576 : Int) < 16 * (n : Int) + 8 * (n : Int) + 8 * (n : Int)) = false := by simp; omega
  have HU : Hid _ := hU
  have HR : Hid _ := hUr
  have HN : Hid _ := hN
  have HT : Hid _ := hT
  clear hU hN hT hUr
  go_enter Try.func13, Try.ntmps13
  go_wp2_with fail
  go_loopw [19] (fun v wr => ∃ (x e : Nat), v = .int .i64 x ∧ 1 ≤ x ∧ x ≤ 65536 ∧ Hid (x * 4 ^ e = s) ∧ w = wr) (fun v _ => (intOf v).toNat)
  case atStart => exact ⟨s, 0, rfl, by omega, by omega, by simp [Hid], rfl⟩
  case round =>
    obtain ⟨x, e, rfl, hx, hx2, HE, rfl⟩ := hrel
    by_cases hx1 : x = 1
    · subst hx1
      have HS : Hid (s = 4 ^ e) := by have := HE.out; show s = _; omega
      have HD : Hid (e ≤ 8) := pow_le8 HS.out (by omega)
      clear HE
      go_wp2_with fail
      go_loopw [20, 21] (fun vw vj wr => ∃ (want : Bool) (j q : Nat), vw = .bool want ∧ vj = .int .i64 j ∧ j ≤ s ∧ wr = w.drewN q ∧ Hid (FitsTo t n e a b j) ∧ Hid (want = true ↔ WantTo t n none e a b f.toNat j)) (fun _ vj _ => s - (intOf vj).toNat)
      case atStart => exact ⟨true, 0, 0, rfl, rfl, by omega, rfl, fun j' h => absurd h (Nat.not_lt_zero j'), ⟨fun _ j' h => absurd h (Nat.not_lt_zero j'), fun _ => rfl⟩⟩
      case round =>
        obtain ⟨want, j, q, rfl, rfl, hj, rfl, HFT, HWT⟩ := hrel
        by_cases hlt : j < s
        · have hTa := HT.out a ha
          go_wp2_with fail
          go_loopw [22, 23, 24, 25] (fun va vb vs v wr => ∃ (x y d q4 : Nat) (sp : Bool), va = .int .i64 x ∧ vb = .int .i64 y ∧ vs = .bool sp ∧ v = .int .i64 q4 ∧ x < n ∧ y < n ∧ 1 ≤ q4 ∧ q4 ≤ 65536 ∧ Hid (q4 = 4 ^ d) ∧ Hid (run t n e a b (t.T a == 0) j = run t n d x y sp j) ∧ wr = w.drewN q) (fun _ _ _ v _ => (intOf v).toNat)
          case atStart => exact ⟨a, b, e, s, t.T a == 0, rfl, rfl, rfl, rfl, ha, hb, by omega, by omega, HS.out, rfl, rfl⟩
          case round =>
            obtain ⟨x, y, d, q4, sp, rfl, rfl, rfl, rfl, hxn, hyn, hq1, hq2, HQ, HRUN, rfl⟩ := hrel
            clear hTa
            by_cases hq : q4 = 1
            · subst hq
              have HRL : Hid (run t n e a b (t.T a == 0) j = some (x, y, sp)) := by
                have e0 : d = 0 := by
                  cases d with
                  | zero => rfl
                  | succ d => have := HQ.out; rw [Nat.pow_succ] at this; omega
                have := HRUN.out
                subst e0
                exact this
              have hnx := HN.out x hxn
              have hny := HN.out y hyn
              by_cases hbad : sp = true ∧ t.N x ≠ 0
              · obtain ⟨rfl, hb0⟩ := hbad
                have hb1 : (t.N x != 0) = true := by simpa using hb0
                clear HQ HRUN HRL HFT HWT hny
                go_wp2_with fail
                go_ret2
                exact ⟨_, _, rfl, ⟨_, rfl⟩, HFalse.out⟩
              · have HF2 : Hid (FitsTo t n e a b (j + 1)) := fits_step HFT.out HRL.out (fun h => by
                  rcases Classical.em (t.N x = 0) with h0 | h0
                  · exact h0
                  · exact absurd ⟨h, h0⟩ hbad)
                have hgo : (sp && (t.N x != 0)) = false := by
                  cases sp
                  · rfl
                  · have : t.N x = 0 := by
                      rcases Classical.em (t.N x = 0) with h0 | h0
                      · exact h0
                      · exact absurd ⟨rfl, h0⟩ hbad
                    simp [this]
                have HW2 : Hid (∀ want' : Bool, (want' = true ↔ want = true ∧ dm (t.N x) (t.N y) ((none : Option (Nat → Int)).map (· (f.toNat + j))) = 0) → (want' = true ↔ WantTo t n none e a b f.toNat (j + 1))) := fun want' h => want_step HWT.out HRL.out h
                rw [show dm (t.N x) (t.N y) ((none : Option (Nat → Int)).map (· (f.toNat + j))) = bits .andNot .u64 (t.N x) (t.N y) from rfl] at HW2
                clear HQ HRUN HRL HFT HWT hbad
                generalize t.N x = nx at hnx hgo HW2
                generalize t.N y = ny at hny HW2
                generalize hv : bits .andNot .u64 nx ny = v at HW2
                by_cases hz : v = 0
                · have hz1 : (v != 0) = false := by simp [hz]
                  have HW3 : Hid (want = true ↔ WantTo t n none e a b f.toNat (j + 1)) := HW2.out want (by simp [hz])
                  clear HW2 hz
                  cases sp with
                  | true =>
                    have hg2 : (nx != 0) = false := by simpa using hgo
                    clear hgo
                    go_wp2_with fail
                    go_quiet (fail)
                    go_wp2_with fail
                    go_roundw
                    case rel => exact ⟨want, j + 1, _, rfl, by go_num, by omega, rfl, HF2.out, HW3.out⟩
                    case measure => simp [intOf]; omega
                  | false =>
                    clear hgo
                    go_wp2_with fail
                    go_quiet (fail)
                    go_wp2_with fail
                    go_roundw
                    case rel => exact ⟨want, j + 1, _, rfl, by go_num, by omega, rfl, HF2.out, HW3.out⟩
                    case measure => simp [intOf]; omega
                · have hz1 : (v != 0) = true := by simpa using hz
                  have HW3 : Hid (false = true ↔ WantTo t n none e a b f.toNat (j + 1)) := HW2.out false (by simp [hz])
                  clear HW2 hz
                  cases sp with
                  | true =>
                    have hg2 : (nx != 0) = false := by simpa using hgo
                    clear hgo
                    go_wp2_with fail
                    go_quiet (fail)
                    go_wp2_with fail
                    go_roundw
                    case rel => exact ⟨false, j + 1, _, rfl, by go_num, by omega, rfl, HF2.out, HW3.out⟩
                    case measure => simp [intOf]; omega
                  | false =>
                    clear hgo
                    go_wp2_with fail
                    go_quiet (fail)
                    go_wp2_with fail
                    go_roundw
                    case rel => exact ⟨false, j + 1, _, rfl, by go_num, by omega, rfl, HF2.out, HW3.out⟩
                    case measure => simp [intOf]; omega
            · obtain ⟨d', rfl⟩ : ∃ d', d = d' + 1 := by
                cases d with
                | zero => exact absurd HQ.out (by simpa using hq)
                | succ d' => exact ⟨d', rfl⟩
              obtain ⟨Q, hQ4, hQd⟩ : ∃ Q, q4 = 4 * Q ∧ Q = 4 ^ d' := ⟨4 ^ d', by rw [HQ.out, Nat.pow_succ, Nat.mul_comm], rfl⟩
              subst hQ4
              have HQD : Hid (Q = 4 ^ d') := hQd
              have hQpos : 0 < Q := by omega
              obtain ⟨J, hJ⟩ : ∃ J, j / Q = J := ⟨_, rfl⟩
              obtain ⟨k, hk⟩ : ∃ k, J % 4 = k := ⟨_, rfl⟩
              have HK : Hid (j / 4 ^ d' % 4 = k) := by show _ = _; rw [← hQd, hJ, hk]
              have hk4 : k < 4 := by omega
              have hJb : J ≤ 65536 := by
                have := Nat.div_le_self j Q
                omega
              have hdiv : (j : Int) / (Q : Int) = (J : Int) := by rw [← hJ]; exact (Int.natCast_ediv j Q).symm
              have hmod : (J : Int) % 4 = (k : Int) := by omega
              have htm : (J : Int).tmod 4 = (k : Int) := by rw [Int.tmod_eq_emod_of_nonneg (by omega)]; exact hmod
              have hc1 := HU.out x hxn k hk4
              have hc2 := HU.out y hyn k hk4
              obtain ⟨r1, r2⟩ := HR.out x hxn k hk4
              obtain ⟨r3, r4⟩ := HR.out y hyn k hk4
              clear HQ hQd hq hJ hk
              have HDN : Hid (∀ cx cy : Nat, t.U x k = (cx : Int) → t.U y k = (cy : Int) → cx < n → cy < n → run t n e a b (t.T a == 0) j = run t n d' cx cy (sp || t.T cx == 0) j) := fun cx cy hx hy h1 h2 => HRUN.out.trans (run_down HK.out hx hy h1 h2)
              clear HRUN HK
              generalize t.U x k = ux at hc1 r1 r2 HDN
              generalize t.U y k = uy at hc2 r3 r4 HDN
              by_cases e1 : ux < 0
              · have b1 : decide (ux < 0) = true := by simpa using e1
                clear HDN HQD HFT HWT
                go_wp2_with fail
                go_ret2
                exact ⟨_, _, rfl, ⟨_, rfl⟩, HFalse.out⟩
              · have b1 : decide (ux < 0) = false := by simpa using e1
                by_cases e2 : (n : Int) ≤ ux
                · have b2 : decide ((n : Int) ≤ ux) = true := by simpa using e2
                  clear HDN HQD HFT HWT
                  go_wp2_with fail
                  go_ret2
                  exact ⟨_, _, rfl, ⟨_, rfl⟩, HFalse.out⟩
                · obtain ⟨cx, rfl⟩ := Int.eq_ofNat_of_zero_le (show 0 ≤ ux by omega)
                  have hcx : cx < n := by omega
                  have b2 : decide (n ≤ cx) = false := by simp; omega
                  have b0 : decide ((cx : Int) < 0) = false := by simp
                  clear e1 e2 b1
                  by_cases e3 : uy < 0
                  · have b3 : decide (uy < 0) = true := by simpa using e3
                    clear HDN HQD HFT HWT
                    go_wp2_with fail
                    go_ret2
                    exact ⟨_, _, rfl, ⟨_, rfl⟩, HFalse.out⟩
                  · have b3 : decide (uy < 0) = false := by simpa using e3
                    by_cases e4 : (n : Int) ≤ uy
                    · have b4 : decide ((n : Int) ≤ uy) = true := by simpa using e4
                      clear HDN HQD HFT HWT
                      go_wp2_with fail
                      go_ret2
                      exact ⟨_, _, rfl, ⟨_, rfl⟩, HFalse.out⟩
                    · obtain ⟨cy, rfl⟩ := Int.eq_ofNat_of_zero_le (show 0 ≤ uy by omega)
                      have hcy : cy < n := by omega
                      have b4 : decide (n ≤ cy) = false := by simp; omega
                      have b5 : decide ((cy : Int) < 0) = false := by simp
                      have b6 : decide ((1 : Int) < 4 * (Q : Int)) = true := by simp; omega
                      clear b3
                      have hTc := HT.out cx hcx
                      have HDN2 : Hid (run t n e a b (t.T a == 0) j = run t n d' cx cy (sp || t.T cx == 0) j) := HDN.out cx cy rfl rfl hcx hcy
                      clear e3 e4 HDN HFT HWT
                      cases hz : (t.T cx == 0) with
                      | true =>
                        rw [hz, Bool.or_true] at HDN2
                        go_wp2_with fail
                        go_roundw
                        case rel => exact ⟨cx, cy, d', Q, true, rfl, rfl, rfl, rfl, hcx, hcy, by omega, by omega, HQD.out, HDN2.out, by first | rfl | trivial⟩
                        case measure => simp [intOf]; omega
                      | false =>
                        rw [hz, Bool.or_false] at HDN2
                        go_wp2_with fail
                        go_roundw
                        case rel => exact ⟨cx, cy, d', Q, sp, rfl, rfl, rfl, rfl, hcx, hcy, by omega, by omega, HQD.out, HDN2.out, by first | rfl | trivial⟩
                        case measure => simp [intOf]; omega
        · obtain rfl : j = s := by omega
          go_wp2_with fail
          go_ret2
          refine ⟨true, want, rfl, ⟨_, rfl⟩, fun _ => ⟨e, HD.out, HS.out, fun h => (by cases h), ?_, ?_⟩⟩
          · have := HFT.out
            unfold FitsTo at this
            rw [HS.out] at this
            exact this
          · have := HWT.out
            unfold WantTo at this
            rw [HS.out] at this
            exact this
    · by_cases hx4 : x % 4 = 0
      · obtain ⟨y, rfl⟩ : ∃ y, x = 4 * y := ⟨x / 4, by omega⟩
        clear hx4
        have HE2 : Hid (y * 4 ^ (e + 1) = s) := by
          have := HE.out
          show _ = _
          rw [← this, Nat.pow_succ, Nat.mul_comm (4 ^ e) 4, ← Nat.mul_assoc, Nat.mul_comm y 4]
        clear HE
        go_wp2_with fail
        go_roundw
        case rel => exact ⟨y, e + 1, rfl, by omega, by omega, HE2.out, by first | rfl | trivial⟩
        case measure => simp [intOf]; omega
      · clear HE
        go_wp2_with fail
        go_ret2
        exact ⟨_, _, rfl, ⟨0, rfl⟩, HFalse.out⟩
end Go.Proofs.Qxb6605276a
