/- shortlexCompare over two decimal numerals: it answers as the numbers compare. -/
import Derived.Test.Qxb6604589aDoorNum
import Derived.BigQuiet
import Derived.Lib.ItoaLen
namespace Go.Proofs.Qxb6604589aDoor
open Go.Shelf Go.RowKit Go.Sort Go.Lib Go.Proofs

/-- The number's first i places. -/
def top (u i : Nat) : Nat := u / 10 ^ (nDigits u - i)
theorem top_zero (u : Nat) : top u 0 = 0 := by
  unfold top
  exact Nat.div_eq_of_lt (lt_pow_nDigits u)
theorem top_full (u : Nat) : top u (nDigits u) = u := by simp [top]
theorem top_succ (u i : Nat) (h : i < nDigits u) : top u (i + 1) = top u i * 10 + u / 10 ^ (nDigits u - 1 - i) % 10 := by
  unfold top
  have e : nDigits u - i = (nDigits u - 1 - i) + 1 := by omega
  have e2 : nDigits u - (i + 1) = nDigits u - 1 - i := by omega
  rw [e, e2, Nat.pow_succ, ← Nat.div_div_eq_div_mul]
  omega
def dig (u i : Nat) : Nat := 48 + u / 10 ^ (nDigits u - 1 - i) % 10
theorem dig_at (u i : Nat) (h : i < (decDigits u).length) : ((decDigits u)[i]).toNat = dig u i := by
  simp only [decDigits_eq u, List.getElem_map, List.getElem_range]
  unfold dg dig
  rw [UInt8.toNat_ofNat']
  omega
theorem top_lt {a b i : Nat} (hn : nDigits a = nDigits b) (h : top a i < top b i) : a < b := by
  unfold top at h
  rw [hn] at h
  rcases Nat.lt_or_ge a b with h1 | h1
  · exact h1
  · have := Nat.div_le_div_right (c := 10 ^ (nDigits b - i)) h1
    omega
theorem len_lt {a b : Nat} (h : nDigits a < nDigits b) : a < b := by
  rcases Nat.lt_or_ge a b with h1 | h1
  · exact h1
  · exfalso
    have := mono h1
    omega
where
  mono {a b : Nat} (h : b ≤ a) : nDigits b ≤ nDigits a := by
    induction a using Nat.strongRecOn generalizing b with
    | _ a ih =>
      by_cases hb : b < 10
      · rw [nDigits_small hb]; exact nDigits_pos a
      · have ha : ¬ a < 10 := by omega
        rw [nDigits_big hb, nDigits_big ha]
        have := ih (a / 10) (by omega) (b := b / 10) (by omega)
        omega

def cmpN (a b : Nat) : Int := if a < b then -1 else if b < a then 1 else 0

theorem run_byte (u i : Nat) (h : i < nDigits u) (W : World) : (Instr.index 9 (.string ⟨(decDigits u).toArray⟩) (.int .i64 (i : Int))).run Tryd.prog W = .ok (.int .u8 (dig u i : Int)) W := by
  have hl : i < (decDigits u).length := by rw [decDigits_length]; exact h
  have hs : (⟨(decDigits u).toArray⟩ : ByteArray).size = nDigits u := by rw [← decDigits_length]; rfl
  rw [run_index_string (h := Tryd.underlying9), dif_pos (by rw [hs]; omega), ← dig_at u i hl]
  rfl

set_option maxHeartbeats 4000000 in
set_option maxRecDepth 100000 in
theorem compare_lt {SA SB : ByteArray} {m n : Nat} (ha : SA.size = m) (hb : SB.size = n) (h : m < n) (w : World) :
    Calls Tryd.prog 7 #[.string SA, .string SB] w fun e w' => e = .returned (.int .i64 (-1)) ∧ w' = w := by
  go_enter Tryd.func7, Tryd.ntmps7
  go_wp2
  go_ret
  exact ⟨rfl, rfl⟩

set_option maxHeartbeats 4000000 in
set_option maxRecDepth 100000 in
theorem compare_gt {SA SB : ByteArray} {m n : Nat} (ha : SA.size = m) (hb : SB.size = n) (h : n < m) (w : World) :
    Calls Tryd.prog 7 #[.string SA, .string SB] w fun e w' => e = .returned (.int .i64 1) ∧ w' = w := by
  have h2 : ¬ m < n := by omega
  go_enter Tryd.func7, Tryd.ntmps7
  go_wp2
  go_ret
  exact ⟨rfl, rfl⟩

set_option maxHeartbeats 4000000 in
set_option maxRecDepth 100000 in
theorem compare_eq {SA SB : ByteArray} {m : Nat} (ha : SA.size = m) (hb : SB.size = m) (hm : m ≤ 20) (A B : Nat → Nat) (w : World)
    (hA : ∀ i, i < m → ∀ W, (Instr.index 9 (.string SA) (.int .i64 (i : Int))).run Tryd.prog W = .ok (.int .u8 (A i : Int)) W)
    (hB : ∀ i, i < m → ∀ W, (Instr.index 9 (.string SB) (.int .i64 (i : Int))).run Tryd.prog W = .ok (.int .u8 (B i : Int)) W) :
    Calls Tryd.prog 7 #[.string SA, .string SB] w fun e w' =>
      ∃ r : Int, e = .returned (.int .i64 r) ∧ (∃ k, w' = w.drewN k) ∧
        ((r = 0 ∧ ∀ j, j < m → A j = B j) ∨ (∃ i, i < m ∧ (∀ j, j < i → A j = B j) ∧ ((r = -1 ∧ A i < B i) ∨ (r = 1 ∧ B i < A i)))) := by
  go_enter Tryd.func7, Tryd.ntmps7
  go_wp2
  go_loopw [5] (fun i wr => ∃ k q : Nat, k ≤ m ∧ i = .int .i64 k ∧ wr = w.drewN q ∧ Hid (∀ j, j < k → A j = B j)) (fun i _ => m - (RowKit.intOf i).toNat)
  case atStart => exact ⟨0, 0, Nat.zero_le _, rfl, rfl, fun j h => absurd h (Nat.not_lt_zero j)⟩
  case round =>
    obtain ⟨k, q, hk, rfl, rfl, HT⟩ := hrel
    by_cases hlt : k < m
    · have dA := hA k hlt
      have dB := hB k hlt
      clear hA hB
      have HX : Hid (A k < B k → ∃ i, i < m ∧ (∀ j, j < i → A j = B j) ∧ A i < B i) := fun h => ⟨k, hlt, HT.out, h⟩
      have HY : Hid (B k < A k → ∃ i, i < m ∧ (∀ j, j < i → A j = B j) ∧ B i < A i) := fun h => ⟨k, hlt, HT.out, h⟩
      have HZ : Hid (A k = B k → ∀ j, j < k + 1 → A j = B j) := fun h j hj => by
        rcases Nat.lt_or_ge j k with h1 | h1
        · exact HT.out j h1
        · obtain rfl : j = k := by omega
          exact h
      generalize A k = x at dA HX HY HZ
      generalize B k = y at dB HX HY HZ
      rcases Nat.lt_trichotomy x y with h | h | h
      · have HX1 : Hid (∃ i, i < m ∧ (∀ j, j < i → A j = B j) ∧ A i < B i) := HX.out h
        clear HX HY HZ
        go_wp2_with fail
        go_quiet (fail)
        go_wp2
        go_ret
        obtain ⟨i, h1, h2, h3⟩ := HX1.out
        exact ⟨-1, rfl, ⟨_, World.drewN_drewN ..⟩, Or.inr ⟨i, h1, h2, Or.inl ⟨rfl, h3⟩⟩⟩
      · have HZ1 : Hid (∀ j, j < k + 1 → A j = B j) := HZ.out h
        subst h
        clear HX HY HZ
        go_wp2_with fail
        go_quiet (fail)
        go_wp2_with fail
        go_quiet (fail)
        go_wp2
        go_roundw
        case rel => exact ⟨k + 1, _, by omega, by go_num, rfl, HZ1.out⟩
        case measure => simp [RowKit.intOf]; omega
      · have HY1 : Hid (∃ i, i < m ∧ (∀ j, j < i → A j = B j) ∧ B i < A i) := HY.out h
        have hn : ¬ x < y := by omega
        clear HX HY HZ
        go_wp2_with fail
        go_quiet (fail)
        go_wp2_with fail
        go_quiet (fail)
        go_wp2
        go_ret
        obtain ⟨i, h1, h2, h3⟩ := HY1.out
        exact ⟨1, rfl, ⟨_, by rw [World.drewN_drewN, World.drewN_drewN]⟩, Or.inr ⟨i, h1, h2, Or.inr ⟨rfl, h3⟩⟩⟩
    · obtain rfl : k = m := by omega
      clear hA hB
      go_wp2
      go_ret
      exact ⟨0, rfl, ⟨_, rfl⟩, Or.inl ⟨rfl, HT.out⟩⟩

theorem tops_eq {a b : Nat} (hn : nDigits a = nDigits b) : ∀ i, i ≤ nDigits a → (∀ j, j < i → dig a j = dig b j) → top a i = top b i
  | 0, _, _ => by rw [top_zero, top_zero]
  | i + 1, hi, h => by
    have h1 := tops_eq hn i (by omega) (fun j hj => h j (by omega))
    have h2 := h i (by omega)
    unfold dig at h2
    rw [top_succ a i (by omega), top_succ b i (by omega), h1]
    omega
theorem dig_lt {a b i : Nat} (hn : nDigits a = nDigits b) (hi : i < nDigits a) (he : ∀ j, j < i → dig a j = dig b j) (h : dig a i < dig b i) : a < b := by
  refine top_lt hn (i := i + 1) ?_
  have h1 := tops_eq hn i (by omega) he
  unfold dig at h
  rw [top_succ a i hi, top_succ b i (by omega), h1]
  omega

theorem compare7 (a b : Nat) (ha : a < 65536) (hb : b < 65536) (w : World) :
    Calls Tryd.prog 7 #[.string ⟨(decDigits a).toArray⟩, .string ⟨(decDigits b).toArray⟩] w fun e w' => e = .returned (.int .i64 (cmpN a b)) ∧ ∃ k, w' = w.drewN k := by
  have hla : (⟨(decDigits a).toArray⟩ : ByteArray).size = nDigits a := by rw [← decDigits_length]; rfl
  have hlb : (⟨(decDigits b).toArray⟩ : ByteArray).size = nDigits b := by rw [← decDigits_length]; rfl
  have ma : nDigits a ≤ 20 := nDigits_le20 a (by omega)
  rcases Nat.lt_trichotomy (nDigits a) (nDigits b) with h | h | h
  · refine (compare_lt hla hlb h w).mono ?_
    rintro e w' ⟨rfl, rfl⟩
    have := len_lt h
    exact ⟨by simp [cmpN, this], 0, rfl⟩
  · refine (compare_eq hla (hlb.trans h.symm) ma (dig a) (dig b) w (fun i hi W => run_byte a i hi W) (fun i hi W => run_byte b i (by omega) W)).mono ?_
    rintro e w' ⟨r, rfl, hw, ⟨rfl, he⟩ | ⟨i, hi, he, ⟨rfl, hl⟩ | ⟨rfl, hl⟩⟩⟩
    · have := tops_eq h (nDigits a) (Nat.le_refl _) he
      rw [top_full, h, top_full] at this
      subst this
      exact ⟨by simp [cmpN], hw⟩
    · have := dig_lt h hi he hl
      exact ⟨by simp [cmpN, this], hw⟩
    · have := dig_lt h.symm (by omega) (fun j hj => (he j hj).symm) hl
      have h2 : ¬ a < b := by omega
      exact ⟨by simp [cmpN, this, h2], hw⟩
  · refine (compare_gt hla hlb h w).mono ?_
    rintro e w' ⟨rfl, rfl⟩
    have := len_lt h
    have h2 : ¬ a < b := by omega
    exact ⟨by simp [cmpN, this, h2], 0, rfl⟩
end Go.Proofs.Qxb6604589aDoor
