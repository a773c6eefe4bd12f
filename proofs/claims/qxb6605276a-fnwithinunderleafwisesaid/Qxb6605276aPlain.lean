/- The plain law: withinUnder's answer is the leafwise one. No memory in this text. -/
import Derived.Test.Qxb6605276aRows
import Derived.WalkKit
import Derived.WalkSpells
namespace Go.Proofs.Qxb6605276a

/-- The trees' nodes. -/
structure Nd where
  U : Nat → Nat → Int
  N : Nat → Int
  T : Nat → Int
def Nd.c (t : Nd) (x k : Nat) : Nat := (t.U x k).toNat

/-- A leaf's names beyond the other's, within the mask. -/
def dm (a b : Int) : Option Int → Int
  | none => bits .andNot .u64 a b
  | some z => bits .and .u64 (bits .andNot .u64 a b) z

theorem andNot_self (a : Int) : bits .andNot .u64 a a = 0 := by
  show IntKind.u64.wrap ((BitVec.ofInt 64 a &&& ~~~BitVec.ofInt 64 a).toNat : Int) = _
  rw [show BitVec.ofInt 64 a &&& ~~~BitVec.ofInt 64 a = 0#64 from by simp]
  rfl
theorem andNot_zero (b : Int) : bits .andNot .u64 0 b = 0 := by
  show IntKind.u64.wrap ((BitVec.ofInt 64 0 &&& ~~~BitVec.ofInt 64 b).toNat : Int) = _
  rw [show BitVec.ofInt 64 0 &&& ~~~BitVec.ofInt 64 b = 0#64 from by simp]
  rfl
theorem and_zero (b : Int) : bits .and .u64 0 b = 0 := by
  show IntKind.u64.wrap ((BitVec.ofInt 64 0 &&& BitVec.ofInt 64 b).toNat : Int) = _
  rw [show BitVec.ofInt 64 0 &&& BitVec.ofInt 64 b = 0#64 from by simp]
  rfl
theorem dm_self (a : Int) (z : Option Int) : dm a a z = 0 := by
  cases z <;> simp [dm, andNot_self, and_zero]
theorem dm_zero (b : Int) (z : Option Int) : dm 0 b z = 0 := by
  cases z <;> simp [dm, andNot_zero, and_zero]

/-- withinUnder. -/
def W (t : Nd) (mk : Option (Nat → Int)) : Nat → Nat → Nat → Nat → Bool
  | 0, x, y, f => (x == y || t.T x == 0) || dm (t.N x) (t.N y) (mk.map (· f)) == 0
  | d + 1, x, y, f => (x == y || t.T x == 0) || (List.range 4).all fun k => W t mk d (t.c x k) (t.c y k) (f + k * 4 ^ d)

theorem W_none (t : Nd) : ∀ d x y f g, W t none d x y f = W t none d x y g
  | 0, _, _, _, _ => rfl
  | d + 1, x, y, f, g => by
    unfold W
    congr 1
    congr 1
    funext k
    exact W_none t d _ _ _ _

def inR (n : Nat) (z : Int) : Bool := decide (0 ≤ z) && decide (z < n)

/-- The model's inner loop: from the node pair down to the leaf pair of place j; was a total 0 on the way? -/
def run (t : Nd) (n : Nat) : Nat → Nat → Nat → Bool → Nat → Option (Nat × Nat × Bool)
  | 0, x, y, sp, _ => some (x, y, sp)
  | d + 1, x, y, sp, j =>
    if inR n (t.U x (j / 4 ^ d % 4)) && inR n (t.U y (j / 4 ^ d % 4)) then run t n d (t.c x (j / 4 ^ d % 4)) (t.c y (j / 4 ^ d % 4)) (sp || t.T (t.c x (j / 4 ^ d % 4)) == 0) j else none

theorem run_succ (t : Nd) (n d x y : Nat) (sp : Bool) (j : Nat) : run t n (d + 1) x y sp j =
    if inR n (t.U x (j / 4 ^ d % 4)) && inR n (t.U y (j / 4 ^ d % 4)) then run t n d (t.c x (j / 4 ^ d % 4)) (t.c y (j / 4 ^ d % 4)) (sp || t.T (t.c x (j / 4 ^ d % 4)) == 0) j else none := rfl

theorem run_add (t : Nd) (n : Nat) : ∀ d x y sp k j, run t n d x y sp (k * 4 ^ d + j) = run t n d x y sp j
  | 0, _, _, _, _, _ => rfl
  | d + 1, x, y, sp, k, j => by
    have e : (k * 4 ^ (d + 1) + j) / 4 ^ d % 4 = j / 4 ^ d % 4 := by
      rw [Nat.pow_succ, show k * (4 ^ d * 4) + j = j + 4 ^ d * (k * 4) from by rw [Nat.mul_comm (4 ^ d) 4, ← Nat.mul_assoc, Nat.mul_comm (k * 4)]; omega, Nat.add_mul_div_left _ _ (Nat.pow_pos (by omega))]
      omega
    have e2 : k * 4 ^ (d + 1) + j = (k * 4) * 4 ^ d + j := by rw [Nat.pow_succ, Nat.mul_comm (4 ^ d) 4, ← Nat.mul_assoc]
    unfold run
    rw [e, e2]
    split
    · exact run_add t n d _ _ _ _ _
    · rfl

theorem run_sp (t : Nd) (n : Nat) : ∀ d x y j r, run t n d x y true j = some r → r.2.2 = true
  | 0, _, _, _, _, h => by simp [run] at h; rw [← h]
  | d + 1, x, y, j, r, h => by
    unfold run at h
    split at h
    · exact run_sp t n d _ _ j r (by simpa using h)
    · cases h
theorem run_same (t : Nd) (n : Nat) : ∀ d x sp j r, run t n d x x sp j = some r → r.1 = r.2.1
  | 0, _, _, _, _, h => by simp [run] at h; rw [← h]
  | d + 1, x, sp, j, r, h => by
    unfold run at h
    split at h
    · exact run_same t n d _ _ j r h
    · cases h

/-- Every leaf's path stays in range, and a leaf under a node with none left has no names. -/
def Fits (t : Nd) (n d x y : Nat) : Prop := ∀ j, j < 4 ^ d → ∃ r, run t n d x y (t.T x == 0) j = some r ∧ (r.2.2 = true → t.N r.1 = 0)
/-- Every leaf of a's lies within b's. -/
def Want (t : Nd) (n : Nat) (mk : Option (Nat → Int)) (d x y f : Nat) : Prop := ∀ j, j < 4 ^ d → ∀ r, run t n d x y (t.T x == 0) j = some r → dm (t.N r.1) (t.N r.2.1) (mk.map (· (f + j))) = 0

theorem Fits.child {t : Nd} {n d x y : Nat} (h : Fits t n (d + 1) x y) (hT : (t.T x == 0) = false) {k : Nat} (hk : k < 4) :
    (0 ≤ t.U x k ∧ t.U x k < n) ∧ (0 ≤ t.U y k ∧ t.U y k < n) ∧ Fits t n d (t.c x k) (t.c y k) ∧ ∀ j, j < 4 ^ d → run t n (d + 1) x y (t.T x == 0) (k * 4 ^ d + j) = run t n d (t.c x k) (t.c y k) (t.T (t.c x k) == 0) j := by
  have hpos : 0 < 4 ^ d := Nat.pow_pos (by omega)
  have key : ∀ j, j < 4 ^ d → (inR n (t.U x k) && inR n (t.U y k)) = true ∧ run t n (d + 1) x y (t.T x == 0) (k * 4 ^ d + j) = run t n d (t.c x k) (t.c y k) (t.T (t.c x k) == 0) j := by
    intro j hj
    have hlt : k * 4 ^ d + j < 4 ^ (d + 1) := by
      rw [Nat.pow_succ]
      have : k * 4 ^ d ≤ 3 * 4 ^ d := Nat.mul_le_mul_right _ (by omega)
      omega
    have e : (k * 4 ^ d + j) / 4 ^ d % 4 = k := by
      rw [show k * 4 ^ d + j = j + 4 ^ d * k from by rw [Nat.mul_comm]; omega, Nat.add_mul_div_left _ _ hpos, Nat.div_eq_of_lt hj]
      omega
    obtain ⟨r, hr, _⟩ := h _ hlt
    rw [run_succ, e] at hr
    rw [run_succ, e]
    split at hr
    · rename_i hin
      refine ⟨hin, ?_⟩
      rw [if_pos hin, run_add, hT, Bool.false_or]
    · cases hr
  obtain ⟨hin, _⟩ := key 0 hpos
  simp [inR] at hin
  refine ⟨hin.1, hin.2, fun j hj => ?_, fun j hj => (key j hj).2⟩
  have hlt : k * 4 ^ d + j < 4 ^ (d + 1) := by
    rw [Nat.pow_succ]
    have : k * 4 ^ d ≤ 3 * 4 ^ d := Nat.mul_le_mul_right _ (by omega)
    omega
  obtain ⟨r, hr, hr2⟩ := h _ hlt
  rw [(key j hj).2] at hr
  exact ⟨r, hr, hr2⟩

/-- THE PLAIN LAW. -/
theorem W_iff (t : Nd) (n : Nat) (mk : Option (Nat → Int)) : ∀ d x y f, Fits t n d x y → (W t mk d x y f = true ↔ Want t n mk d x y f) := by
  intro d
  induction d with
  | zero =>
    intro x y f h
    unfold W Want
    by_cases hT : (t.T x == 0) = true
    · simp only [hT, Bool.or_true, Bool.true_or, true_iff]
      intro j hj r hr
      obtain ⟨r', hr', h0⟩ := h j hj
      rw [hT] at hr'
      obtain rfl : r' = r := by rw [hr'] at hr; simpa using hr
      rw [h0 (run_sp _ _ _ _ _ _ _ hr'), dm_zero]
    · by_cases hxy : x = y
      · subst hxy
        simp only [beq_self_eq_true, Bool.true_or, true_iff]
        intro j hj r hr
        rw [run_same _ _ _ _ _ _ _ hr, dm_self]
      · have hb : (x == y) = false := by simpa using hxy
        have hT' : (t.T x == 0) = false := by simpa using hT
        simp only [hb, hT', Bool.or_self, Bool.false_or, beq_iff_eq]
        constructor
        · intro he j hj r hr
          simp [run] at hr
          subst hr
          obtain rfl : j = 0 := by simp at hj; omega
          simpa using he
        · intro hw
          simpa using hw 0 (by simp) (x, y, false) (by simp [run])
  | succ d ih =>
    intro x y f h
    unfold W
    by_cases hT : (t.T x == 0) = true
    · simp only [hT, Bool.or_true, Bool.true_or, true_iff]
      intro j hj r hr
      obtain ⟨r', hr', h0⟩ := h j hj
      rw [hT] at hr hr'
      obtain rfl : r' = r := by rw [hr'] at hr; simpa using hr
      rw [h0 (run_sp _ _ _ _ _ _ _ hr'), dm_zero]
    · by_cases hxy : x = y
      · subst hxy
        simp only [beq_self_eq_true, Bool.true_or, true_iff]
        intro j hj r hr
        rw [run_same _ _ _ _ _ _ _ hr, dm_self]
      · have hb : (x == y) = false := by simpa using hxy
        have hT' : (t.T x == 0) = false := by simpa using hT
        have hpos : 0 < 4 ^ d := Nat.pow_pos (by omega)
        simp only [hb, hT', Bool.or_self, Bool.false_or, List.all_eq_true, List.mem_range]
        constructor
        · intro hall j hj r hr
          have hk : j / 4 ^ d < 4 := by
            rw [Nat.div_lt_iff_lt_mul hpos]
            rw [Nat.pow_succ] at hj
            omega
          obtain ⟨_, _, hf, he⟩ := h.child hT' hk
          have hw := (ih _ _ _ hf).1 (hall _ hk)
          have hm := Nat.mod_lt j hpos
          have hdm : j / 4 ^ d * 4 ^ d + j % 4 ^ d = j := by rw [Nat.mul_comm]; exact Nat.div_add_mod j (4 ^ d)
          have := hw (j % 4 ^ d) hm r (by rw [← he _ hm, hdm]; exact hr)
          rwa [Nat.add_assoc, hdm] at this
        · intro hw k hk
          obtain ⟨_, _, hf, he⟩ := h.child hT' hk
          refine (ih _ _ _ hf).2 fun j hj r hr => ?_
          have hlt : k * 4 ^ d + j < 4 ^ (d + 1) := by
            rw [Nat.pow_succ]
            have : k * 4 ^ d ≤ 3 * 4 ^ d := Nat.mul_le_mul_right _ (by omega)
            omega
          have := hw _ hlt r (by rw [he _ hj]; exact hr)
          rwa [← Nat.add_assoc] at this
end Go.Proofs.Qxb6605276a
