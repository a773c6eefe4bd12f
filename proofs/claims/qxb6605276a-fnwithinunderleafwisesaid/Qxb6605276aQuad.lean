/- copyQuadsB1 (function 10). -/
import Derived.Test.Qxb6605276aCopy
namespace Go.Proofs.Qxb6605276a
open Go.RowKit

def QuadB (w : World) (p : Option Addr) (n : Nat) (U : Nat → Nat → Int) : Prop :=
  (p = none → n = 0) ∧ (∀ a, p = some a → ∃ b, a = ⟨b, 0, none⟩ ∧ ∀ i, i < n → ∀ k, k < 4 → w.cell? ⟨b, i * 4 + k, none⟩ = some (.int .i32 (U i k)))

/-- The first k quads are laid. -/
def quadF (U : Nat → Nat → Int) (k : Nat) (j : Nat) : Value := if j < k * 4 then .int .i32 (U (j / 4) (j % 4)) else .int .i32 0

theorem quadF_step (U : Nat → Nat → Int) (k j : Nat) : (if j = k * 4 + 3 then Value.int .i32 (U k 3) else if j = k * 4 + 2 then .int .i32 (U k 2) else if j = k * 4 + 1 then .int .i32 (U k 1) else if j = k * 4 then .int .i32 (U k 0) else quadF U k j) = quadF U (k + 1) j := by
  unfold quadF
  by_cases h3 : j = k * 4 + 3
  · rw [if_pos h3, if_pos (by omega), show j / 4 = k from by omega, show j % 4 = 3 from by omega]
  · by_cases h2 : j = k * 4 + 2
    · rw [if_neg h3, if_pos h2, if_pos (by omega), show j / 4 = k from by omega, show j % 4 = 2 from by omega]
    · by_cases h1 : j = k * 4 + 1
      · rw [if_neg h3, if_neg h2, if_pos h1, if_pos (by omega), show j / 4 = k from by omega, show j % 4 = 1 from by omega]
      · by_cases h0 : j = k * 4
        · rw [if_neg h3, if_neg h2, if_neg h1, if_pos h0, if_pos (by omega), show j / 4 = k from by omega, show j % 4 = 0 from by omega]
        · rw [if_neg h3, if_neg h2, if_neg h1, if_neg h0]
          by_cases h : j < k * 4
          · rw [if_pos h, if_pos (by omega)]
          · rw [if_neg h, if_neg (by omega)]

set_option maxHeartbeats 2000000 in
theorem copy10 (p : Option Addr) (n c : Nat) (U : Nat → Nat → Int) (w : World) (hn : n ≤ 65536) (hR : QuadA w p n U) :
    Calls Try.prog 10 #[.slice p n c] w fun e w' => ∃ p', e = .returned (.slice p' n n) ∧ p'.isNone = p.isNone ∧ QuadB w' p' n U ∧ Below w.heap.size w w' := by
  have qT : ∀ (w : World) (a : Option Addr) (n c n' c' : Nat), (binOp .eql 28 (.slice a n c) (.slice none n' c')).run Try.prog w = .ok (.bool a.isNone) w := fun w a n c n' c' => Lib.run_eql_slice_nil w _ _ a n c n' c' Try.underlying28
  obtain ⟨i0, hi0, hz0, hz1, hz2⟩ := info_parts Try.info40
  cases p with
  | none =>
    obtain rfl := hR.1 rfl
    clear hR
    go_enter Try.func10, Try.ntmps10
    go_wp2
    go_ret
    exact ⟨none, rfl, rfl, ⟨fun _ => rfl, fun a h => by cases h⟩, Below.refl _ _⟩
  | some a =>
    have HR : Hid _ := hR
    clear hR
    go_enter Try.func10, Try.ntmps10
    go_wp2_with (at_make; refine wpList_make_full _ rfl _ _ 28 rfl w.heap.size 40 i0 (.agg #[.int .i32 0, .int .i32 0, .int .i32 0, .int .i32 0]) 4 Try.underlying28 hi0 hz0 hz1 .i64 .i64 _ _ n rfl rfl rfl rfl (by rw [hz2]; omega) (by unfold maxLen; omega) (Nat.le_refl _) ?_; intro w1 hown1 hg1)
    have H1 : Hid (CellsF w1 w.heap.size (n * 4) (quadF U 0)) := by
      have := CellsF.made (z := #[.int .i32 0, .int .i32 0, .int .i32 0, .int .i32 0]) (size := 4) rfl hown1
      exact this.congr (fun j _ => by
        unfold quadF
        rw [if_neg (by omega)]
        have : j % 4 < 4 := Nat.mod_lt _ (by omega)
        rcases (by omega : j % 4 = 0 ∨ j % 4 = 1 ∨ j % 4 = 2 ∨ j % 4 = 3) with h | h | h | h <;> rw [h] <;> rfl)
    have HB : Hid (Below w.heap.size w w1) := (Below.refl _ _).grown hg1 (Nat.le_refl _) (by simp)
    clear hown1 hg1
    go_loopw [4] (fun i wr => ∃ k : Nat, k ≤ n ∧ i = .int .i64 k ∧ CellsF wr w.heap.size (n * 4) (quadF U k) ∧ Below w.heap.size w wr) (fun i _ => n - (intOf i).toNat)
    case atStart => exact ⟨0, Nat.zero_le _, rfl, H1.out, HB.out⟩
    case round =>
      obtain ⟨k, hk, rfl, hF, hB⟩ := hrel
      clear H1 HB
      by_cases hlt : k < n
      · obtain ⟨b, o, e, hc⟩ := HR.out.2 (by omega)
        cases e
        have s0 : wr.cell? ⟨b, o + k * 4, none⟩ = _ := cell_later hB (hc k hlt 0 (by omega))
        have s1 := cell_later hB (hc k hlt 1 (by omega))
        have s2 := cell_later hB (hc k hlt 2 (by omega))
        have s3 := cell_later hB (hc k hlt 3 (by omega))
        obtain ⟨d0, f0⟩ := hF (k * 4) (by omega)
        obtain ⟨d1, f1⟩ := hF (k * 4 + 1) (by omega)
        obtain ⟨d2, f2⟩ := hF (k * 4 + 2) (by omega)
        obtain ⟨d3, f3⟩ := hF (k * 4 + 3) (by omega)
        have HF : Hid (CellsF ((((wr.setCell ⟨w.heap.size, k * 4, none⟩ (.int .i32 (U k 0))).setCell ⟨w.heap.size, k * 4 + 1, none⟩ (.int .i32 (U k 1))).setCell ⟨w.heap.size, k * 4 + 2, none⟩ (.int .i32 (U k 2))).setCell ⟨w.heap.size, k * 4 + 3, none⟩ (.int .i32 (U k 3))) w.heap.size (n * 4) (quadF U (k + 1))) :=
          ((((hF.set (j := k * 4) (by omega) _).set (j := k * 4 + 1) (by omega) _).set (j := k * 4 + 2) (by omega) _).set (j := k * 4 + 3) (by omega) _).congr (fun j _ => quadF_step U k j)
        have HB2 : Hid (Below w.heap.size w ((((wr.setCell ⟨w.heap.size, k * 4, none⟩ (.int .i32 (U k 0))).setCell ⟨w.heap.size, k * 4 + 1, none⟩ (.int .i32 (U k 1))).setCell ⟨w.heap.size, k * 4 + 2, none⟩ (.int .i32 (U k 2))).setCell ⟨w.heap.size, k * 4 + 3, none⟩ (.int .i32 (U k 3)))) :=
          (((hB.setCell (Nat.le_refl _) _).setCell (Nat.le_refl _) _).setCell (Nat.le_refl _) _).setCell (Nat.le_refl _) _
        clear hF hB hc
        generalize U k 0 = u0 at s0 HF HB2
        generalize U k 1 = u1 at s1 HF HB2
        generalize U k 2 = u2 at s2 HF HB2
        generalize U k 3 = u3 at s3 HF HB2
        go_wp2
        go_roundw
        case rel => exact ⟨k + 1, by omega, by go_num, HF.out, HB2.out⟩
        case measure => simp [intOf]; omega
      · obtain rfl : k = n := by omega
        have HF : Hid _ := hF
        have HB2 : Hid _ := hB
        clear hF hB
        go_wp2
        go_ret
        have hfin : QuadB wr (some ⟨w.heap.size, 0, none⟩) k U := ⟨fun h => (by cases h), fun a' h => ⟨w.heap.size, (Option.some.inj h).symm, fun i hi q hq => (by
          have := (HF.out (i * 4 + q) (by omega)).1
          unfold quadF at this
          rwa [if_pos (by omega), show (i * 4 + q) / 4 = i from by omega, show (i * 4 + q) % 4 = q from by omega] at this)⟩⟩
        exact ⟨some ⟨w.heap.size, 0, none⟩, rfl, rfl, hfin, HB2.out⟩
end Go.Proofs.Qxb6605276a
