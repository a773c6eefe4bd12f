/- ZZWithinUnder (function 14). -/
import Derived.Test.Qxb6605276aQuad
namespace Go.Proofs.Qxb6605276a
open Go.RowKit

theorem Try.info44 : (Try.prog.info? 44).map (fun i => (i.zero, i.size, i.bytes)) = some (some (.agg #[.int .i32 0, .int .i32 0, .int .i32 0, .int .i32 0, .int .u64 0, .int .i32 0, .int .i64 0]), 7, 40) := by kernel_rfl

/-- Cell q of a node. -/
def nodeC (t : Nd) (i q : Nat) : Value := if q = 4 then .int .u64 (t.N i) else if q = 5 then .int .i32 0 else if q = 6 then .int .i64 (t.T i) else .int .i32 (t.U i q)
def zeroC (q : Nat) : Value := if q = 4 then .int .u64 0 else if q = 6 then .int .i64 0 else .int .i32 0
/-- The first k nodes are laid. -/
def nodeF (t : Nd) (k : Nat) (j : Nat) : Value := if j < k * 7 then nodeC t (j / 7) (j % 7) else zeroC (j % 7)

theorem nodeF_step (t : Nd) (k j : Nat) : (if j = k * 7 + 6 then Value.int .i64 (t.T k) else if j = k * 7 + 5 then .int .i32 0 else if j = k * 7 + 4 then .int .u64 (t.N k) else if j = k * 7 + 3 then .int .i32 (t.U k 3) else if j = k * 7 + 2 then .int .i32 (t.U k 2) else if j = k * 7 + 1 then .int .i32 (t.U k 1) else if j = k * 7 then .int .i32 (t.U k 0) else nodeF t k j) = nodeF t (k + 1) j := by
  unfold nodeF
  by_cases h : j < k * 7
  · rw [if_neg (by omega), if_neg (by omega), if_neg (by omega), if_neg (by omega), if_neg (by omega), if_neg (by omega), if_neg (by omega), if_pos h, if_pos (by omega)]
  · by_cases h2 : j < (k + 1) * 7
    · have e : j / 7 = k := by omega
      rw [if_pos h2, e]
      unfold nodeC
      rcases (by omega : j = k * 7 ∨ j = k * 7 + 1 ∨ j = k * 7 + 2 ∨ j = k * 7 + 3 ∨ j = k * 7 + 4 ∨ j = k * 7 + 5 ∨ j = k * 7 + 6) with h | h | h | h | h | h | h
      · rw [show j % 7 = 0 from by omega]; simp [h]
      · rw [show j % 7 = 1 from by omega]; simp [h]
      · rw [show j % 7 = 2 from by omega]; simp [h]
      · rw [show j % 7 = 3 from by omega]; simp [h]
      · rw [show j % 7 = 4 from by omega]; simp [h]
      · rw [show j % 7 = 5 from by omega]; simp [h]
      · rw [show j % 7 = 6 from by omega]; simp [h]
    · rw [if_neg (by omega), if_neg (by omega), if_neg (by omega), if_neg (by omega), if_neg (by omega), if_neg (by omega), if_neg (by omega), if_neg h, if_neg h2]

theorem nodes_of {w : World} {B n : Nat} {t : Nd} (h : CellsF w B (n * 7) (nodeF t n)) : NodesAt w B n t := by
  have key : ∀ i q, i < n → q < 7 → w.cell? ⟨B, i * 7 + q, none⟩ = some (nodeC t i q) := fun i q hi hq => by
    have := (h (i * 7 + q) (by omega)).1
    unfold nodeF at this
    rwa [if_pos (by omega), show (i * 7 + q) / 7 = i from by omega, show (i * 7 + q) % 7 = q from by omega] at this
  intro i hi
  refine ⟨fun k hk => ?_, ?_, ?_⟩
  · rw [key i k hi (by omega)]
    unfold nodeC
    rw [if_neg (by omega), if_neg (by omega), if_neg (by omega)]
  · rw [key i 4 hi (by omega)]; rfl
  · rw [key i 6 hi (by omega)]; rfl

theorem NodesAt.later {w w' : World} {B n : Nat} {t : Nd} (h : NodesAt w B n t) (hB : Below w.heap.size w w') : NodesAt w' B n t := fun i hi => by
  obtain ⟨h1, h2, h3⟩ := h i hi
  exact ⟨fun k hk => cell_later hB (h1 k hk), cell_later hB h2, cell_later hB h3⟩
theorem below_drewN {B : Nat} {a w : World} (h : Below B a w) (q : Nat) : Below B a (w.drewN q) := ⟨h.os, h.tape, h.output, h.size, h.block⟩

/-- One round's seven stores. -/
def put7 (w : World) (N k : Nat) (u0 u1 u2 u3 nn tt : Int) : World :=
  ((((((w.setCell ⟨N, k * 7, none⟩ (.int .i32 u0)).setCell ⟨N, k * 7 + 1, none⟩ (.int .i32 u1)).setCell ⟨N, k * 7 + 2, none⟩ (.int .i32 u2)).setCell ⟨N, k * 7 + 3, none⟩ (.int .i32 u3)).setCell ⟨N, k * 7 + 4, none⟩ (.int .u64 nn)).setCell ⟨N, k * 7 + 5, none⟩ (.int .i32 0)).setCell ⟨N, k * 7 + 6, none⟩ (.int .i64 tt)

theorem put7_cells {w : World} {N n k : Nat} {t : Nd} (h : CellsF w N (n * 7) (nodeF t k)) (hk : k < n) : CellsF (put7 w N k (t.U k 0) (t.U k 1) (t.U k 2) (t.U k 3) (t.N k) (t.T k)) N (n * 7) (nodeF t (k + 1)) :=
  (((((((h.set (j := k * 7) (by omega) _).set (j := k * 7 + 1) (by omega) _).set (j := k * 7 + 2) (by omega) _).set (j := k * 7 + 3) (by omega) _).set (j := k * 7 + 4) (by omega) _).set (j := k * 7 + 5) (by omega) _).set (j := k * 7 + 6) (by omega) _).congr (fun j _ => nodeF_step t k j)
theorem put7_below {a w : World} {N k : Nat} {u0 u1 u2 u3 nn tt : Int} (h : Below N a w) : Below N a (put7 w N k u0 u1 u2 u3 nn tt) :=
  ((((((h.setCell (Nat.le_refl _) _).setCell (Nat.le_refl _) _).setCell (Nat.le_refl _) _).setCell (Nat.le_refl _) _).setCell (Nat.le_refl _) _).setCell (Nat.le_refl _) _).setCell (Nat.le_refl _) _

set_option maxHeartbeats 4000000 in
set_option maxRecDepth 100000 in
theorem zz14 (bu bn bt n : Nat) (p : Option Addr) (ml mc : Nat) (t : Nd) (a b : Nat) (f s : Int) (r : Bool) (w : World) (hn : n ≤ 65536)
    (hU : ∀ i, i < n → ∀ k, k < 4 → w.cell? ⟨bu, i * 4 + k, none⟩ = some (.int .i32 (t.U i k)))
    (hN : ∀ i, i < n → w.cell? ⟨bn, i, none⟩ = some (.int .u64 (t.N i)))
    (hT : ∀ i, i < n → w.cell? ⟨bt, i, none⟩ = some (.int .i64 (t.T i)))
    (hc : ∀ (W : World) (S B : Nat), NodesAt W B n t → W.cell? ⟨S, 3, none⟩ = some (.slice (some ⟨B, 0, none⟩) n n) → Below w.heap.size w W →
      Calls Try.prog 16 #[.pointer (some ⟨S, 0, none⟩), .int .i32 a, .int .i32 b, .slice p ml mc, .int .i64 f, .int .i64 s] W fun e w' => e = .returned (.bool r) ∧ ∃ q, w' = W.drewN q) :
    Calls Try.prog 14 #[.slice (some ⟨bu, 0, none⟩) n n, .slice (some ⟨bn, 0, none⟩) n n, .slice (some ⟨bt, 0, none⟩) n n, .int .i32 a, .int .i32 b, .slice p ml mc, .int .i64 f, .int .i64 s] w
      fun e w' => e = .returned (.bool r) ∧ Below w.heap.size w w' := by
  obtain ⟨i0, hi0, hz0, hz1, hz2⟩ := info_parts Try.info44
  have HC : Hid _ := hc
  have HU : Hid _ := hU
  have HN : Hid _ := hN
  have HT : Hid _ := hT
  clear hc hU hN hT
  go_enter Try.func14, Try.ntmps14
  go_wp2_with (at_make; refine wpList_make_full _ rfl _ _ 42 rfl w.heap.size 44 i0 (.agg #[.int .i32 0, .int .i32 0, .int .i32 0, .int .i32 0, .int .u64 0, .int .i32 0, .int .i64 0]) 7 Try.underlying42 hi0 hz0 hz1 .i64 .i64 _ _ n rfl rfl rfl rfl (by rw [hz2]; omega) (by unfold maxLen; omega) (Nat.le_refl _) ?_; intro w1 hown1 hg1)
  have H1 : Hid (CellsF w1 w.heap.size (n * 7) (nodeF t 0)) := by
    have := CellsF.made (z := #[.int .i32 0, .int .i32 0, .int .i32 0, .int .i32 0, .int .u64 0, .int .i32 0, .int .i64 0]) (size := 7) rfl hown1
    exact this.congr (fun j _ => by
      unfold nodeF
      rw [if_neg (by omega)]
      have : j % 7 < 7 := Nat.mod_lt _ (by omega)
      rcases (by omega : j % 7 = 0 ∨ j % 7 = 1 ∨ j % 7 = 2 ∨ j % 7 = 3 ∨ j % 7 = 4 ∨ j % 7 = 5 ∨ j % 7 = 6) with h | h | h | h | h | h | h <;> rw [h] <;> rfl)
  have HB : Hid (Below w.heap.size w w1) := (Below.refl _ _).grown hg1 (Nat.le_refl _) (by simp)
  clear hown1 hg1
  go_loopw [25] (fun i wr => ∃ k : Nat, k ≤ n ∧ i = .int .i64 k ∧ CellsF wr w.heap.size (n * 7) (nodeF t k) ∧ Below w.heap.size w wr) (fun i _ => n - (intOf i).toNat)
  case atStart => exact ⟨0, Nat.zero_le _, rfl, H1.out, HB.out⟩
  case round =>
    obtain ⟨k, hk, rfl, hF, hB⟩ := hrel
    clear H1 HB
    by_cases hlt : k < n
    · have s0 : wr.cell? ⟨bu, k * 4, none⟩ = _ := cell_later hB (HU.out k hlt 0 (by omega))
      have s1 := cell_later hB (HU.out k hlt 1 (by omega))
      have s2 := cell_later hB (HU.out k hlt 2 (by omega))
      have s3 := cell_later hB (HU.out k hlt 3 (by omega))
      have s4 := cell_later hB (HN.out k hlt)
      have s5 := cell_later hB (HT.out k hlt)
      obtain ⟨d0, f0⟩ := hF (k * 7) (by omega)
      obtain ⟨d1, f1⟩ := hF (k * 7 + 1) (by omega)
      obtain ⟨d2, f2⟩ := hF (k * 7 + 2) (by omega)
      obtain ⟨d3, f3⟩ := hF (k * 7 + 3) (by omega)
      obtain ⟨d4, f4⟩ := hF (k * 7 + 4) (by omega)
      obtain ⟨d5, f5⟩ := hF (k * 7 + 5) (by omega)
      obtain ⟨d6, f6⟩ := hF (k * 7 + 6) (by omega)
      have HF : Hid _ := (put7_cells hF hlt).drewN 1
      have HB2 : Hid (∀ u0 u1 u2 u3 nn tt, Below w.heap.size w ((put7 wr w.heap.size k u0 u1 u2 u3 nn tt).drewN 1)) := fun u0 u1 u2 u3 nn tt => below_drewN (put7_below hB) 1
      clear hF hB HC HU HN HT
      generalize t.U k 0 = u0 at s0 HF
      generalize t.U k 1 = u1 at s1 HF
      generalize t.U k 2 = u2 at s2 HF
      generalize t.U k 3 = u3 at s3 HF
      generalize t.N k = nn at s4 HF
      generalize t.T k = tt at s5 HF
      go_wp2_with fail
      go_region
      go_wp2_with fail
      go_roundw
      case rel => exact ⟨k + 1, by omega, by go_num, HF.out, HB2.out u0 u1 u2 u3 nn tt⟩
      case measure => simp [intOf]; omega
    · obtain rfl : k = n := by omega
      have HB2 : Hid _ := hB
      have HN2 : Hid (NodesAt wr w.heap.size k t) := nodes_of hF
      clear hF hB HU HN HT
      go_wp2_with (go_at_call 16; refine (HC.out _ _ w.heap.size (HN2.out.later ((Below.refl _ _).alloc (Nat.le_refl _) _)) (by rw [World.cell?_alloc_new]; rfl) (HB2.out.alloc HB2.out.size _)).mono ?_; rintro e w2 ⟨rfl, q, rfl⟩)
      go_ret
      exact ⟨rfl, below_drewN (HB2.out.alloc HB2.out.size _) q⟩
end Go.Proofs.Qxb6605276a
