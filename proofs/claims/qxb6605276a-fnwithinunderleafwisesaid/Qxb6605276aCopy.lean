/- The three copies (functions 10, 11, 12). -/
import Derived.Test.Qxb6605276aWU
import Derived.OwnWalk
namespace Go.Proofs.Qxb6605276a
open Go.RowKit

/-- A slice that came in: n elements of one cell each. -/
def RowA (w : World) (p : Option Addr) (n : Nat) (g : Nat → Value) : Prop :=
  (p = none → n = 0) ∧ (0 < n → ∃ b o, p = some ⟨b, o, none⟩ ∧ ∀ i, i < n → w.cell? ⟨b, o + i, none⟩ = some (g i))
/-- A slice that 'make' made, or nil. -/
def RowB (w : World) (p : Option Addr) (n : Nat) (g : Nat → Value) : Prop :=
  (p = none → n = 0) ∧ (∀ a, p = some a → ∃ b, a = ⟨b, 0, none⟩ ∧ ∀ i, i < n → w.cell? ⟨b, i, none⟩ = some (g i))
def QuadA (w : World) (p : Option Addr) (n : Nat) (U : Nat → Nat → Int) : Prop :=
  (p = none → n = 0) ∧ (0 < n → ∃ b o, p = some ⟨b, o, none⟩ ∧ ∀ i, i < n → ∀ k, k < 4 → w.cell? ⟨b, o + i * 4 + k, none⟩ = some (.int .i32 (U i k)))

theorem Try.info40 : (Try.prog.info? 40).map (fun i => (i.zero, i.size, i.bytes)) = some (some (.agg #[.int .i32 0, .int .i32 0, .int .i32 0, .int .i32 0]), 4, 16) := by kernel_rfl
theorem Try.info41 : (Try.prog.info? 41).map (fun i => (i.zero, i.size, i.bytes)) = some (some (.int .u64 0), 1, 8) := by kernel_rfl
theorem Try.info3 : (Try.prog.info? 3).map (fun i => (i.zero, i.size, i.bytes)) = some (some (.int .i64 0), 1, 8) := by kernel_rfl
theorem info_parts {P : Program} {t : TypeId} {z : Value} {s b : Nat} (h : (P.info? t).map (fun i => (i.zero, i.size, i.bytes)) = some (some z, s, b)) : ∃ i, P.info? t = some i ∧ i.zero = some z ∧ i.size = s ∧ i.bytes = b := by
  cases hi : P.info? t with
  | none => simp [hi] at h
  | some i => simp [hi] at h; exact ⟨i, rfl, h.1, h.2.1, h.2.2⟩

theorem cell_later {w w' : World} (hB : Below w.heap.size w w') {a : Addr} {v : Value} (h : w.cell? a = some v) : w'.cell? a = some v := by
  have hlt : a.block < w.heap.size := by
    rcases Nat.lt_or_ge a.block w.heap.size with h1 | h1
    · exact h1
    · simp [World.cell?, Array.getElem?_eq_none h1] at h
  rw [← h]
  exact World.cell?_of_block (hB.block _ hlt)

/-- Block N's first m cells, and that none is frozen. -/
def CellsF (w : World) (N m : Nat) (f : Nat → Value) : Prop := ∀ j, j < m → w.cell? ⟨N, j, none⟩ = some (f j) ∧ w.frozen? ⟨N, j, none⟩ = false

theorem CellsF.set {w : World} {N m : Nat} {f : Nat → Value} (h : CellsF w N m f) {j : Nat} (hj : j < m) (v : Value) : CellsF (w.setCell ⟨N, j, none⟩ v) N m (fun i => if i = j then v else f i) := by
  intro i hi
  obtain ⟨h1, h2⟩ := h i hi
  refine ⟨?_, by rw [World.frozen?_setCell]; exact h2⟩
  by_cases e : i = j
  · subst e
    show _ = some (if i = i then v else f i)
    show _ = some (if i = i then v else f i)
    show _ = some (if i = i then v else f i)
    rw [if_pos rfl]
    exact World.cell?_setCell_same _ _ _ h1
  · show _ = some (if i = j then v else f i)
    rw [if_neg e, World.cell?_setCell_other _ _ _ _ (fun h => e (by cases h; rfl))]
    exact h1
theorem CellsF.congr {w : World} {N m : Nat} {f g : Nat → Value} (h : CellsF w N m f) (e : ∀ j, j < m → f j = g j) : CellsF w N m g := fun j hj => by
  rw [← e j hj]
  exact h j hj
theorem CellsF.drewN {w : World} {N m : Nat} {f : Nat → Value} (h : CellsF w N m f) (q : Nat) : CellsF (w.drewN q) N m f := h

theorem CellsF.made {w : World} {base N n size : Nat} {e : TypeId} {z : Array Value} (hz : z.size = size) (h : w.ownsRow base e size (.slice (some ⟨N, 0, none⟩) n n) n (madeCells z (n * size)).toList) : CellsF w N (n * size) (fun j => z[j % size]!) := by
  intro j hj
  refine ⟨?_, h.frozenAt j⟩
  rw [h.cellAt j hj]
  simp [madeCells, hj, hz]




set_option maxHeartbeats 2000000 in
theorem copy11 (p : Option Addr) (n c : Nat) (g : Nat → Int) (w : World) (hn : n ≤ 131072) (hR : RowA w p n (fun i => .int .u64 (g i))) :
    Calls Try.prog 11 #[.slice p n c] w fun e w' => ∃ p', e = .returned (.slice p' n n) ∧ p'.isNone = p.isNone ∧ RowB w' p' n (fun i => .int .u64 (g i)) ∧ Below w.heap.size w w' := by
  have qT : ∀ (w : World) (a : Option Addr) (n c n' c' : Nat), (binOp .eql 29 (.slice a n c) (.slice none n' c')).run Try.prog w = .ok (.bool a.isNone) w := fun w a n c n' c' => Lib.run_eql_slice_nil w _ _ a n c n' c' Try.underlying29
  obtain ⟨i0, hi0, hz0, hz1, hz2⟩ := info_parts Try.info41
  cases p with
  | none =>
    obtain rfl := hR.1 rfl
    clear hR
    go_enter Try.func11, Try.ntmps11
    go_wp2
    go_ret
    exact ⟨none, rfl, rfl, ⟨fun _ => rfl, fun a h => by cases h⟩, Below.refl _ _⟩
  | some a =>
    have HR : Hid _ := hR
    clear hR
    go_enter Try.func11, Try.ntmps11
    go_wp2_with (at_make; refine wpList_make_full _ rfl _ _ 29 rfl w.heap.size 41 i0 (.int .u64 0) 1 Try.underlying29 hi0 hz0 hz1 .i64 .i64 _ _ n rfl rfl rfl rfl (by rw [hz2]; omega) (by unfold maxLen; omega) (Nat.le_refl _) ?_; intro w1 hown1 hg1)
    have H1 : Hid (CellsF w1 w.heap.size n (fun _ => .int .u64 0)) := by
      have := CellsF.made (z := #[.int .u64 0]) (size := 1) rfl hown1
      rw [Nat.mul_one] at this
      exact this.congr (fun j _ => by simp [Nat.mod_one])
    have HB : Hid (Below w.heap.size w w1) := (Below.refl _ _).grown hg1 (Nat.le_refl _) (by simp)
    have HZ : Hid (w.heap.size < w1.heap.size) := (hown1.lt _ rfl).2
    clear hown1 hg1
    go_loopw [4] (fun i wr => ∃ k : Nat, k ≤ n ∧ i = .int .i64 k ∧ CellsF wr w.heap.size n (fun j => if j < k then .int .u64 (g j) else .int .u64 0) ∧ Below w.heap.size w wr) (fun i _ => n - (intOf i).toNat)
    case atStart => exact ⟨0, Nat.zero_le _, rfl, H1.out.congr (fun j _ => by simp), HB.out⟩
    case round =>
      obtain ⟨k, hk, rfl, hF, hB⟩ := hrel
      clear H1 HB HZ
      by_cases hlt : k < n
      · obtain ⟨b, o, e, hc⟩ := HR.out.2 (by omega)
        cases e
        have hs := cell_later hB (hc k hlt)
        obtain ⟨hd, hfz⟩ := hF k hlt
        have HF : Hid (CellsF (wr.setCell ⟨w.heap.size, k, none⟩ (.int .u64 (g k))) w.heap.size n (fun j => if j < k + 1 then .int .u64 (g j) else .int .u64 0)) := (hF.set hlt _).congr (fun j _ => by
          by_cases e : j = k
          · subst e; simp
          · by_cases e2 : j < k
            · have : j < k + 1 := by omega
              simp [e, e2, this]
            · have : ¬ j < k + 1 := by omega
              simp [e, e2, this])
        have HB2 : Hid (Below w.heap.size w (wr.setCell ⟨w.heap.size, k, none⟩ (.int .u64 (g k)))) := hB.setCell (Nat.le_refl _) _
        simp only [Nat.lt_irrefl, if_false] at hd
        clear hF hB hc
        go_wp2
        go_roundw
        case rel => exact ⟨k + 1, by omega, by go_num, HF.out, HB2.out⟩
        case measure => simp [intOf]; omega
      · obtain rfl : k = n := by omega
        have HF : Hid _ := hF
        have HB2 : Hid _ := hB
        clear hF hB
        go_wp2
        go_ret
        have hfin : RowB wr (some ⟨w.heap.size, 0, none⟩) k (fun i => .int .u64 (g i)) := ⟨fun h => (by cases h), fun a' h => ⟨w.heap.size, (Option.some.inj h).symm, fun i hi => (by
          have := (HF.out i hi).1
          simpa [hi] using this)⟩⟩
        exact ⟨some ⟨w.heap.size, 0, none⟩, rfl, rfl, hfin, HB2.out⟩

set_option maxHeartbeats 2000000 in
theorem copy12 (p : Option Addr) (n c : Nat) (g : Nat → Int) (w : World) (hn : n ≤ 131072) (hR : RowA w p n (fun i => .int .i64 (g i))) :
    Calls Try.prog 12 #[.slice p n c] w fun e w' => ∃ p', e = .returned (.slice p' n n) ∧ p'.isNone = p.isNone ∧ RowB w' p' n (fun i => .int .i64 (g i)) ∧ Below w.heap.size w w' := by
  have qT : ∀ (w : World) (a : Option Addr) (n c n' c' : Nat), (binOp .eql 30 (.slice a n c) (.slice none n' c')).run Try.prog w = .ok (.bool a.isNone) w := fun w a n c n' c' => Lib.run_eql_slice_nil w _ _ a n c n' c' Try.underlying30
  obtain ⟨i0, hi0, hz0, hz1, hz2⟩ := info_parts Try.info3
  cases p with
  | none =>
    obtain rfl := hR.1 rfl
    clear hR
    go_enter Try.func12, Try.ntmps12
    go_wp2
    go_ret
    exact ⟨none, rfl, rfl, ⟨fun _ => rfl, fun a h => by cases h⟩, Below.refl _ _⟩
  | some a =>
    have HR : Hid _ := hR
    clear hR
    go_enter Try.func12, Try.ntmps12
    go_wp2_with (at_make; refine wpList_make_full _ rfl _ _ 30 rfl w.heap.size 3 i0 (.int .i64 0) 1 Try.underlying30 hi0 hz0 hz1 .i64 .i64 _ _ n rfl rfl rfl rfl (by rw [hz2]; omega) (by unfold maxLen; omega) (Nat.le_refl _) ?_; intro w1 hown1 hg1)
    have H1 : Hid (CellsF w1 w.heap.size n (fun _ => .int .i64 0)) := by
      have := CellsF.made (z := #[.int .i64 0]) (size := 1) rfl hown1
      rw [Nat.mul_one] at this
      exact this.congr (fun j _ => by simp [Nat.mod_one])
    have HB : Hid (Below w.heap.size w w1) := (Below.refl _ _).grown hg1 (Nat.le_refl _) (by simp)
    have HZ : Hid (w.heap.size < w1.heap.size) := (hown1.lt _ rfl).2
    clear hown1 hg1
    go_loopw [4] (fun i wr => ∃ k : Nat, k ≤ n ∧ i = .int .i64 k ∧ CellsF wr w.heap.size n (fun j => if j < k then .int .i64 (g j) else .int .i64 0) ∧ Below w.heap.size w wr) (fun i _ => n - (intOf i).toNat)
    case atStart => exact ⟨0, Nat.zero_le _, rfl, H1.out.congr (fun j _ => by simp), HB.out⟩
    case round =>
      obtain ⟨k, hk, rfl, hF, hB⟩ := hrel
      clear H1 HB HZ
      by_cases hlt : k < n
      · obtain ⟨b, o, e, hc⟩ := HR.out.2 (by omega)
        cases e
        have hs := cell_later hB (hc k hlt)
        obtain ⟨hd, hfz⟩ := hF k hlt
        have HF : Hid (CellsF (wr.setCell ⟨w.heap.size, k, none⟩ (.int .i64 (g k))) w.heap.size n (fun j => if j < k + 1 then .int .i64 (g j) else .int .i64 0)) := (hF.set hlt _).congr (fun j _ => by
          by_cases e : j = k
          · subst e; simp
          · by_cases e2 : j < k
            · have : j < k + 1 := by omega
              simp [e, e2, this]
            · have : ¬ j < k + 1 := by omega
              simp [e, e2, this])
        have HB2 : Hid (Below w.heap.size w (wr.setCell ⟨w.heap.size, k, none⟩ (.int .i64 (g k)))) := hB.setCell (Nat.le_refl _) _
        simp only [Nat.lt_irrefl, if_false] at hd
        clear hF hB hc
        go_wp2
        go_roundw
        case rel => exact ⟨k + 1, by omega, by go_num, HF.out, HB2.out⟩
        case measure => simp [intOf]; omega
      · obtain rfl : k = n := by omega
        have HF : Hid _ := hF
        have HB2 : Hid _ := hB
        clear hF hB
        go_wp2
        go_ret
        have hfin : RowB wr (some ⟨w.heap.size, 0, none⟩) k (fun i => .int .i64 (g i)) := ⟨fun h => (by cases h), fun a' h => ⟨w.heap.size, (Option.some.inj h).symm, fun i hi => (by
          have := (HF.out i hi).1
          simpa [hi] using this)⟩⟩
        exact ⟨some ⟨w.heap.size, 0, none⟩, rfl, rfl, hfin, HB2.out⟩

end Go.Proofs.Qxb6605276a
