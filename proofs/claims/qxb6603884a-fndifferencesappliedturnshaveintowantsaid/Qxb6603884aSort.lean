/-
  slices.SortFunc (function 16) over changes, under its closure (function 17); bytes.Equal (function 15).
-/
import Derived.Test.Qxb6603884aShelf
import Derived.Test.Qxb6603884aCopy
import Derived.Shelf.SlSortCmp.WholeK
namespace Go.Proofs.Qxb6603884a
open Go.RowKit Go.Maps Go.Shelf Go.Lib Go.Sort

/-- A change's two cells. -/
def encE (x : Ent) : List Value := [encStr x.1, hv x.2]
/-- The closure's answer. -/
def cfE (x y : Ent) : Int := Lib.compareBytes x.1 y.1

theorem cmp_lt : ∀ a b : Bs, Lib.compareBytes a b < 0 ↔ a < b
  | [], [] => by simp [Lib.compareBytes]
  | [], _ :: _ => by simp [Lib.compareBytes]
  | _ :: _, [] => by simp [Lib.compareBytes]
  | a :: xs, b :: ys => by
    have ih := cmp_lt xs ys
    rw [Lib.compareBytes, List.cons_lt_cons_iff]
    by_cases h1 : a < b
    · simp [h1]
    · rw [if_neg h1]
      by_cases h2 : b < a
      · rw [if_pos h2]
        have : a ≠ b := fun e => by subst e; exact h1 h2
        simp [h1, this]
      · rw [if_neg h2]
        have : a = b := UInt8.le_antisymm (UInt8.not_lt.1 h2) (UInt8.not_lt.1 h1)
        subst this
        simp [ih]

theorem ltE (x y : Ent) : ltOf cfE x y = decide (x.1 < y.1) := by
  unfold ltOf cfE
  exact decide_eq_decide.2 (cmp_lt x.1 y.1)

theorem swoE : SWO (ltOf cfE) where
  irrefl x := by rw [ltE]; simp [bs_irrefl]
  trans x y z h1 h2 := by rw [ltE] at *; simp at *; exact bs_trans h1 h2
  ntrans x y z h1 h2 := by
    rw [ltE] at *
    simp only [decide_eq_false_iff_not] at *
    exact fun h3 => by
      rcases Classical.em (y.1 < z.1) with h4 | h4
      · exact h2 h4
      · rcases Classical.em (z.1 < y.1) with h5 | h5
        · exact h1 (bs_trans h3 h5)
        · rw [bs_tri h4 h5] at h1; exact h1 h3

theorem bytesEqual_calls (p1 p2 : Option Addr) (n1 c1 n2 c2 : Nat) (la lb : Bs) (w : World) (h1 : ByA w (p1, n1, c1) la) (h2 : ByA w (p2, n2, c2) lb) :
    Calls Try.prog 15 #[.slice p1 n1 c1, .slice p2 n2 c2] w fun e w' => e = .returned (.bool (la == lb)) ∧ w' = w := by
  have hb : ∀ l : Bs, Lib.bytesOf (nums l) = l := fun l => by
    unfold Lib.bytesOf nums
    rw [List.map_map]
    exact List.map_id'' (fun b => by simp) l
  have h := Any.bytes_Equal_all Try.laysnb115 p1 p2 n1 c1 n2 c2 (nums la) (nums lb) w (by rw [nums_length]; exact h1.1) (by rw [nums_length]; exact h2.1) h1.2 h2.2
  rw [hb, hb] at h
  exact h

set_option maxHeartbeats 1000000 in
theorem closure17 (x y : Ent) (W : World) : Calls Try.prog 17 #[.agg (encE x).toArray, .agg (encE y).toArray] W fun e w' => e = .returned (.int .i64 (cfE x y)) ∧ ∃ q os', w' = grow (W.drewN q) os' := by
  have hcon := fun W' => Any.strings_Compare Try.lays106 ⟨x.1.toArray⟩ ⟨y.1.toArray⟩ W'
  change ∀ W', Calls Try.prog 18 _ _ _ at hcon
  simp only at hcon
  unfold cfE
  generalize Lib.compareBytes x.1 y.1 = r at hcon ⊢
  simp only [encE]
  go_enter Try.func17, Try.ntmps17
  go_wp2_with (go_at_call 18; refine (hcon _).mono ?_; rintro e w' ⟨rfl, rfl⟩)
  go_ret
  exact ⟨rfl, 0, _, by rw [alloc_eq_grow, alloc_eq_grow, grow_grow]; rfl⟩

theorem cmpLays17 (blk off size : Nat) (w : World) : CmpLays Try.prog 17 #[] encE 2 cfE blk off size w :=
  fun _ _ _ _ x y => closure17 x y _

theorem sort_calls (blk off cap : Nat) (d : Array Ent) (w : World) (hH : HoldsK encE 2 w blk off d) (hblk : blk < w.heap.size) (hsz : d.size < 4611686018427387904) :
    Calls Try.prog 16 #[.slice (some ⟨blk, off, none⟩) d.size cap, .func (.func 17) #[] #[]] w fun e w' =>
      e = .returned (.tuple #[]) ∧ ∃ d' n os, PermIn 0 d.size d d' ∧ SortedIn (ltOf cfE) 0 d.size d' ∧ w' = sortWorldK encE 2 w blk off n d' os :=
  AnyQ.slices_SortFunc Try.sortL 2 Try.isAgg39 Try.sizeOf39 encE (fun _ => rfl) (fun x v hv' => by simp [encE] at hv'; rcases hv' with rfl | rfl <;> rfl) cfE swoE 17 #[] blk off cap d w (enters_of Try.func17 (by kernel_rfl) rfl) (cmpLays17 blk off d.size w) hH hblk hsz

set_option maxHeartbeats 1000000 in
theorem insertion_none (p : Option Addr) (cap : Nat) (fv : Value) (w : World) :
    Calls Try.prog 22 #[.slice p 0 cap, .int .i64 0, .int .i64 0, fv] w fun e w' => e = .returned (.tuple #[]) ∧ w' = w := by
  go_enter Try.func22, Try.ntmps22
  go_wp2
  refine wp_loop_rounds 1 ?_
  rw [rounds_succ]
  go_wp2
  go_end0
  exact ⟨rfl, rfl⟩

set_option maxHeartbeats 1000000 in
theorem pdq_none (p : Option Addr) (cap : Nat) (lim : Int) (fv : Value) (w : World) :
    Calls Try.prog 19 #[.slice p 0 cap, .int .i64 0, .int .i64 0, .int .i64 lim, fv] w fun e w' => e = .returned (.tuple #[]) ∧ w' = w := by
  have hi := fun W => insertion_none p cap fv W
  go_enter Try.func19, Try.ntmps19
  go_wp2
  refine wp_loop_rounds 1 ?_
  rw [rounds_succ]
  go_wp2_with (go_at_call 22; refine (hi _).mono ?_; rintro e w' ⟨rfl, rfl⟩)
  (try simp only [Exit.inBlock, Exit.then]); refine bodyPost_ret (results_none rfl _ _ _) rfl ?_
  exact ⟨rfl, rfl⟩

set_option maxHeartbeats 1000000 in
theorem sort_none (p : Option Addr) (cap : Nat) (fv : Value) (w : World) :
    Calls Try.prog 16 #[.slice p 0 cap, fv] w fun e w' => e = .returned (.tuple #[]) ∧ w' = w := by
  have hp := fun lim W => pdq_none p cap lim fv W
  have hl : ∀ W, Calls Try.prog 20 #[.int .u64 0] W fun e w' => e = .returned (.int .i64 (Lib.bitLen 0 : Nat)) ∧ w' = W := fun W => by
    have h := Any.bits_Len (SlLaysF0.n15.bits (P := Try.prog) (ρ := Try.sortL_ren) { Try.sortL with }) 0 W (by omega) (by omega)
    exact h
  go_enter Try.func16, Try.ntmps16
  go_wp2_with (first | (go_at_call 20; refine (hl _).mono ?_; rintro e w' ⟨rfl, rfl⟩) | (go_at_call 19; refine (hp _ _).mono ?_; rintro e w' ⟨rfl, rfl⟩))
  go_end0
  exact ⟨rfl, rfl⟩

end Go.Proofs.Qxb6603884a
