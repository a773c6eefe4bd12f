/- strconv.FormatUint at base 10, and PointCode.String: the decimal numeral. Own work on this program, after the shelf's FormatInt. -/
import Derived.Test.Qxb6604589aDoorShelf
import Derived.Lib.Walk
import Derived.Lib.ItoaMem
import Derived.WalkKit
import Derived.BigCall
import Derived.BigGuard
namespace Go.Proofs.Qxb6604589aDoor
open Go.Shelf Go.RowKit Go.Sort Go.Lib Go.Proofs

theorem holds_zero24 (w : World) (T : TypeId) (nd : Nat) (hs : nd ≤ 24) : Holds (fun (b : UInt8) => Value.int .u8 (b.toNat : Int)) (w.alloc (.cells zeros24 T)) w.heap.size 0 (Array.replicate nd (0 : UInt8)) := fun j hj => by
  have hj' : j < nd := by simpa using hj
  refine ⟨?_, World.frozen?_alloc_new _ _ _ _⟩
  rw [World.cell?_alloc_new, zeros24_at _ (by omega), getElem!_pos _ j hj]
  simp

theorem fin_0 (w : World) (o : Obj) (dk : Array UInt8) (k : Nat) : ∃ os, (putRow (fun (b : UInt8) => Value.int .u8 (b.toNat : Int)) (w.alloc o) w.heap.size 0 dk).drewN k = grow (w.drewN k) os := by
  rw [alloc_eq_grow]
  obtain ⟨os', _, e⟩ := putRow_grow_new (fun (b : UInt8) => Value.int .u8 (b.toNat : Int)) w #[o] w.heap.size 0 dk (Nat.le_refl _)
  exact ⟨os', by rw [e]; rfl⟩

set_option maxHeartbeats 6400000 in
set_option maxRecDepth 100000 in
theorem formatUint9 (u : Nat) (hu : u < 18446744073709551616) (w : World)
    (htab : Lib.TabIs Tryd.prog w "internal/strconv.uint64pow10" .u64 Lib.pow10Tab) :
    Calls Tryd.prog 9 #[.int .u64 u, .int .i64 10] w fun e w' => e = .returned (.string ⟨(Lib.decDigits u).toArray⟩) ∧ ∃ k os, w' = grow (w.drewN k) os := by
  by_cases hs : u < 100
  · have hc : ∀ w, Calls Tryd.prog 10 #[.int .i64 u] w fun e w' => e = .returned (.string ⟨(Lib.decDigits u).toArray⟩) ∧ w' = w := fun w => Any.internal_strconv_small Tryd.lays283 u hs w
    have hwr : IntKind.i64.wrap (u : Int) = (u : Int) := by rw [IntKind.wrap_i64]; omega
    go_enter Tryd.func9, Tryd.ntmps9
    go_wp2_with (go_at_call 10; refine (hc _).mono ?_; rintro e w' ⟨rfl, rfl⟩)
    go_ret
    refine ⟨rfl, 0, #[], by simp [World.drewN_zero]⟩
  · have hu1 : 1 ≤ u := by omega
    have hnd20 : Lib.nDigits u ≤ 20 := by have := Lib.numDigits_eq u hu1 hu; split at this <;> omega
    have hal : Tryd.prog.arrayLen 33 = 24 := by simp [Program.arrayLen, Tryd.underlying33]
    have hsl1 : ∀ W, (Instr.sliceAt 33 (.pointer (some ⟨w.heap.size, 0, none⟩)) none (some (.int .i64 (Lib.nDigits u : Int))) none).run Tryd.prog W = .ok (.slice (some ⟨w.heap.size, 0, none⟩) (Lib.nDigits u) 24) W := fun W => by
      rw [run_sliceAt_array_h W 33 ⟨w.heap.size, 0, none⟩ (by simp [Program.arrayLen, Program.elem, Tryd.underlying33]) .i64 (Lib.nDigits u : Int) (by omega) (by rw [hal]; omega)]
      go_simp
    have hc : ∀ w, Lib.TabIs Tryd.prog w "internal/strconv.uint64pow10" .u64 Lib.pow10Tab → Calls Tryd.prog 11 #[.int .u64 u] w fun e w' => e = .returned (.int .i64 (Lib.nDigits u)) ∧ w' = w := fun w ht => Any.internal_strconv_numDigits Tryd.lays284 u hu1 hu w ht
    have hH0 := holds_zero24 w 33 (Lib.nDigits u) (by omega)
    have hfmt := Any.internal_strconv_formatBase10 Tryd.lays285 w.heap.size 0 24 u (Array.replicate (Lib.nDigits u) 0) (w.alloc (.cells zeros24 33)) hH0 (by rw [Array.size_replicate]; exact Lib.lt_pow_nDigits u) hu (by rw [Array.size_replicate]; omega)
    rw [Array.size_replicate] at hfmt
    have hfmt : Calls Tryd.prog 12 #[.slice (some ⟨w.heap.size, 0, none⟩) (Lib.nDigits u) 24, .int .u64 u] (w.alloc (.cells zeros24 33)) fun e w' =>
      e = .returned (.tuple #[]) ∧ ∃ (n v' : Nat) (dk : Array UInt8), w' = (putRow (fun (b : UInt8) => Value.int .u8 (b.toNat : Int)) (w.alloc (.cells zeros24 33)) w.heap.size 0 dk).drewN n ∧ FmtInv (Lib.nDigits u) u 0 v' dk := hfmt
    have HH0 := Lib.hid hH0
    clear hH0 hal
    go_enter Tryd.func9, Tryd.ntmps9
    go_wp2_with (first
      | (go_at_call 11; refine (hc _ (Lib.tabIs_alloc htab _)).mono ?_; rintro e w' ⟨rfl, rfl⟩))
    go_at_call 12
    refine hfmt.mono ?_
    rintro e w' ⟨rfl, k, v', dk, rfl, hF⟩
    have hcv : (convert 36 9 (.slice (some ⟨w.heap.size, 0, none⟩) (Lib.nDigits u) 24)).run Tryd.prog ((putRow (fun (b : UInt8) => Value.int .u8 (b.toNat : Int)) (w.alloc (.cells zeros24 33)) w.heap.size 0 dk).drewN k) = .ok (.string ⟨(Lib.decDigits u).toArray⟩) ((putRow (fun (b : UInt8) => Value.int .u8 (b.toNat : Int)) (w.alloc (.cells zeros24 33)) w.heap.size 0 dk).drewN k) := by
      have h := run_convert_bytes_back (P := Tryd.prog) ((putRow (fun (b : UInt8) => Value.int .u8 (b.toNat : Int)) (w.alloc (.cells zeros24 33)) w.heap.size 0 dk).drewN k) 36 9 5 ⟨w.heap.size, 0, none⟩ 24 (Lib.decDigits u) Tryd.underlying36 Tryd.underlying5 Tryd.underlying9 (fun j hj => by
        rw [Lib.row_is_numeral hF j hj, Lib.add_plain, World.cell?_drewN]
        exact cell?_putRow (fun (b : UInt8) => Value.int .u8 (b.toNat : Int)) _ w.heap.size 0 _ dk HH0.out (by rw [hF.size, Array.size_replicate]) j (by rw [hF.size]; rw [Lib.decDigits_length] at hj; exact hj))
      rw [Lib.decDigits_length] at h
      exact h
    go_wp2
    go_ret
    obtain ⟨os, eo⟩ := fin_0 w (.cells zeros24 33) dk k
    exact ⟨rfl, k, os, eo⟩

set_option maxRecDepth 100000 in
theorem formatUint8 (u : Nat) (hu : u < 18446744073709551616) (w : World)
    (htab : Lib.TabIs Tryd.prog w "internal/strconv.uint64pow10" .u64 Lib.pow10Tab) :
    Calls Tryd.prog 8 #[.int .u64 u, .int .i64 10] w fun e w' => e = .returned (.string ⟨(Lib.decDigits u).toArray⟩) ∧ ∃ k os, w' = grow (w.drewN k) os := by
  go_enter Tryd.func8, Tryd.ntmps8
  go_wp2_with (go_at_call 9; refine (formatUint9 u hu _ htab).mono ?_; rintro e w' ⟨rfl, k, os, rfl⟩)
  go_ret
  exact ⟨rfl, k, os, rfl⟩

set_option maxRecDepth 100000 in
theorem string5 (u : Nat) (hu : u < 65536) (w : World)
    (htab : Lib.TabIs Tryd.prog w "internal/strconv.uint64pow10" .u64 Lib.pow10Tab) :
    Calls Tryd.prog 5 #[.int .u16 u] w fun e w' => e = .returned (.string ⟨(Lib.decDigits u).toArray⟩) ∧ ∃ k os, w' = grow (w.drewN k) os := by
  have hwr : IntKind.u64.wrap (u : Int) = (u : Int) := by rw [IntKind.wrap_u64]; omega
  go_enter Tryd.func5, Tryd.ntmps5
  go_wp2_with (go_at_call 8; refine (formatUint8 u (by omega) _ htab).mono ?_; rintro e w' ⟨rfl, k, os, rfl⟩)
  go_ret
  exact ⟨rfl, k, os, rfl⟩
end Go.Proofs.Qxb6604589aDoor
