/- (*regexpParser).spend (26) and ZZSpend (16). -/
import Derived.Test.Qxb6002343aFmtFacts
import Derived.WalkKit
import Derived.WalkSpells
import Derived.BigQuiet
import Derived.BigCall
import Derived.BigGuard
import Derived.Below
namespace Go.Proofs.Qxb6002343aFmt
open Go.RowKit Go.Extern.Stop Go.Stop Go.Extern

theorem cell_lt {w : World} {a : Addr} {v : Value} (h : w.cell? a = some v) : a.block < w.heap.size := by
  rcases Nat.lt_or_ge a.block w.heap.size with h1 | h1
  · exact h1
  · simp [World.cell?, Array.getElem?_eq_none h1] at h
theorem cell_keep {w w' : World} (hB : Below w.heap.size w w') {a : Addr} {v : Value} (h : w.cell? a = some v) : w'.cell? a = some v := by
  rw [← h]
  exact World.cell?_of_block (hB.block _ (cell_lt h))

/-- Behind a spend on the parser at block B: its count is v; all else lies as it lay. -/
structure Aft (w w' : World) (B : Nat) (v : Value) : Prop where
  cell : w'.cell? ⟨B, 4, none⟩ = some v
  frz : w'.frozen? ⟨B, 4, none⟩ = false
  other : ∀ C, C ≠ B → ∀ o u, w.cell? ⟨C, o, none⟩ = some u → w'.cell? ⟨C, o, none⟩ = some u ∧ w'.frozen? ⟨C, o, none⟩ = w.frozen? ⟨C, o, none⟩
  below : ∀ N, N ≤ B → N ≤ w.heap.size → Below N w w'

theorem aft_set {w : World} {B : Nat} {u v : Value} (hc : w.cell? ⟨B, 4, none⟩ = some u) (hf : w.frozen? ⟨B, 4, none⟩ = false) : Aft w (w.setCell ⟨B, 4, none⟩ v) B v :=
  ⟨World.cell?_setCell_same _ _ _ hc, by rw [World.frozen?_setCell]; exact hf, fun C hC o u h => ⟨by rw [World.cell?_setCell_other _ _ _ _ (fun h => hC (by cases h; rfl))]; exact h, World.frozen?_setCell ..⟩, fun N hN _ => (Below.refl _ _).setCell hN _⟩

theorem frozen_keep {w w' : World} {a : Addr} (h : w'.heap[a.block]? = w.heap[a.block]?) : w'.frozen? a = w.frozen? a := by
  unfold World.frozen?
  simp only [h]

theorem Aft.grow {w w1 w' : World} {B : Nat} {v : Value} (h : Aft w w1 B v) (hB : Below w1.heap.size w1 w') : Aft w w' B v :=
  ⟨cell_keep hB h.cell, (frozen_keep (hB.block _ (cell_lt h.cell))).trans h.frz, fun C hC o u hu => by
    obtain ⟨h1, h2⟩ := h.other C hC o u hu
    exact ⟨cell_keep hB h1, (frozen_keep (hB.block _ (cell_lt h1))).trans h2⟩, fun N hN hw => by
    have h1 := h.below N hN hw
    exact h1.trans (hB.mono (Nat.le_trans hw h1.size))⟩

set_option maxHeartbeats 1000000 in
theorem spend_ok (B c m : Nat) (w : World) (p : Option Addr) (cp : Nat) (hc : w.cell? ⟨B, 4, none⟩ = some (.int .i64 c)) (hf : w.frozen? ⟨B, 4, none⟩ = false) (h : c + m ≤ 65536) :
    Calls Tryf.prog 26 #[.pointer (some ⟨B, 0, none⟩), .slice p (2 * m) cp] w fun e w' => e = .returned (.tuple #[.slice p (2 * m) cp, .nilIface]) ∧ Aft w w' B (.int .i64 ((c + m : Nat) : Int)) := by
  have HA : Hid (Aft w (w.setCell ⟨B, 4, none⟩ (.int .i64 ((c + m : Nat) : Int))) B (.int .i64 ((c + m : Nat) : Int))) := aft_set hc hf
  go_enter Tryf.func26, Tryf.ntmps26
  go_wp2
  go_ret2
  exact ⟨rfl, HA.out⟩

set_option maxHeartbeats 1000000 in
theorem spend_no (F : Interp) (B c m : Nat) (w : World) (hF : F.answers w.tape) (p : Option Addr) (cp : Nat) (hc : w.cell? ⟨B, 4, none⟩ = some (.int .i64 c)) (hf : w.frozen? ⟨B, 4, none⟩ = false) (h : 65536 < c + m) (h2 : c + m ≤ 400000) :
    Calls Tryf.prog 26 #[.pointer (some ⟨B, 0, none⟩), .slice p (2 * m) cp] w fun e w' => (∃ a, e = .returned (.tuple #[.slice none 0 0, .iface 68 (.pointer (some a))])) ∧ Aft w w' B (.int .i64 ((c + m : Nat) : Int)) := by
  have hF' := answers_open hF
  have HA : Hid (∀ o1 o2, Aft w (((w.setCell ⟨B, 4, none⟩ (.int .i64 ((c + m : Nat) : Int))).alloc o1).alloc o2).drew B (.int .i64 ((c + m : Nat) : Int))) := fun o1 o2 =>
    (aft_set hc hf).grow ((((Below.refl _ _).alloc (Nat.le_refl _) _).alloc (by simp) _).drew)
  go_enter Tryf.func26, Tryf.ntmps26
  go_wp2
  go_ret2
  exact ⟨⟨_, rfl⟩, HA.out _ _⟩

theorem zz_ok (B c m : Nat) (w : World) (p : Option Addr) (cp : Nat) (hc : w.cell? ⟨B, 4, none⟩ = some (.int .i64 c)) (hf : w.frozen? ⟨B, 4, none⟩ = false) (h : c + m ≤ 65536) :
    Calls Tryf.prog 16 #[.pointer (some ⟨B, 0, none⟩), .slice p (2 * m) cp] w fun e w' => e = .returned (.tuple #[.slice p (2 * m) cp, .nilIface]) ∧ Aft w w' B (.int .i64 ((c + m : Nat) : Int)) := by
  have hs := spend_ok B c m w p cp hc hf h
  go_enter Tryf.func16, Tryf.ntmps16
  go_wp2_with (go_at_call 26; refine hs.mono ?_; rintro e w' ⟨rfl, hA⟩)
  go_ret2
  exact ⟨rfl, hA⟩

theorem zz_no (F : Interp) (B c m : Nat) (w : World) (hF : F.answers w.tape) (p : Option Addr) (cp : Nat) (hc : w.cell? ⟨B, 4, none⟩ = some (.int .i64 c)) (hf : w.frozen? ⟨B, 4, none⟩ = false) (h : 65536 < c + m) (h2 : c + m ≤ 400000) :
    Calls Tryf.prog 16 #[.pointer (some ⟨B, 0, none⟩), .slice p (2 * m) cp] w fun e w' => (∃ a, e = .returned (.tuple #[.slice none 0 0, .iface 68 (.pointer (some a))])) ∧ Aft w w' B (.int .i64 ((c + m : Nat) : Int)) := by
  have hs := spend_no F B c m w hF p cp hc hf h h2
  go_enter Tryf.func16, Tryf.ntmps16
  go_wp2_with (go_at_call 26; refine hs.mono ?_; rintro e w' ⟨⟨a, rfl⟩, hA⟩)
  go_ret2
  exact ⟨⟨a, rfl⟩, hA⟩
end Go.Proofs.Qxb6002343aFmt
