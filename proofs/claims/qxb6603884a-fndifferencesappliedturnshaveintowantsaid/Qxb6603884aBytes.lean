/-
  zzBytes (function 7): a sum of lengths, stopped above 1<<20.
-/
import Derived.Test.Qxb6603884aEq
namespace Go.Proofs.Qxb6603884a
open Go.RowKit Go.Maps

theorem law9 : Keyed Try.prog 9 := string_keyed Try.underlying9
theorem zero31 (w : World) : (zeroValue 31).run Try.prog w = .ok (hv nilH) w := by kernel_rfl

/-- A slice of strings that 'make' has made, or nil: it holds l. -/
def StrsA (w : World) (p : Option Addr) (l : List Bs) : Prop :=
  (l = [] → p = none) ∧ (l ≠ [] → ∃ b, p = some ⟨b, 0, none⟩ ∧ ∀ i (h : i < l.length), w.cell? ⟨b, i, none⟩ = some (encStr l[i]))

theorem StrsA.later {w w' : World} {p : Option Addr} {l : List Bs} (h : StrsA w p l) (hB : Below w.heap.size w w') : StrsA w' p l := by
  refine ⟨h.1, fun hn => ?_⟩
  obtain ⟨b, e, hc⟩ := h.2 hn
  exact ⟨b, e, fun i hi => cell_later hB (hc i hi)⟩

/-- No element longer than 1<<20. -/
def Small (M : List Ent) : Prop := ∀ q ∈ M, q.2.2.1 ≤ 1048576

theorem len_step {M : List Ent} {k : Nat} (hk : k < M.length) (h : Small (M.take k)) (e : (M[k]).2.2.1 ≤ 1048576) : Small (M.take (k + 1)) := by
  unfold Small
  rw [List.take_succ_eq_append_getElem hk]
  intro q hq
  rcases List.mem_append.1 hq with h1 | h1
  · exact h q h1
  · simp at h1; rw [h1]; exact e

set_option maxHeartbeats 400000 in
theorem zzBytes_calls (ob : Option Nat) (g : Bs → Option Hd) (n : Nat) (M : List Ent) (p : Option Addr) (w : World) (hM : MapG Try.prog 9 w ob g n) (hL : Lists M g) (hks : StrsA w p (M.map Prod.fst)) (hlen : M.length ≤ 65536) (hkl : ∀ q ∈ M, q.1.length ≤ maxLen) :
    Calls Try.prog 7 #[.map ob, .slice p M.length M.length] w fun e w' => (∃ s : Int, e = .returned (.int .i64 s) ∧ 0 ≤ s ∧ s ≤ 4194304 ∧ (s ≤ 1048576 → Small M)) ∧ w' = w := by
  by_cases h0 : M = []
  · subst h0
    obtain rfl := hks.1 rfl
    clear hks hL hkl
    go_enter Try.func7, Try.ntmps7
    go_wp2
    refine wp_loop_rounds 1 ?_
    rw [rounds_succ]
    go_wp2
    go_ret
    exact ⟨⟨0, rfl, by omega, by omega, by simp [Small]⟩, rfl⟩
  · obtain ⟨b, rfl, hc⟩ := hks.2 (by simpa using h0)
    have hpos : 0 < M.length := List.length_pos_iff.2 h0
    simp only [List.length_map, List.getElem_map] at hc
    clear h0 hks
    go_enter Try.func7, Try.ntmps7
    go_wp2
    go_loop [5, 11] (fun s i => ∃ (k : Nat) (t : Int), k ≤ M.length ∧ i = .int .i64 k ∧ s = .int .i64 t ∧ 0 ≤ t ∧ t ≤ 1048576 ∧ Small (M.take k)) (fun _ i => M.length - (intOf i).toNat)
    case atStart => exact ⟨0, 0, Nat.zero_le _, rfl, rfl, by omega, by omega, by simp [Small]⟩
    case round =>
      obtain ⟨k, t, hk, rfl, rfl, ht0, ht1, HT⟩ := hrel
      by_cases hlt : k < M.length
      · have hcell := hc k hlt
        have hgx : Hid (g (M[k]).1 = some (M[k]).2) := (hL.2 _ _).1 (List.getElem_mem hlt)
        have hkb := hkl _ (List.getElem_mem hlt)
        have HS : Hid ((M[k]).2.2.1 ≤ 1048576 → Small (M.take (k + 1))) := len_step hlt HT
        generalize M[k] = ent at hcell hgx hkb HS
        obtain ⟨x, pa, m, c⟩ := ent
        simp only at hcell hkb HS hgx
        have hgs : Hid ((g x).getD nilH = (pa, m, c)) := by show (g x).getD nilH = _; rw [hgx.out]; rfl
        clear hc hL hkl hgx HT
        unfold maxLen at hkb
        go_wp2_with (at_lookup; refine wpList_get_g _ rfl _ _ 22 rfl law9 Try.underlying9 Try.underlying22 zero31 hM rfl x rfl (by unfold maxLen; omega) pa m c hgs.out ?_)
        · go_ret
          exact ⟨⟨1048577, rfl, by omega, by omega, fun h => absurd h (by omega)⟩, rfl⟩
        · go_ret
          exact ⟨⟨_, rfl, by omega, by omega, fun h => absurd h (by omega)⟩, rfl⟩
        · go_round
          case rel => exact ⟨k + 1, _, by omega, by go_num, rfl, by omega, by omega, HS.out (by omega)⟩
          case measure => simp [intOf]; omega
        · go_ret
          exact ⟨⟨1048577, rfl, by omega, by omega, fun h => absurd h (by omega)⟩, rfl⟩
      · go_wp2
        go_ret
        refine ⟨⟨t, rfl, by omega, by omega, fun _ => ?_⟩, rfl⟩
        rwa [List.take_of_length_le (by omega)] at HT

end Go.Proofs.Qxb6603884a
