/-
  zzKeys (function 6): the keys of a map, in increasing order.
-/
import Derived.Test.Qxb6603884aZZ
namespace Go.Proofs.Qxb6603884a
open Go.RowKit Go.Maps

theorem bl_true {x y : Bs} (h : x < y) : Op.bytesLess x y = true := by
  induction x generalizing y with
  | nil =>
    cases y with
    | nil => exact absurd h (bs_irrefl _)
    | cons b ys => rfl
  | cons a xs ih =>
    cases y with
    | nil => simp at h
    | cons b ys =>
      rw [List.cons_lt_cons_iff] at h
      simp only [Op.bytesLess, Bool.or_eq_true, decide_eq_true_eq, Bool.and_eq_true, beq_iff_eq]
      exact h.imp id (fun ⟨e, h'⟩ => ⟨e, ih h'⟩)

theorem bl_false {x y : Bs} (h : ¬ x < y) : Op.bytesLess x y = false := by
  induction x generalizing y with
  | nil =>
    cases y with
    | nil => rfl
    | cons b ys => exact absurd (List.nil_lt_cons _ _) h
  | cons a xs ih =>
    cases y with
    | nil => rfl
    | cons b ys =>
      rw [List.cons_lt_cons_iff] at h
      have h1 : ¬ a < b := fun e => h (Or.inl e)
      by_cases e : a = b
      · have h2 : ¬ xs < ys := fun e' => h (Or.inr ⟨e, e'⟩)
        simp [Op.bytesLess, h1, ih h2]
      · simp [Op.bytesLess, h1, e]

/-- One reading function for all headers that read. -/
theorem read_fun (w : World) : ∃ rd : Hd → Bs, ∀ h, (∃ l, ByA w h l) → ByA w h (rd h) :=
  ⟨fun h => Classical.epsilon (ByA w h), fun _ hl => Classical.epsilon_spec hl⟩

set_option maxHeartbeats 1000000 in
theorem zzKeys_calls (ob : Option Nat) (g : Bs → Option Hd) (M : List Ent) (w : World) (hM : MapG Try.prog 9 w ob g M.length) (hL : Lists M g) (hn : M.length ≤ 65536) (hkl : ∀ q ∈ M, q.1.length ≤ maxLen) (hrd : ∀ x h, g x = some h → ∃ l, ByA w h l) :
    Calls Try.prog 6 #[.map ob] w fun e w' => (∃ p, e = .returned (.tuple #[.slice p M.length M.length, .bool true]) ∧ StrsA w' p (M.map Prod.fst)) ∧ Below w.heap.size w w' := by
  obtain ⟨rd, hr⟩ := read_fun w
  have hc := zzd_calls none ob (fun _ => none) g 0 M.length rd M w ⟨fun _ => rfl, rfl⟩ hM (by simp) (fun x h hx => hr h (hrd x h hx)) hL.isDiff (by omega) (by omega)
  clear hr hrd
  by_cases h0 : M = []
  · subst h0
    go_enter Try.func6, Try.ntmps6
    go_wp2_with (first
      | (go_at_call 9; refine hc.mono ?_; rintro e w1 ⟨⟨p, q, rfl, hs, hq⟩, hb1⟩; obtain rfl := hs.1 rfl; obtain rfl := hq.1 rfl; have hM1 := hM.later hb1)
      | (at_len; refine wpList_len_g _ rfl _ 22 rfl Try.underlying22 hM1 rfl ?_))
    refine wp_loop_rounds 1 ?_
    rw [rounds_succ]
    go_wp2
    go_ret2
    exact ⟨⟨none, rfl, hs⟩, hb1⟩
  · have HN : Hid (M.map Prod.fst ≠ []) := by show M.map Prod.fst ≠ []; simpa using h0
    have HN2 : Hid (M.map Prod.snd ≠ []) := by show M.map Prod.snd ≠ []; simpa using h0
    have hpos : 0 < M.length := List.length_pos_iff.2 h0
    have hne : ((M.length : Int) != (M.length : Int)) = false := by simp
    clear h0
    go_enter Try.func6, Try.ntmps6
    go_wp2_with (first
      | (go_at_call 9; refine hc.mono ?_; rintro e w1 ⟨⟨p, q, rfl, hs, hq⟩, hb1⟩; have HS : Hid (StrsA w1 p (M.map Prod.fst)) := hs; obtain ⟨bs, rfl, hcs⟩ := hs.2 HN.out; obtain ⟨bq, rfl, _⟩ := hq.2 HN2.out; have hM1 := hM.later hb1; clear hs hq)
      | (at_len; refine wpList_len_g _ rfl _ 22 rfl Try.underlying22 hM1 rfl ?_))
    simp only [List.length_map, List.getElem_map] at hcs
    clear hc hM
    go_loopw [21] (fun i wr => ∃ k q : Nat, k ≤ M.length ∧ i = .int .i64 k ∧ wr = w1.drewN q) (fun i _ => M.length - (intOf i).toNat)
    case atStart => exact ⟨0, 0, Nat.zero_le _, rfl, rfl⟩
    case round =>
      obtain ⟨k, q, hk, rfl, rfl⟩ := hrel
      by_cases hlt : k < M.length
      · have c1 := hcs k hlt
        have hMq : MapG Try.prog 9 (w1.drewN q) ob g M.length := hM1.later ⟨rfl, rfl, rfl, Nat.le_refl _, fun _ _ => rfl⟩
        have hkb := hkl _ (List.getElem_mem hlt)
        have hgx : g (M[k]).1 = some (M[k]).2 := (hL.2 _ _).1 (List.getElem_mem hlt)
        by_cases hk0 : k = 0
        · subst hk0
          obtain ⟨x, ph, mh, ch, he⟩ : ∃ x ph mh ch, M[0] = (x, ph, mh, ch) := ⟨_, _, _, _, rfl⟩
          rw [he] at c1 hkb hgx
          have HGS : Hid ((g x).getD nilH = (ph, mh, ch)) := by show (g x).getD nilH = _; rw [hgx]; rfl
          have HOK : Hid ((g x).isSome = true) := by show (g x).isSome = _; rw [hgx]; rfl
          have g5 : decide ((0 : Int) < (0 : Int)) = false := by simp
          clear hcs hkl hL hgx he
          go_wp2_with (at_lookup; refine wpList_getok_g _ rfl _ _ 22 rfl law9 Try.underlying9 Try.underlying22 zero31 hMq rfl x rfl hkb ph mh ch HGS.out true HOK.out ?_)
          go_quiet (fail)
          go_wp2
          go_roundw
          case rel => exact ⟨1, _, by omega, by go_num, rfl⟩
          case measure => simp [intOf]; omega
        · have c0 := hcs (k - 1) (by omega)
          have HLT : Hid ((M[k - 1]'(by omega)).1 < (M[k]).1) := List.pairwise_iff_getElem.1 hL.1 (k - 1) k (by omega) hlt (by omega)
          obtain ⟨x, ph, mh, ch, he⟩ : ∃ x ph mh ch, M[k] = (x, ph, mh, ch) := ⟨_, _, _, _, rfl⟩
          obtain ⟨y, hy⟩ : ∃ y, (M[k - 1]'(by omega)).1 = y := ⟨_, rfl⟩
          rw [he] at c1 hkb hgx HLT
          rw [hy] at c0 HLT
          have HGS : Hid ((g x).getD nilH = (ph, mh, ch)) := by show (g x).getD nilH = _; rw [hgx]; rfl
          have HOK : Hid ((g x).isSome = true) := by show (g x).isSome = _; rw [hgx]; rfl
          have hbl := bl_true HLT.out
          have g0 : (0 : Int) < (k : Int) := by omega
          have g4 : 0 < k := by omega
          have g5 : decide (0 < k) = true := by simp; omega
          have g1 : (k : Int) - 1 < (M.length : Int) := by omega
          have g2 : (0 : Int) ≤ (k : Int) - 1 := by omega
          have g3 : ((k : Int) - 1).toNat = k - 1 := by omega
          clear hcs hkl hL hgx he hy HLT
          go_wp2_with (at_lookup; refine wpList_getok_g _ rfl _ _ 22 rfl law9 Try.underlying9 Try.underlying22 zero31 hMq rfl x rfl hkb ph mh ch HGS.out true HOK.out ?_)
          go_quiet (fail)
          go_wp2
          go_roundw
          case rel => exact ⟨k + 1, _, by omega, by go_num, rfl⟩
          case measure => simp [intOf]; omega
      · go_wp2
        go_ret2
        exact ⟨⟨_, rfl, HS.out.later ⟨rfl, rfl, rfl, Nat.le_refl _, fun _ _ => rfl⟩⟩, hb1.trans ⟨rfl, rfl, rfl, Nat.le_refl _, fun _ _ => rfl⟩⟩

end Go.Proofs.Qxb6603884a
