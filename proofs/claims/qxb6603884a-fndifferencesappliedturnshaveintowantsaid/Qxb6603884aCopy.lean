/-
  zzCopy (function 8): a deep copy of a map of byte slices.
-/
import Derived.Test.Qxb6603884aBytes
namespace Go.Proofs.Qxb6603884a
open Go.RowKit Go.Maps

theorem Try.info5 : (Try.prog.info? 5).map (fun i => (i.zero, i.size, i.bytes)) = some (some (.int .u8 0), 1, 1) := by kernel_rfl
theorem makeMap22 (w : World) (n : Int) : (Instr.makeMap 22 (some (.int .i64 n))).run Try.prog w = .ok (.map (some w.heap.size)) (w.alloc (.map #[] 0)) := by
  simp [Instr.makeMap, run_underlying Try.underlying22, asInt, newObj]
  rfl

/-- Read, and not too long. -/
def Good (w : World) (h : Hd) : Prop := (∃ l, ByA w h l) ∧ h.2.1 ≤ 1048576

theorem good_nil (w : World) : Good w nilH := ⟨⟨[], rfl, fun h => absurd h (by simp [nilH])⟩, by simp [nilH]⟩

/-- After k rounds: g' holds the first k keys of M, each with a readable copy. -/
def Cop (w : World) (g g' : Bs → Option Hd) (M : List Ent) (k : Nat) : Prop :=
  (∀ x, (g' x).isSome = true ↔ ∃ h, (x, h) ∈ M.take k) ∧ ∀ x h', g' x = some h' → Good w h' ∧ (h'.1 = none → ∃ h, g x = some h ∧ h.1 = none)

theorem Cop.start (w : World) (g : Bs → Option Hd) (M : List Ent) : Cop w g (fun _ => none) M 0 := ⟨by simp, by simp⟩

theorem Cop.fresh {w : World} {g g' : Bs → Option Hd} {M : List Ent} {k : Nat} (h : Cop w g g' M k) (hL : Lists M g) (hk : k < M.length) : (g' (M[k]).1).isSome = false := by
  cases hs : (g' (M[k]).1).isSome with
  | false => rfl
  | true =>
    obtain ⟨a, ha⟩ := (h.1 _).1 hs
    obtain ⟨i, hi, e⟩ := List.getElem_of_mem ha
    have hlt : i < k := by simp at hi; omega
    have := List.pairwise_iff_getElem.1 hL.1 i k (by omega) hk hlt
    rw [List.getElem_take] at e
    rw [e] at this
    exact absurd this (bs_irrefl _)

theorem Cop.step {w w1 : World} {g g' : Bs → Option Hd} {M : List Ent} {k : Nat} (h : Cop w g g' M k) (hL : Lists M g) (hk : k < M.length) (hkeep : ∀ a l, ByA w a l → ByA w1 a l) {a : Hd} (ha : Good w1 a) (hn : a.1 = none → (M[k]).2.1 = none) :
    Cop w1 g (upd g' (M[k]).1 (some a)) M (k + 1) := by
  refine ⟨fun x => ?_, fun x h' hx => ?_⟩
  · rw [List.take_succ_eq_append_getElem hk]
    simp only [upd, List.mem_append, List.mem_singleton]
    by_cases e : x = (M[k]).1
    · rw [if_pos e]
      simp only [Option.isSome_some, true_iff]
      exact ⟨(M[k]).2, Or.inr (by rw [e])⟩
    · rw [if_neg e, h.1 x]
      constructor
      · rintro ⟨b, hb⟩; exact ⟨b, Or.inl hb⟩
      · rintro ⟨b, hb | hb⟩
        · exact ⟨b, hb⟩
        · exact absurd (by rw [← hb]) e
  · simp only [upd] at hx
    by_cases e : x = (M[k]).1
    · rw [if_pos e] at hx
      obtain rfl : a = h' := by simpa using hx
      exact ⟨ha, fun hnn => ⟨(M[k]).2, by rw [e]; exact (hL.2 _ _).1 (List.getElem_mem hk), hn hnn⟩⟩
    · rw [if_neg e] at hx
      obtain ⟨⟨⟨l, hl⟩, h2⟩, h3⟩ := h.2 x h' hx
      exact ⟨⟨⟨l, hkeep _ _ hl⟩, h2⟩, h3⟩

theorem ByA.kept {w w' : World} {h : Hd} {l : Bs} {B : Nat} (hb : ByA w h l) (hg : w.grownBy w' (some B)) {es : Array MapEntry} {clock : Nat} (hB : w.heap[B]? = some (.map es clock)) : ByA w' h l := by
  refine ⟨hb.1, fun hp => ?_⟩
  obtain ⟨b, o, e, hc⟩ := hb.2 hp
  refine ⟨b, o, e, fun i hi => ?_⟩
  have h0 := hc i hi
  have hlt : b < w.heap.size := by
    rcases Nat.lt_or_ge b w.heap.size with h1 | h1
    · exact h1
    · simp [World.cell?, Array.getElem?_eq_none h1] at h0
  have hne : b ≠ B := fun e1 => by subst e1; simp [World.cell?, hB] at h0
  rw [← h0]
  exact World.cell?_of_block (w := w) (hg.block b hlt (by simpa using hne))

/-- The new row after j stores. -/
def mix (l : Bs) (j : Nat) : List Value := ((nums l).take j).map (Value.int .u8) ++ List.replicate (l.length - j) (Value.int .u8 0)

theorem mix_set (l : Bs) (j : Nat) (h : j < l.length) : (mix l j).set j (Value.int .u8 ((l[j]).toNat : Int)) = mix l (j + 1) := by
  unfold mix
  have hl : (((nums l).take j).map (Value.int .u8)).length = j := by simp [nums_length]; omega
  rw [List.set_append_right _ _ (by omega), hl, Nat.sub_self]
  obtain ⟨r, hr⟩ : ∃ r, l.length - j = r + 1 := ⟨l.length - j - 1, by omega⟩
  rw [hr, List.replicate_succ, List.set_cons_zero, show l.length - (j + 1) = r from by omega]
  rw [List.take_succ_eq_append_getElem (by rw [nums_length]; exact h), List.map_append, List.append_assoc]
  simp [nums]

theorem mix_end (l : Bs) : mix l l.length = (nums l).map (Value.int .u8) := by
  unfold mix
  rw [List.take_of_length_le (by rw [nums_length]; omega)]
  simp

theorem mix_get (l : Bs) (j : Nat) (h : j < l.length) : (mix l j)[j]? = some (Value.int .u8 0) := by
  unfold mix
  have hl : (((nums l).take j).map (Value.int .u8)).length = j := by simp [nums_length]; omega
  rw [List.getElem?_append_right (by omega), hl, Nat.sub_self, List.getElem?_replicate, if_pos (by omega)]

theorem byA_of_row {w : World} {N base : Nat} {l : Bs} (h : w.ownsRow base 5 1 (.slice (some ⟨N, 0, none⟩) l.length l.length) l.length (mix l l.length)) : ByA w (some ⟨N, 0, none⟩, l.length, l.length) l := by
  refine ⟨rfl, fun _ => ⟨N, 0, rfl, fun i hi => ?_⟩⟩
  have hi' : i < l.length := hi
  rw [Nat.zero_add, h.cellAt i (by omega), mix_end]
  simp [nums, hi']

theorem zzCopy_nil (p : Option Addr) (n c : Nat) (w : World) : Calls Try.prog 8 #[.map none, .slice p n c] w fun e w' => e = .returned (.map none) ∧ w' = w := by
  have q22 : ∀ (w : World) (r : Option Nat), (binOp .eql 22 (.map r) (.map none)).run Try.prog w = .ok (.bool r.isNone) w := fun w r => run_eql_map_nil w _ _ _ r Try.underlying22
  go_enter Try.func8, Try.ntmps8
  go_wp2
  go_ret
  exact ⟨rfl, rfl⟩

set_option maxHeartbeats 1000000 in
theorem zzCopy_calls (b : Nat) (g : Bs → Option Hd) (n : Nat) (M : List Ent) (p : Option Addr) (w : World) (hM : MapG Try.prog 9 w (some b) g n) (hL : Lists M g) (hks : StrsA w p (M.map Prod.fst)) (hlen : M.length ≤ 65536) (hkl : ∀ q ∈ M, q.1.length ≤ maxLen)
    (hsm : Small M) (hby : ∀ q ∈ M, ∃ l, ByA w q.2 l) :
    Calls Try.prog 8 #[.map (some b), .slice p M.length M.length] w fun e w' => ∃ g', e = .returned (.map (some w.heap.size)) ∧ MapG Try.prog 9 w' (some w.heap.size) g' M.length ∧ Cop w' g g' M M.length ∧ Below w.heap.size w w' := by
  have q22 : ∀ (w : World) (r : Option Nat), (binOp .eql 22 (.map r) (.map none)).run Try.prog w = .ok (.bool r.isNone) w := fun w r => run_eql_map_nil w _ _ _ r Try.underlying22
  have q31 : ∀ (w : World) (a : Option Addr) (n c n' c' : Nat), (binOp .eql 31 (.slice a n c) (.slice none n' c')).run Try.prog w = .ok (.bool a.isNone) w := fun w a n c n' c' => Lib.run_eql_slice_nil w _ _ a n c n' c' Try.underlying31
  have hmm := makeMap22
  by_cases h0 : M = []
  · subst h0
    obtain rfl := hks.1 rfl
    have hA : MapG Try.prog 9 (w.alloc (.map #[] 0)) (some w.heap.size) (fun _ => none) 0 := MapG.made _ _ _
    have hC : Cop (w.alloc (.map #[] 0)) g (fun _ => none) [] 0 := Cop.start _ _ _
    clear hks hL hkl hby hsm
    go_enter Try.func8, Try.ntmps8
    go_wp2
    refine wp_loop_rounds 1 ?_
    rw [rounds_succ]
    go_wp2
    go_ret
    exact ⟨_, rfl, hA, hC, (Below.refl _ _).alloc (Nat.le_refl _) _⟩
  · obtain ⟨bk, rfl, hc⟩ := hks.2 (by simpa using h0)
    have hpos : 0 < M.length := List.length_pos_iff.2 h0
    simp only [List.length_map, List.getElem_map] at hc
    have hA : MapG Try.prog 9 (w.alloc (.map #[] 0)) (some w.heap.size) (fun _ => none) 0 := MapG.made _ _ _
    have hC : Cop (w.alloc (.map #[] 0)) g (fun _ => none) M 0 := Cop.start _ _ _
    clear h0 hks
    go_enter Try.func8, Try.ntmps8
    go_wp2
    go_loopw [17] (fun i wr => ∃ (k : Nat) (gk : Bs → Option Hd), k ≤ M.length ∧ i = .int .i64 k ∧ MapG Try.prog 9 wr (some w.heap.size) gk k ∧ Cop wr g gk M k ∧ Below w.heap.size w wr ∧ w.heap.size + 1 ≤ wr.heap.size) (fun i _ => M.length - (intOf i).toNat)
    case atStart => exact ⟨0, _, Nat.zero_le _, rfl, hA, hC, (Below.refl _ _).alloc (Nat.le_refl _) _, by simp⟩
    case round =>
      obtain ⟨k, gk, hk, rfl, hMk, hCk, hbel, hsz⟩ := hrel
      clear hA hC
      obtain ⟨wo, rfl⟩ : ∃ wo : World, wo = wr := ⟨_, rfl⟩
      by_cases hlt : k < M.length
      · have hcell := cell_later hbel (hc k hlt)
        have hMo := hM.later hbel
        have hkb := hkl _ (List.getElem_mem hlt)
        have hsmk := hsm _ (List.getElem_mem hlt)
        obtain ⟨l, hl0⟩ := hby _ (List.getElem_mem hlt)
        have hl1 := hl0.later hbel
        have HG : Hid (g (M[k]).1 = some (M[k]).2) := (hL.2 _ _).1 (List.getElem_mem hlt)
        have hfr := hCk.fresh hL hlt
        obtain ⟨x, pa, m, c, he⟩ : ∃ x pa m c, M[k] = (x, pa, m, c) := ⟨_, _, _, _, rfl⟩
        have hstep := fun (w1 : World) (a : Hd) (hkeep : ∀ a l, ByA wo a l → ByA w1 a l) (ha : Good w1 a) (hn : a.1 = none → (M[k]).2.1 = none) => hCk.step hL hlt hkeep ha hn
        rw [he] at hcell hkb hsmk hl1 HG hfr hstep
        have HST : Hid (∀ (w1 : World) (a : Hd), (∀ a l, ByA wo a l → ByA w1 a l) → Good w1 a → (a.1 = none → pa = none) → Cop w1 g (upd gk x (some a)) M (k + 1)) := hstep
        have HGS : Hid ((g x).getD nilH = (pa, m, c)) := by show (g x).getD nilH = _; rw [HG.out]; rfl
        have HFR : Hid ((gk x).isSome = false) := hfr
        have HB : Hid (∃ es clock, wo.heap[w.heap.size]? = some (.map es clock)) := by obtain ⟨D, ⟨es, clock, h1, _⟩, _⟩ := hMk; exact ⟨es, clock, h1⟩
        simp only at hsmk hl1
        clear hc hL hkl hby hsm hl0 HG hfr hstep he hCk hM
        cases pa with
        | none =>
          go_wp2_with (first
            | (at_lookup; refine wpList_get_g _ rfl _ _ 22 rfl law9 Try.underlying9 Try.underlying22 zero31 hMo rfl x rfl hkb none m c HGS.out ?_)
            | (at_mapUpdate; refine wpList_put_g _ rfl _ _ _ 22 rfl law9 Try.underlying9 Try.underlying22 hMk (by unfold maxLen; omega) rfl x rfl hkb nilH rfl ?_; intro w1 hM1 hg1))
          rw [HFR.out] at hM1
          go_roundw
          case rel =>
            refine ⟨k + 1, _, by omega, by go_num, hM1, ?_, hbel.grown hg1 (by omega) (fun j e => by cases e; exact Nat.le_refl _), Nat.le_trans hsz hg1.size⟩
            obtain ⟨es, clock, hb0⟩ := HB.out
            exact HST.out w1 nilH (fun a l h => h.kept hg1 hb0) (good_nil w1) (fun _ => rfl)
          case measure => simp [intOf]; omega
        | some ad =>
          obtain ⟨i0, hi, hz0, hz1, hz2⟩ := info_parts Try.info5
          have hlm : Hid (l.length = m) := hl1.1
          rcases Nat.eq_zero_or_pos m with hm0 | hm0
          · have HM0 : Hid (m = 0) := hm0
            clear hl1 hm0
            go_wp2_with (first
              | (at_lookup; refine wpList_get_g _ rfl _ _ 22 rfl law9 Try.underlying9 Try.underlying22 zero31 hMo rfl x rfl hkb (some ad) m c HGS.out ?_)
              | (at_make; refine wpList_make_full _ rfl _ _ 31 rfl wo.heap.size 5 i0 (.int .u8 0) 1 Try.underlying31 hi hz0 hz1 .i64 .i64 _ _ m rfl rfl rfl rfl (by rw [hz2]; omega) (by unfold maxLen; omega) (Nat.le_refl _) ?_; intro w1 hown1 hg1))
            have hrow0 : Hid (w1.ownsRow wo.heap.size 5 1 (.slice (some ⟨wo.heap.size, 0, none⟩) m m) m (mix l 0)) := by
              have e1 : (madeCells (Value.int .u8 0).cells (m * 1)).toList = mix l 0 := by
                show (madeCells #[Value.int .u8 0] (m * 1)).toList = _
                rw [toList_madeCells_one]
                simp [mix, hlm.out]
              rw [e1] at hown1
              exact hown1
            have HZ : Hid (wo.heap.size + 1 ≤ w1.heap.size) := by
              rcases hown1.2 with ⟨h1, _⟩ | ⟨g1, cap, cur, h1, _, hh, _⟩
              · cases h1
              · cases h1
                exact (Array.getElem?_eq_some_iff.1 hh).1
            clear hown1
            go_loopw [38] (fun jj wi => ∃ j : Nat, j ≤ m ∧ jj = .int .i64 j ∧ wi.ownsRow wo.heap.size 5 1 (.slice (some ⟨wo.heap.size, 0, none⟩) m m) m (mix l j) ∧ Below wo.heap.size wo wi ∧ wo.heap.size + 1 ≤ wi.heap.size) (fun jj _ => m - (intOf jj).toNat)
            case atStart => exact ⟨0, Nat.zero_le _, rfl, hrow0.out, (Below.refl _ _).grown hg1 (Nat.le_refl _) (by simp), HZ.out⟩
            case round =>
              obtain ⟨j, hj, rfl, hrow, hbw, hszw⟩ := hrel
              clear hrow0 hg1 HZ
              by_cases hjm : j < m
              · exact absurd hjm (by rw [HM0.out]; omega)
              · obtain rfl : j = m := by omega
                have hMw := hMk.later hbw
                have hcw := cell_later hbw hcell
                have HBY : Hid (ByA wr (some ⟨wo.heap.size, 0, none⟩, j, j) l) := by
                  have hl := hlm.out
                  show ByA wr (some ⟨wo.heap.size, 0, none⟩, j, j) l
                  rw [← hl] at hrow ⊢
                  exact byA_of_row hrow
                have HBW : Hid (Below wo.heap.size wo wr) := hbw
                have HBw : Hid (∃ es clock, wr.heap[w.heap.size]? = some (.map es clock)) := by
                  obtain ⟨es, clock, h1⟩ := HB.out
                  exact ⟨es, clock, (hbw.block _ (by omega)).trans h1⟩
                clear hrow hbw
                go_wp2_with (at_mapUpdate; refine wpList_put_g _ rfl _ _ _ 22 rfl law9 Try.underlying9 Try.underlying22 hMw (by unfold maxLen; omega) rfl x rfl hkb (some ⟨wo.heap.size, 0, none⟩, j, j) rfl ?_; intro w2 hM2 hg2)
                rw [HFR.out] at hM2
                go_roundw
                case rel =>
                  have hb2 : Below w.heap.size w w2 := (hbel.trans (HBW.out.mono (by omega))).grown hg2 (by omega) (fun j e => by cases e; exact Nat.le_refl _)
                  refine ⟨k + 1, _, by omega, by go_num, hM2, ?_, hb2, by have := hg2.size; omega⟩
                  obtain ⟨es, clock, hb0⟩ := HBw.out
                  exact HST.out w2 _ (fun a l h => (h.later HBW.out).kept hg2 hb0) ⟨⟨l, HBY.out.kept hg2 hb0⟩, by simpa using hsmk⟩ (fun h => by cases h)
                case measure => simp [intOf]; omega
          · obtain ⟨b0, o0, e0, hcs⟩ := hl1.2 hm0
            simp only [Option.some.injEq] at e0
            subst e0
            simp only at hcs
            clear hl1
            go_wp2_with (first
              | (at_lookup; refine wpList_get_g _ rfl _ _ 22 rfl law9 Try.underlying9 Try.underlying22 zero31 hMo rfl x rfl hkb (some ⟨b0, o0, none⟩) m c HGS.out ?_)
              | (at_make; refine wpList_make_full _ rfl _ _ 31 rfl wo.heap.size 5 i0 (.int .u8 0) 1 Try.underlying31 hi hz0 hz1 .i64 .i64 _ _ m rfl rfl rfl rfl (by rw [hz2]; omega) (by unfold maxLen; omega) (Nat.le_refl _) ?_; intro w1 hown1 hg1))
            have hrow0 : Hid (w1.ownsRow wo.heap.size 5 1 (.slice (some ⟨wo.heap.size, 0, none⟩) m m) m (mix l 0)) := by
              have e1 : (madeCells (Value.int .u8 0).cells (m * 1)).toList = mix l 0 := by
                show (madeCells #[Value.int .u8 0] (m * 1)).toList = _
                rw [toList_madeCells_one]
                simp [mix, hlm.out]
              rw [e1] at hown1
              exact hown1
            have HZ : Hid (wo.heap.size + 1 ≤ w1.heap.size) := by
              rcases hown1.2 with ⟨h1, _⟩ | ⟨g1, cap, cur, h1, _, hh, _⟩
              · cases h1
              · cases h1
                exact (Array.getElem?_eq_some_iff.1 hh).1
            clear hown1
            go_loopw [38] (fun jj wi => ∃ j : Nat, j ≤ m ∧ jj = .int .i64 j ∧ wi.ownsRow wo.heap.size 5 1 (.slice (some ⟨wo.heap.size, 0, none⟩) m m) m (mix l j) ∧ Below wo.heap.size wo wi ∧ wo.heap.size + 1 ≤ wi.heap.size) (fun jj _ => m - (intOf jj).toNat)
            case atStart => exact ⟨0, Nat.zero_le _, rfl, hrow0.out, (Below.refl _ _).grown hg1 (Nat.le_refl _) (by simp), HZ.out⟩
            case round =>
              obtain ⟨j, hj, rfl, hrow, hbw, hszw⟩ := hrel
              clear hrow0 hg1 HZ
              by_cases hjm : j < m
              · have hsrc := cell_later hbw (hcs j hjm)
                rw [nums_getD l j (by rw [hlm.out]; exact hjm)] at hsrc
                have hset : Hid ((mix l j).set j (Value.int .u8 ((l[j]'(by rw [hlm.out]; exact hjm)).toNat : Int)) = mix l (j + 1)) := mix_set l j (by rw [hlm.out]; exact hjm)
                have hdst := hrow.cellAt j (by omega)
                rw [mix_get l j (by rw [hlm.out]; exact hjm)] at hdst
                have hfz := hrow.frozenAt j
                generalize ((l[j]'(by rw [hlm.out]; exact hjm)).toNat : Int) = y at hsrc hset
                have hst := hrow.stored j (.int .u8 y)
                rw [hset.out] at hst
                have HR : Hid _ := hst
                have HW : Hid _ := hbw
                clear hst hset hrow hbw hcs
                go_wp2
                go_roundw
                case rel => exact ⟨j + 1, by omega, by go_num, HR.out.1, HW.out.setCell (Nat.le_refl _) _, by simpa [World.setCell] using hszw⟩
                case measure => simp [intOf]; omega
              · obtain rfl : j = m := by omega
                have hMw := hMk.later hbw
                have hcw := cell_later hbw hcell
                have HBY : Hid (ByA wr (some ⟨wo.heap.size, 0, none⟩, j, j) l) := by
                  have hl := hlm.out
                  show ByA wr (some ⟨wo.heap.size, 0, none⟩, j, j) l
                  rw [← hl] at hrow ⊢
                  exact byA_of_row hrow
                have HBW : Hid (Below wo.heap.size wo wr) := hbw
                have HBw : Hid (∃ es clock, wr.heap[w.heap.size]? = some (.map es clock)) := by
                  obtain ⟨es, clock, h1⟩ := HB.out
                  exact ⟨es, clock, (hbw.block _ (by omega)).trans h1⟩
                clear hrow hbw
                go_wp2_with (at_mapUpdate; refine wpList_put_g _ rfl _ _ _ 22 rfl law9 Try.underlying9 Try.underlying22 hMw (by unfold maxLen; omega) rfl x rfl hkb (some ⟨wo.heap.size, 0, none⟩, j, j) rfl ?_; intro w2 hM2 hg2)
                rw [HFR.out] at hM2
                go_roundw
                case rel =>
                  have hb2 : Below w.heap.size w w2 := (hbel.trans (HBW.out.mono (by omega))).grown hg2 (by omega) (fun j e => by cases e; exact Nat.le_refl _)
                  refine ⟨k + 1, _, by omega, by go_num, hM2, ?_, hb2, by have := hg2.size; omega⟩
                  obtain ⟨es, clock, hb0⟩ := HBw.out
                  exact HST.out w2 _ (fun a l h => (h.later HBW.out).kept hg2 hb0) ⟨⟨l, HBY.out.kept hg2 hb0⟩, by simpa using hsmk⟩ (fun h => by cases h)
                case measure => simp [intOf]; omega
      · go_wp2
        go_ret
        obtain rfl : k = M.length := by omega
        exact ⟨gk, rfl, hMk, hCk, hbel⟩

end Go.Proofs.Qxb6603884a
