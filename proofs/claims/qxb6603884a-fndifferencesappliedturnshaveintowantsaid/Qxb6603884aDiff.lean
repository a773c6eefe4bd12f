/-
  differences (function 13).
-/
import Derived.Test.Qxb6603884aAcc
namespace Go.Proofs.Qxb6603884a
open Go.RowKit Go.Maps Go.Sort

theorem Try.info39 : (Try.prog.info? 39).map (fun i => (i.zero, i.size, i.bytes)) = some (some (.agg #[.string ⟨#[]⟩, .slice none 0 0]), 2, 40) := by kernel_rfl

section
variable {P : Program} {k : TypeId} {w : World} {ob : Option Nat} {r : Nat} {g : Bs → Option Hd} {n : Nat} {left : Bs → Bool} {cnt : Nat} {base : Nat} {e : TypeId} {size : Nat} {v : Value} {m : Nat} {xs : List Value}

theorem row_ne (h : w.ownsRow base e size v m xs) (hR : RangeG P k w ob r g n left cnt) : some r ≠ v.ownBlock := by
  have hit : ∃ o a s c, w.heap[r]? = some (.mapIter o a s c) := by
    cases ob with
    | none => obtain ⟨_, _, _, _, a, s, c, h5⟩ := hR; exact ⟨_, a, s, c, h5⟩
    | some b => obtain ⟨D, L, ⟨_, _, a, s, c, _, _, _, _, h5, _⟩, _⟩ := hR; exact ⟨_, a, s, c, h5⟩
  obtain ⟨o, a, s, c, hr⟩ := hit
  rcases h.2 with ⟨rfl, _⟩ | ⟨g', cap, cur, rfl, _, hb, _⟩
  · simp [Value.ownBlock]
  · intro e1
    simp only [Value.ownBlock, Option.some.injEq] at e1
    rw [e1, hb] at hr
    cases hr

theorem row_low (h : w.ownsRow base e size v m xs) {b : Nat} (hb : b < base) : some b ≠ v.ownBlock := by
  rcases h.2 with ⟨rfl, _⟩ | ⟨g', cap, cur, rfl, hg, _⟩
  · simp [Value.ownBlock]
  · simp only [Value.ownBlock, ne_eq, Option.some.injEq]; omega

theorem row_base (h : w.ownsRow base e size v m xs) : ∀ j, v.ownBlock = some j → base ≤ j := by
  rcases h.2 with ⟨rfl, _⟩ | ⟨g', cap, cur, rfl, hg, _⟩
  · intro j hj; cases hj
  · intro j hj; cases hj; exact hg
end

theorem append_end {P : Program} {k : TypeId} {w w1 w2 : World} {ob : Option Nat} {r : Nat} {g : Bs → Option Hd} {n : Nat} {left : Bs → Bool} {cnt : Nat} {v v2 : Value} {acc : List Ent} {o : Obj} (hR1 : RangeG P k w1 ob r g n left cnt) (hrow1 : w1.ownsRow w.heap.size 39 2 v acc.length (flatE acc))
    (hbel1 : Below w.heap.size w w1) (hlow : ∀ b, ob = some b → b < w.heap.size) (x : Bs) (p : Option Addr) (m c : Nat) (hown2 : w2.ownsRow w.heap.size 39 2 v2 (acc.length + 1) (flatE acc ++ [encStr x, .slice p m c])) (hg2 : (w1.alloc o).grownBy w2 v.ownBlock) :
    RangeG P k w2 ob r g n left cnt ∧ w2.ownsRow w.heap.size 39 2 v2 (acc ++ [(x, p, m, c)]).length (flatE (acc ++ [(x, p, m, c)])) ∧ Below w.heap.size w w2 := by
  have hRa := hR1.kept (World.grownBy_alloc w1 o none) (by simp) (by simp)
  refine ⟨hRa.kept hg2 (fun b e => row_low hrow1 (hlow b e)) (row_ne hrow1 hR1), ?_, ?_⟩
  · rw [flatE_snoc, List.length_append]
    exact hown2
  · exact (hbel1.alloc hbel1.size o).grown hg2 (by have := hbel1.size; simp; omega) (row_base hrow1)

theorem new_cells (w : World) (x y : Value) (e : TypeId) : ∀ j u, [x, y][j]? = some u → (w.alloc (.cells #[x, y] e)).cell? ((⟨w.heap.size, 0, none⟩ : Addr).add j) = some u := by
  intro j u hj
  match j, hj with
  | 0, hj => simp at hj; subst hj; simp [Addr.add]
  | 1, hj => simp at hj; subst hj; simp [Addr.add]

theorem one_cells (x : Bs) (h : Hd) : ∀ u ∈ [encStr x, hv h], u.oneCell' = true := by
  intro u hu
  simp at hu
  rcases hu with rfl | rfl <;> rfl

theorem sort_list (g cap : Nat) (acc : List Ent) (w : World) (hH : HoldsK encE 2 w g 0 acc.toArray) (hg : g < w.heap.size) (hl : acc.length ≤ 262144) (ha : Apart acc) :
    Calls Try.prog 16 #[.slice (some ⟨g, 0, none⟩) acc.length cap, .func (.func 17) #[] #[]] w fun e w' => e = .returned (.tuple #[]) ∧ ∃ cs : List Ent, cs.Perm acc ∧ Rising cs ∧ HoldsK encE 2 w' g 0 cs.toArray ∧ w.grownBy w' (some g) := by
  refine (sort_calls g 0 cap acc.toArray w hH hg (by simp; omega)).mono ?_
  rintro e w' ⟨rfl, d', n, os, hp, hs, rfl⟩
  obtain ⟨r1, r2⟩ := sorted_rising hp hs ha
  refine ⟨rfl, d'.toList, r1, r2, ?_, grownBy_sortK d'⟩
  exact SWK.holds ⟨n, os, rfl⟩ hg hH hp.1

set_option maxHeartbeats 2000000 in
theorem diff_calls (oh ow : Option Nat) (gh gw : Bs → Option Hd) (nh nw : Nat) (rd : Hd → Bs) (cs : List Ent) (w : World) (hMh : MapG Try.prog 9 w oh gh nh) (hMw : MapG Try.prog 9 w ow gw nw) (hrh : ∀ x h, gh x = some h → ByA w h (rd h)) (hrw : ∀ x h, gw x = some h → ByA w h (rd h)) (hD : IsDiff rd gh gw cs) (hn : nh + nw ≤ 262144) :
    Calls Try.prog 13 #[.map oh, .map ow] w fun e w' => (∃ p cap, e = .returned (.slice p cs.length cap) ∧ ChgA w' p cs) ∧ Below w.heap.size w w' := by
  obtain ⟨i0, hi, hz0, hz1, hz2⟩ := info_parts Try.info39
  have hlh : ∀ b, oh = some b → b < w.heap.size := fun b e => by subst e; exact hMh.lt
  have hlw : ∀ b, ow = some b → b < w.heap.size := fun b e => by subst e; exact hMw.lt
  have HRH : Hid (∀ x h, gh x = some h → ByA w h (rd h)) := hrh
  have HRW : Hid (∀ x h, gw x = some h → ByA w h (rd h)) := hrw
  have HD : Hid (IsDiff rd gh gw cs) := hD
  clear hrh hrw hD
  go_enter Try.func13, Try.ntmps13
  go_wp2_with (at_range; refine wpList_range_g _ rfl _ 22 rfl law9 Try.underlying9 Try.underlying22 hMw rfl ?_; intro w0 hR0 hg0 hs0)
  go_frame
  go_loopw [5] (fun v wr => ∃ (left : Bs → Bool) (cnt : Nat) (acc : List Ent), RangeG Try.prog 9 wr ow w.heap.size gw nw left cnt ∧ wr.ownsRow w.heap.size 39 2 v acc.length (flatE acc) ∧ (acc = [] → v = .slice none 0 0) ∧ Acc1 rd gh gw left acc ∧ acc.length + cnt ≤ nw ∧ Below w.heap.size w wr) (fun _ wr => mLeft wr ow w.heap.size)
  case atStart => exact ⟨_, _, [], hR0, World.ownsRow_nil _ _ _ _, fun _ => rfl, Acc1.start rd gh gw, by simp, (Below.refl _ _).grown hg0 (Nat.le_refl _) (by simp)⟩
  case round =>
    obtain ⟨left, cnt, acc, hR, hrow, hnil, hA, hcn, hbel⟩ := hrel
    clear hR0 hg0 hs0
    go_wp2_with (at_next; refine wpList_next_g _ rfl _ rfl law9 Try.underlying9 _ left cnt hR rfl ?_ ?_)
    · intro hl0
      have hA2 : Acc2 rd gh gw (fun x => (gh x).isSome) acc := hA.next hl0
      obtain ⟨wm, rfl⟩ : ∃ wm : World, wm = wr := ⟨_, rfl⟩
      have hMhm := hMh.later hbel
      have hszm := hbel.size
      clear hA hl0 hR
      go_wp2_with (at_range; refine wpList_range_g _ rfl _ 22 rfl law9 Try.underlying9 Try.underlying22 hMhm rfl ?_; intro w0 hR0 hg0 hs0)
      go_frame
      go_loopw [5] (fun v wr => ∃ (left : Bs → Bool) (cnt : Nat) (acc : List Ent), RangeG Try.prog 9 wr oh wm.heap.size gh nh left cnt ∧ wr.ownsRow w.heap.size 39 2 v acc.length (flatE acc) ∧ (acc = [] → v = .slice none 0 0) ∧ Acc2 rd gh gw left acc ∧ acc.length + cnt ≤ nh + nw ∧ Below w.heap.size w wr) (fun _ wr => mLeft wr oh wm.heap.size)
      case atStart => exact ⟨_, _, acc, hR0, hrow.kept hg0 (Classical.or_iff_not_imp_left.2 (fun h e => h e)), hnil, hA2, by omega, hbel.grown hg0 hbel.size (by simp)⟩
      case round =>
        obtain ⟨left2, cnt2, acc2, hR, hrow2, hnil2, hA, hcn2, hbel2⟩ := hrel
        clear hR0 hg0 hs0 hrow hnil hA2 hMhm
        go_wp2_with (at_next; refine wpList_next_g _ rfl _ rfl law9 Try.underlying9 _ left2 cnt2 hR rfl ?_ ?_)
        · intro hl0
          by_cases h0 : acc2 = []
          · subst h0
            have e0 := hnil2 rfl
            have HCS : Hid (cs = []) := (HD.out).unique (hA.isDiff hl0 (List.Perm.refl _) List.Pairwise.nil)
            have hc := fun W => sort_none none 0 (.func (.func 17) #[] #[]) W
            clear hnil2 hA hrow2 hR
            rw [e0]
            clear e0
            go_wp2_with (go_at_call 16; refine (hc _).mono ?_; rintro e w' ⟨rfl, rfl⟩)
            go_ret
            refine ⟨⟨none, 0, ?_, fun _ => rfl, fun h => absurd HCS.out h⟩, hbel2⟩
            rw [HCS.out]; rfl
          · rcases hrow2.2 with ⟨_, hz⟩ | ⟨g1, cap, cur, hve, hbase, hblk, _⟩
            · exact absurd (List.eq_nil_of_length_eq_zero hz) h0
            · rw [hve] at hrow2
              rw [hve]
              have hH := holdsK_row rfl hrow2
              have hgl : g1 < wr.heap.size := (Array.getElem?_eq_some_iff.1 hblk).1
              have hc := sort_list g1 cap acc2 wr hH hgl (by omega) hA.1
              have HA : Hid (∀ cs' : List Ent, cs'.Perm acc2 → Rising cs' → cs' = cs) := fun cs' h1 h2 => (hA.isDiff hl0 h1 h2).unique HD.out
              have HN : Hid (acc2 ≠ []) := h0
              clear hH hA h0 hve hblk hnil2 hrow2 hR
              go_wp2_with (go_at_call 16; go_must (refine hc.mono ?_); rintro e w' ⟨rfl, cs', hp, hs, hH', hg'⟩)
              go_ret
              obtain rfl := HA.out cs' hp hs
              have hne : cs' ≠ [] := fun e => HN.out (by rw [e] at hp; exact List.nil_perm.1 hp)
              refine ⟨⟨some ⟨g1, 0, none⟩, cap, ?_, chgA_of_holds hne hH'⟩, hbel2.grown hg' hbel2.size (fun j e => by cases e; exact hbase)⟩
              rw [hp.length_eq]; rfl
        · intro x ph mh ch w1 cnt1 hxl hlx hgx hR1 hlt hg1 hs1 hen
          have hrow1 := hrow2.kept hg1 (Or.inr (row_ne hrow2 hR).symm)
          have hbel1 : Below w.heap.size w w1 := hbel2.grown hg1 hbel2.size (fun j e => by cases e; exact hszm)
          have hMw1 := hMw.later hbel1
          have hsz1 := hbel1.size
          have HL : Hid (left2 x = true) := hlx
          have HGX : Hid (gh x = some (ph, mh, ch)) := hgx
          have HC : Hid (mLeft wr oh wm.heap.size = cnt2) := hR.left_eq
          clear hs1 hlx hgx hR
          cases hgu : gw x with
          | none =>
            have HGU : Hid (gw x = none) := hgu
            have HGS : Hid ((gw x).getD nilH = (none, 0, 0)) := by show (gw x).getD nilH = _; rw [hgu]; rfl
            have HOK : Hid ((gw x).isSome = false) := by show (gw x).isSome = _; rw [hgu]; rfl
            clear hgu
            go_wp2_with (first
              | (at_lookup; refine wpList_getok_g _ rfl _ _ 22 rfl law9 Try.underlying9 Try.underlying22 zero31 hMw1 rfl x rfl hxl none 0 0 HGS.out false HOK.out ?_)
              | (at_builtin; refine wpList_append_own _ rfl _ _ 36 rfl w.heap.size 39 i0 (.agg #[.string ⟨#[]⟩, .slice none 0 0]) 2 40 Try.underlying36 hi hz0 hz1 hz2 rfl (by decide) _ _ _ rfl (hrow1.alloc _) ⟨w1.heap.size, 0, none⟩ 1 1 [encStr x, .slice none 0 0] rfl rfl (new_cells _ _ _ _) (one_cells x (none, 0, 0)) (by unfold maxLen; omega) (by omega) (by simp; omega) ?_; intro v2 w2 hown2 hg2 hnil3))
            go_roundw
            case rel =>
              obtain ⟨r1, r2, r3⟩ := append_end hR1 hrow1 hbel1 hlh x none 0 0 hown2 hg2
              exact ⟨_, cnt1, acc2 ++ [(x, none, 0, 0)], r1, r2, by simp, hA.hit HL.out HGX.out HGU.out, by simp; omega, r3⟩
            case measure =>
              obtain ⟨r1, r2, r3⟩ := append_end hR1 hrow1 hbel1 hlh x none 0 0 hown2 hg2
              rw [r1.left_eq, HC.out]; exact hlt
          | some u =>
            obtain ⟨pu, mu, cu⟩ := u
            have HGU : Hid (gw x = some (pu, mu, cu)) := hgu
            have HGS : Hid ((gw x).getD nilH = (pu, mu, cu)) := by show (gw x).getD nilH = _; rw [hgu]; rfl
            have HOK : Hid ((gw x).isSome = true) := by show (gw x).isSome = _; rw [hgu]; rfl
            clear hgu
            go_wp2_with (at_lookup; refine wpList_getok_g _ rfl _ _ 22 rfl law9 Try.underlying9 Try.underlying22 zero31 hMw1 rfl x rfl hxl pu mu cu HGS.out true HOK.out ?_)
            go_roundw
            case rel => exact ⟨_, cnt1, acc2, hR1, hrow1, hnil2, hA.miss HGU.out, by omega, hbel1⟩
            case measure => rw [hR1.left_eq, HC.out]; exact hlt
    · intro x ph mh ch w1 cnt1 hxl hlx hgx hR1 hlt hg1 hs1 hen
      have hrow1 := hrow.kept hg1 (Or.inr (row_ne hrow hR).symm)
      have hbel1 : Below w.heap.size w w1 := hbel.grown hg1 hbel.size (fun j e => by cases e; exact Nat.le_refl _)
      have hMh1 := hMh.later hbel1
      have hsz1 := hbel1.size
      have HL : Hid (left x = true) := hlx
      have HGX : Hid (gw x = some (ph, mh, ch)) := hgx
      have HC : Hid (mLeft wr ow w.heap.size = cnt) := hR.left_eq
      clear hs1 hlx hgx hR
      cases hgu : gh x with
      | none =>
        have HGU : Hid (gh x = none) := hgu
        have HGS : Hid ((gh x).getD nilH = (none, 0, 0)) := by show (gh x).getD nilH = _; rw [hgu]; rfl
        have HOK : Hid ((gh x).isSome = false) := by show (gh x).isSome = _; rw [hgu]; rfl
        clear hgu
        go_wp2_with (first
          | (at_lookup; refine wpList_getok_g _ rfl _ _ 22 rfl law9 Try.underlying9 Try.underlying22 zero31 hMh1 rfl x rfl hxl none 0 0 HGS.out false HOK.out ?_)
          | (at_builtin; refine wpList_append_own _ rfl _ _ 36 rfl w.heap.size 39 i0 (.agg #[.string ⟨#[]⟩, .slice none 0 0]) 2 40 Try.underlying36 hi hz0 hz1 hz2 rfl (by decide) _ _ _ rfl (hrow1.alloc _) ⟨w1.heap.size, 0, none⟩ 1 1 [encStr x, .slice ph mh ch] rfl rfl (new_cells _ _ _ _) (one_cells x (ph, mh, ch)) (by unfold maxLen; omega) (by omega) (by simp; omega) ?_; intro v2 w2 hown2 hg2 hnil2))
        go_roundw
        case rel =>
          obtain ⟨r1, r2, r3⟩ := append_end hR1 hrow1 hbel1 hlw x ph mh ch hown2 hg2
          exact ⟨_, cnt1, acc ++ [(x, ph, mh, ch)], r1, r2, by simp, hA.hit HL.out HGX.out (fun u hu => by rw [HGU.out] at hu; cases hu), by simp; omega, r3⟩
        case measure =>
          obtain ⟨r1, r2, r3⟩ := append_end hR1 hrow1 hbel1 hlw x ph mh ch hown2 hg2
          rw [r1.left_eq, HC.out]; exact hlt
      | some u =>
        obtain ⟨pu, mu, cu⟩ := u
        have HGU : Hid (gh x = some (pu, mu, cu)) := hgu
        have HGS : Hid ((gh x).getD nilH = (pu, mu, cu)) := by show (gh x).getD nilH = _; rw [hgu]; rfl
        have HOK : Hid ((gh x).isSome = true) := by show (gh x).isSome = _; rw [hgu]; rfl
        have HEQ : Hid (Calls Try.prog 15 #[.slice pu mu cu, .slice ph mh ch] w1 fun e w' => e = .returned (.bool (rd (pu, mu, cu) == rd (ph, mh, ch))) ∧ w1 = w') :=
          (bytesEqual_calls pu ph mu cu mh ch _ _ w1 ((HRH.out x _ hgu).later hbel1) ((HRW.out x _ HGX.out).later hbel1)).mono fun _ _ ⟨h1, h2⟩ => ⟨h1, h2.symm⟩
        clear hgu
        cases heq : (rd (pu, mu, cu) == rd (ph, mh, ch)) with
        | true =>
          have HE : Hid (rd (pu, mu, cu) = rd (ph, mh, ch)) := by show rd (pu, mu, cu) = rd (ph, mh, ch); simpa using heq
          rw [heq] at HEQ
          clear heq
          go_wp2_with (first
            | (at_lookup; refine wpList_getok_g _ rfl _ _ 22 rfl law9 Try.underlying9 Try.underlying22 zero31 hMh1 rfl x rfl hxl pu mu cu HGS.out true HOK.out ?_)
            | (go_at_call 15; refine HEQ.out.mono ?_; rintro e w' ⟨rfl, rfl⟩))
          go_roundw
          case rel => exact ⟨_, cnt1, acc, hR1, hrow1, hnil, hA.miss HL.out HGX.out HGU.out HE.out, by omega, hbel1⟩
          case measure => rw [hR1.left_eq, HC.out]; exact hlt
        | false =>
          have HE : Hid (rd (pu, mu, cu) ≠ rd (ph, mh, ch)) := by show rd (pu, mu, cu) ≠ rd (ph, mh, ch); simpa using heq
          rw [heq] at HEQ
          clear heq
          go_wp2_with (first
            | (at_lookup; refine wpList_getok_g _ rfl _ _ 22 rfl law9 Try.underlying9 Try.underlying22 zero31 hMh1 rfl x rfl hxl pu mu cu HGS.out true HOK.out ?_)
            | (go_at_call 15; refine HEQ.out.mono ?_; rintro e w' ⟨rfl, rfl⟩)
            | (at_builtin; refine wpList_append_own _ rfl _ _ 36 rfl w.heap.size 39 i0 (.agg #[.string ⟨#[]⟩, .slice none 0 0]) 2 40 Try.underlying36 hi hz0 hz1 hz2 rfl (by decide) _ _ _ rfl (hrow1.alloc _) ⟨w1.heap.size, 0, none⟩ 1 1 [encStr x, .slice ph mh ch] rfl rfl (new_cells _ _ _ _) (one_cells x (ph, mh, ch)) (by unfold maxLen; omega) (by omega) (by simp; omega) ?_; intro v2 w2 hown2 hg2 hnil2))
          go_roundw
          case rel =>
            obtain ⟨r1, r2, r3⟩ := append_end hR1 hrow1 hbel1 hlw x ph mh ch hown2 hg2
            exact ⟨_, cnt1, acc ++ [(x, ph, mh, ch)], r1, r2, by simp, hA.hit HL.out HGX.out (fun u hu => by rw [HGU.out] at hu; cases hu; exact HE.out), by simp; omega, r3⟩
          case measure =>
            obtain ⟨r1, r2, r3⟩ := append_end hR1 hrow1 hbel1 hlw x ph mh ch hown2 hg2
            rw [r1.left_eq, HC.out]; exact hlt

end Go.Proofs.Qxb6603884a
