/-
  FnDifferencesAppliedTurnsHaveIntoWant (function 4).
-/
import Derived.Test.Qxb6603884aApplPlain
import Derived.BigRegion
namespace Go.Proofs.Qxb6603884a
open Go.RowKit Go.Maps

set_option maxHeartbeats 4000000 in
set_option maxRecDepth 100000 in
theorem appl_calls (oh ow : Option Nat) (gh gw : Bs → Option Hd) (Mh Mw : List Ent) (w : World) (hMh : MapG Try.prog 9 w oh gh Mh.length) (hMw : MapG Try.prog 9 w ow gw Mw.length) (hLh : Lists Mh gh) (hLw : Lists Mw gw)
    (hkh : ∀ q ∈ Mh, q.1.length ≤ maxLen) (hkw : ∀ q ∈ Mw, q.1.length ≤ maxLen) (hrh : ∀ x h, gh x = some h → ∃ l, ByA w h l) (hrw : ∀ x h, gw x = some h → ∃ l, ByA w h l) :
    Calls Try.prog 4 #[.map oh, .map ow] w fun e w' => e = .returned (.bool true) ∧ Below w.heap.size w w' := by
  by_cases hb1 : Mh.length ≤ 65536
  · by_cases hb2 : Mw.length ≤ 65536
    · have b1 : (Mh.length : Int) ≤ 65536 := by omega
      have b2 : (Mw.length : Int) ≤ 65536 := by omega
      have HLH : Hid (Lists Mh gh) := hLh
      have HLW : Hid (Lists Mw gw) := hLw
      have HKH : Hid (∀ q ∈ Mh, q.1.length ≤ maxLen) := hkh
      have HKW : Hid (∀ q ∈ Mw, q.1.length ≤ maxLen) := hkw
      have HRH : Hid (∀ x h, gh x = some h → ∃ l, ByA w h l) := hrh
      have HRW : Hid (∀ x h, gw x = some h → ∃ l, ByA w h l) := hrw
      clear hLh hLw hkh hkw hrh hrw
      have q31 : ∀ (w : World) (a : Option Addr) (n c n' c' : Nat), (binOp .eql 31 (.slice a n c) (.slice none n' c')).run Try.prog w = .ok (.bool a.isNone) w := fun w a n c n' c' => Lib.run_eql_slice_nil w _ _ a n c n' c' Try.underlying31
      have e1 := hMh.run_len Try.underlying22 3
      have e2 := hMw.run_len Try.underlying22 3
      have d1 : decide ((65536 : Int) < (Mh.length : Int)) = false := by simp; omega
      go_enter Try.func4, Try.ntmps4
      go_wp2_with fail
      clear e1 e2 d1
      refine (zzKeys_calls oh gh Mh w hMh HLH.out hb1 HKH.out HRH.out).mono ?_
      rintro e w1 ⟨⟨p1, rfl, hs1⟩, hl1⟩
      go_wp2_with fail
      refine (zzKeys_calls ow gw Mw w1 (hMw.later hl1) HLW.out hb2 HKW.out (fun x h hx => (HRW.out x h hx).imp fun l hl => hl.later hl1)).mono ?_
      rintro e w2 ⟨⟨p2, rfl, hs2⟩, hl2⟩
      have hl02 : Below w.heap.size w w2 := hl1.trans (hl2.mono hl1.size)
      have hMh2 := hMh.later hl02
      have hMw2 := hMw.later hl02
      have hs12 := hs1.later hl2
      go_wp2_with fail
      refine (zzBytes_calls oh gh Mh.length Mh p1 w2 hMh2 HLH.out hs12 hb1 HKH.out).mono ?_
      rintro e w' ⟨⟨s1, rfl, y10, y11, hsm1⟩, hw⟩
      obtain rfl := hw.symm
      go_wp2_with fail
      refine (zzBytes_calls ow gw Mw.length Mw p2 _ hMw2 HLW.out hs2 hb2 HKW.out).mono ?_
      rintro e w' ⟨⟨s2, rfl, y20, y21, hsm2⟩, hw⟩
      obtain rfl := hw.symm
      go_wp2_with fail
      · go_ret
        exact ⟨rfl, hl02⟩
      · have hsm1' := hsm1 (by omega)
        have hsm2' := hsm2 (by omega)
        generalize decide ((1048576 : Int) < s1 + s2) = dd1
        generalize decide ((65536 : Int) < (Mw.length : Int)) = dd2
        clear y10 y11 y20 y21 b1 b2 hsm1 hsm2
        go_loop [51] (fun i => ∃ k : Nat, k ≤ Mw.length ∧ i = .int .i64 k ∧ NonNil (Mw.take k)) (fun i => Mw.length - (intOf i).toNat)
        case atStart => exact ⟨0, Nat.zero_le _, rfl, by simp [NonNil]⟩
        case round =>
          obtain ⟨k, hk, rfl, hNN⟩ := hrel
          by_cases hlt : k < Mw.length
          · have hgx : gw (Mw[k]).1 = some (Mw[k]).2 := (HLW.out.2 _ _).1 (List.getElem_mem hlt)
            have hkb := HKW.out _ (List.getElem_mem hlt)
            have HST : Hid ((Mw[k]).2.1 ≠ none → NonNil (Mw.take (k + 1))) := fun e => hNN.step hlt e
            obtain ⟨bk2, hp2, hc2⟩ := hs2.2 (by simp; intro e; rw [e] at hlt; simp at hlt)
            subst hp2
            have z2 := hc2 k (by simpa using hlt)
            simp only [List.getElem_map] at z2
            obtain ⟨x, px, mx, cx, hex⟩ : ∃ x px mx cx, Mw[k] = (x, px, mx, cx) := ⟨_, _, _, _, rfl⟩
            rw [hex] at z2 hgx hkb HST
            have HGS : Hid ((gw x).getD nilH = (px, mx, cx)) := by show (gw x).getD nilH = _; rw [hgx]; rfl
            clear hgx hex hc2 hNN
            cases px with
            | none =>
              go_wp2_with (at_lookup; refine wpList_get_g _ rfl _ _ 22 rfl law9 Try.underlying9 Try.underlying22 zero31 hMw2 rfl x rfl hkb none mx cx HGS.out ?_)
              go_ret
              exact ⟨rfl, hl02⟩
            | some ad =>
              go_wp2_with (at_lookup; refine wpList_get_g _ rfl _ _ 22 rfl law9 Try.underlying9 Try.underlying22 zero31 hMw2 rfl x rfl hkb (some ad) mx cx HGS.out ?_)
              go_round
              case rel => exact ⟨k + 1, by omega, by go_num, HST.out (by simp)⟩
              case measure => simp [intOf]; omega
          · have HNN : Hid (NonNil Mw) := by show NonNil Mw; rwa [List.take_of_length_le (by omega)] at hNN
            clear hNN
            go_wp2_with fail
            refine (zzCopy_any oh gh Mh p1 w2 hMh2 HLH.out hs12 hb1 HKH.out hsm1' (fun x h hx => (HRH.out x h hx).imp fun l hl => hl.later hl02)).mono ?_
            rintro e w3 ⟨o3, g3, rfl, hM3, hK3, hl3⟩
            have hl03 : Below w.heap.size w w3 := hl02.trans (hl3.mono hl02.size)
            go_wp2_with fail
            refine (zzCopy_any ow gw Mw p2 w3 (hMw2.later hl3) HLW.out (hs2.later hl3) hb2 HKW.out hsm2' (fun x h hx => (HRW.out x h hx).imp fun l hl => hl.later hl03)).mono ?_
            rintro e w4 ⟨o4, g4, rfl, hM4, hK4, hl4⟩
            have hl04 : Below w.heap.size w w4 := hl03.trans (hl4.mono hl03.size)
            have hM34 := hM3.later hl4
            have hK34 := hK3.later hl4
            obtain ⟨rd, hr⟩ := read_fun w4
            obtain ⟨Nh, hNh, hNhl, hNhk⟩ := hM34.lists law9 Try.underlying9
            obtain ⟨Nw, hNw, hNwl, hNwk⟩ := hM4.lists law9 Try.underlying9
            have hkeys1 := keys_eq HLH.out hNh hK34.1
            have hkeys2 := keys_eq HLW.out hNw hK4.1
            obtain ⟨cs, hcs⟩ : ∃ cs, cs = mergeL rd (Nh.length + Nw.length) Nh Nw := ⟨_, rfl⟩
            have hcl : cs.length ≤ Nh.length + Nw.length := by rw [hcs]; exact mergeL_length rd _ _ _
            have hD : IsDiff rd g3 g4 cs := by rw [hcs]; exact mergeL_isDiff hNh hNw (Nat.le_refl _)
            clear hcs
            have hne : ((cs.length : Int) != (cs.length : Int)) = false := by simp
            have hnil4 : ∀ x h, g4 x = some h → h.1 ≠ none := fun x h hx hn => by
              obtain ⟨a, ha, hb⟩ := (hK4.2 x h hx).2 hn
              exact HNN.out _ ((HLW.out.2 x a).2 ha) hb
            obtain ⟨hA1, hA2, hA3⟩ := appl_diff hD hnil4
            go_wp2_with fail
            refine (zzd_calls o3 o4 g3 g4 Mh.length Mw.length rd cs w4 hM34 hM4 (fun x h hx => hr h (hK34.2 x h hx).1.1) (fun x h hx => hr h (hK4.2 x h hx).1.1) hD (by omega) (by omega)).mono ?_
            rintro e w5 ⟨⟨pp, pc, rfl, hps, hpc⟩, hl5⟩
            have hl05 : Below w.heap.size w w5 := hl04.trans (hl5.mono hl04.size)
            have hs15 : StrsA w5 p1 (Nh.map Prod.fst) := by rw [hkeys1]; exact ((hs12.later hl3).later hl4).later hl5
            have hs25 : StrsA w5 p2 (Nw.map Prod.fst) := by rw [hkeys2]; exact ((hs2.later hl3).later hl4).later hl5
            have hM35 := hM34.later hl5
            have hM45 := hM4.later hl5
            have HB3 : Hid (∀ x h, g3 x = some h → ByA w5 h (rd h) ∧ h.2.1 ≤ 1048576) := fun x h hx => ⟨(hr h (hK34.2 x h hx).1.1).later hl5, (hK34.2 x h hx).1.2⟩
            have HB4 : Hid (∀ x h, g4 x = some h → ByA w5 h (rd h) ∧ h.2.1 ≤ 1048576) := fun x h hx => ⟨(hr h (hK4.2 x h hx).1.1).later hl5, (hK4.2 x h hx).1.2⟩
            have HNH : Hid (Lists Nh g3) := hNh
            have HNW : Hid (Lists Nw g4) := hNw
            have HNHK : Hid (∀ q ∈ Nh, q.1.length ≤ maxLen) := hNhk
            have HNWK : Hid (∀ q ∈ Nw, q.1.length ≤ maxLen) := hNwk
            have HD : Hid (IsDiff rd g3 g4 cs) := hD
            have HA1 : Hid (∀ x, (appl g3 cs x).isSome = (g4 x).isSome) := hA1
            have HA2 : Hid (∀ x h u, g4 x = some h → appl g3 cs x = some u → rd u = rd h) := hA2
            have HA3 : Hid (∀ x u, appl g3 cs x = some u → g3 x = some u ∨ g4 x = some u) := hA3
            clear hM34 hM4 hM3 hK34 hK4 hK3 hr hNh hNw hNhk hNwk hD hkeys1 hkeys2 hs1 hs2 hs12 hMh hMw hMh2 hMw2 hsm1' hsm2' hl1 hl2 hl3 hl4 hl5 hl02 hl03 hl04 HLH HLW HKH HKW HRH HRW HNN hA1 hA2 hA3 hnil4
            have hs1n : Nh.length ≤ 65536 := by omega
            have hs2n : Nw.length ≤ 65536 := by omega
            rw [← hNhl, ← hNwl] at *
            have hmm := makeMap22
            have hMB : MapG Try.prog 9 (w5.alloc (.map #[] 0)) (some w5.heap.size) (fun _ => none) 0 := MapG.made _ _ _
            have hbB : Below w5.heap.size w5 (w5.alloc (.map #[] 0)) := (Below.refl _ _).alloc (Nat.le_refl _) _
            go_wp2_with fail
            clear hmm
            go_loopw [84] (fun i wr => ∃ (k : Nat) (gk : Bs → Option Hd), k ≤ Nh.length ∧ i = .int .i64 k ∧ MapG Try.prog 9 wr (some w5.heap.size) gk k ∧ Lists (Nh.take k) gk ∧ Below w5.heap.size w5 wr) (fun i _ => Nh.length - (intOf i).toNat)
            case atStart => exact ⟨0, _, Nat.zero_le _, rfl, hMB, ⟨List.Pairwise.nil, by simp⟩, hbB⟩
            case round =>
              obtain ⟨k, gk, hk, rfl, hMk, hLk, hbk⟩ := hrel
              clear hMB hbB
              by_cases hlt : k < Nh.length
              · have hgx : g3 (Nh[k]).1 = some (Nh[k]).2 := (HNH.out.2 _ _).1 (List.getElem_mem hlt)
                have hkb := HNHK.out _ (List.getElem_mem hlt)
                have HST : Hid (Lists (Nh.take (k + 1)) (upd gk (Nh[k]).1 (some (Nh[k]).2))) := hLk.snoc HNH.out.1 hlt
                have hfr := hLk.fresh HNH.out.1 hlt
                obtain ⟨bk1, hp1, hc1⟩ := hs15.2 (by simp; intro e; rw [e] at hlt; simp at hlt)
                subst hp1
                have z1 := cell_later hbk (hc1 k (by simpa using hlt))
                simp only [List.getElem_map] at z1
                obtain ⟨x, px, mx, cx, hex⟩ : ∃ x px mx cx, Nh[k] = (x, px, mx, cx) := ⟨_, _, _, _, rfl⟩
                rw [hex] at z1 hgx hkb HST hfr
                have hlk : ∀ q, (Instr.lookup 22 (.map o3) (encStr x) false).run Try.prog (wr.drewN q) = .ok (.slice px mx cx) (wr.drewN q) := fun q => look_at (hM35.later hbk) hgx hkb q
                have hlk1 := hlk 1
                change (Instr.lookup 22 (.map o3) (encStr x) false).run Try.prog wr.drew = .ok (.slice px mx cx) wr.drew at hlk1
                clear hgx hex hc1 hLk
                have hMd : MapG Try.prog 9 wr.drew (some w5.heap.size) gk k := hMk.later ⟨rfl, rfl, rfl, Nat.le_refl _, fun _ _ => rfl⟩
                obtain ⟨w6, hput, hM6, hg6⟩ := hMd.run_put law9 Try.underlying9 Try.underlying22 (by unfold maxLen; omega) hkb (px, mx, cx)
                simp only [hv] at hput
                rw [hfr] at hM6
                clear hMd hfr hMk
                go_wp2_with fail
                go_region
                go_wp2
                go_roundw
                case rel => exact ⟨k + 1, _, by omega, by go_num, hM6, HST.out, (hbk.drew).grown hg6 hbk.size (fun j e => by cases e; exact Nat.le_refl _)⟩
                case measure => simp [intOf]; omega
              · obtain rfl : k = Nh.length := by omega
                rw [List.take_of_length_le (Nat.le_refl _)] at hLk
                obtain rfl := hLk.fn HNH.out
                have HCK : Hid (∀ q ∈ cs, q.1.length ≤ maxLen) := fun q hq => by
                  rcases (HD.out.2 q.1 q.2).1 hq with ⟨h1, _⟩ | ⟨_, ⟨u, hu⟩, _⟩
                  · exact HNWK.out (q.1, q.2) ((HNW.out.2 _ _).2 h1)
                  · exact HNHK.out (q.1, u) ((HNH.out.2 _ _).2 hu)
                clear hLk hs15
                go_wp2_with fail
                go_loopw [101] (fun i wr => ∃ c n : Nat, c ≤ cs.length ∧ i = .int .i64 c ∧ MapG Try.prog 9 wr (some w5.heap.size) (appl gk (cs.take c)) n ∧ n ≤ Nh.length + c ∧ Below w5.heap.size w5 wr) (fun i _ => cs.length - (intOf i).toNat)
                case atStart => exact ⟨0, Nh.length, Nat.zero_le _, rfl, by simpa [appl] using hMk, by omega, hbk⟩
                case round =>
                  obtain ⟨c, n, hc, rfl, hMc, hnc, hbc⟩ := hrel
                  clear hMk hbk
                  by_cases hlc : c < cs.length
                  · obtain ⟨bkp, hpp, hcp⟩ := hps.2 (by simp; intro e; rw [e] at hlc; simp at hlc)
                    obtain ⟨bkc, hpc', hcc⟩ := hpc.2 (by simp; intro e; rw [e] at hlc; simp at hlc)
                    subst hpp hpc'
                    have z3 := cell_later hbc (hcp c (by simpa using hlc))
                    have z4 := cell_later hbc (hcc c (by simpa using hlc))
                    have hap := appl_snoc gk cs hlc
                    have hkb := HCK.out _ (List.getElem_mem hlc)
                    obtain ⟨x, px, mx, cx, hex⟩ : ∃ x px mx cx, cs[c] = (x, px, mx, cx) := ⟨_, _, _, _, rfl⟩
                    rw [hex] at hap hkb
                    simp only [List.getElem_map, hex, hv] at z3 z4
                    clear hcp hcc hex
                    cases px with
                    | none =>
                      have HAPn : Hid (appl gk (cs.take (c + 1)) = upd (appl gk (cs.take c)) x none) := by show _ = _; rw [hap]; simp
                      clear hap
                      go_wp2_with (at_delete; refine wpList_del_g _ rfl _ _ 22 rfl law9 Try.underlying9 Try.underlying22 hMc rfl x rfl hkb ?_; intro w6 hM6 hg6)
                      go_roundw
                      case rel =>
                        have hM7 := hM6
                        rw [← HAPn.out] at hM7
                        exact ⟨c + 1, _, by omega, by go_num, hM7, by split <;> omega, hbc.grown hg6 hbc.size (fun j e => by cases e; exact Nat.le_refl _)⟩
                      case measure => simp [intOf]; omega
                    | some ad =>
                      have HAPn : Hid (appl gk (cs.take (c + 1)) = upd (appl gk (cs.take c)) x (some (some ad, mx, cx))) := by show _ = _; rw [hap]; simp
                      clear hap
                      have hMd : MapG Try.prog 9 wr.drew (some w5.heap.size) (appl gk (cs.take c)) n := hMc.later ⟨rfl, rfl, rfl, Nat.le_refl _, fun _ _ => rfl⟩
                      obtain ⟨w6, hput, hM6, hg6⟩ := hMd.run_put law9 Try.underlying9 Try.underlying22 (by unfold maxLen; omega) hkb (some ad, mx, cx)
                      simp only [hv] at hput
                      clear hMd hMc
                      go_wp2_with fail
                      go_region
                      go_wp2
                      go_roundw
                      case rel =>
                        have hM7 := hM6
                        rw [← HAPn.out] at hM7
                        exact ⟨c + 1, _, by omega, by go_num, hM7, by split <;> omega, (hbc.drew).grown hg6 hbc.size (fun j e => by cases e; exact Nat.le_refl _)⟩
                      case measure => simp [intOf]; omega
                  · rw [List.take_of_length_le (by omega)] at hMc
                    obtain ⟨w8, rfl⟩ : ∃ w8 : World, w8 = wr := ⟨_, rfl⟩
                    have hM48 := hM45.later hbc
                    obtain ⟨Nm, hNm, hNml, _⟩ := hMc.lists law9 Try.underlying9
                    have hlen : n = Nw.length := by
                      have := congrArg List.length (keys_eq HNW.out hNm HA1.out)
                      simp at this
                      omega
                    subst hlen
                    have hl08 : Below w.heap.size w w8 := hl05.trans (hbc.mono hl05.size)
                    have hs28 := hs25.later hbc
                    have HM : Hid (∀ x u, appl gk cs x = some u → ByA w8 u (rd u) ∧ u.2.1 ≤ 1048576) := fun x u hu => by
                      rcases HA3.out x u hu with h | h
                      · exact ⟨(HB3.out x u h).1.later hbc, (HB3.out x u h).2⟩
                      · exact ⟨(HB4.out x u h).1.later hbc, (HB4.out x u h).2⟩
                    have HW : Hid (∀ x u, g4 x = some u → ByA w8 u (rd u) ∧ u.2.1 ≤ 1048576) := fun x u hu => ⟨(HB4.out x u hu).1.later hbc, (HB4.out x u hu).2⟩
                    have HND : Hid (IsDiff rd (appl gk cs) g4 []) := by
                      refine ⟨List.Pairwise.nil, fun x h => ?_⟩
                      simp only [List.not_mem_nil, false_iff]
                      have hk1 := HA1.out x
                      rintro (⟨h1, h2⟩ | ⟨h1, ⟨u, hu⟩, _⟩)
                      · rw [h1] at hk1
                        obtain ⟨u, hu⟩ := Option.isSome_iff_exists.1 hk1
                        exact h2 u hu (HA2.out x h u h1 hu)
                      · rw [h1, hu] at hk1; cases hk1
                    have e1 := hMc.run_len Try.underlying22 3
                    have e2 := hM48.run_len Try.underlying22 3
                    have hne2 : ((Nw.length : Int) != (Nw.length : Int)) = false := by simp
                    have q23 : ∀ (w : World) (a : Option Addr) (n c n' c' : Nat), (binOp .eql 23 (.slice a n c) (.slice none n' c')).run Try.prog w = .ok (.bool a.isNone) w := fun w a n c n' c' => Lib.run_eql_slice_nil w _ _ a n c n' c' Try.underlying23
                    clear hps hpc HB3 HB4 HA3 HD HCK HNHK HNH hs25 hM35 hM45 hl05 hNm hNml hnc hbc
                    go_wp2_with fail
                    clear e1 e2
                    go_loopw [131] (fun i wr => ∃ c q : Nat, c ≤ Nw.length ∧ i = .int .i64 c ∧ wr = w8.drewN q) (fun i _ => Nw.length - (intOf i).toNat)
                    case atStart => exact ⟨0, 0, Nat.zero_le _, rfl, rfl⟩
                    case round =>
                      obtain ⟨c2, q, hc2, rfl, rfl⟩ := hrel
                      have hMq : MapG Try.prog 9 (w8.drewN q) (some w5.heap.size) (appl gk cs) Nw.length := hMc.later ⟨rfl, rfl, rfl, Nat.le_refl _, fun _ _ => rfl⟩
                      by_cases hlt2 : c2 < Nw.length
                      · have hg4 : g4 (Nw[c2]).1 = some (Nw[c2]).2 := (HNW.out.2 _ _).1 (List.getElem_mem hlt2)
                        have hkb := HNWK.out _ (List.getElem_mem hlt2)
                        obtain ⟨bk2, hp2, hcc2⟩ := hs28.2 (by simp; intro e; rw [e] at hlt2; simp at hlt2)
                        subst hp2
                        have z2 := hcc2 c2 (by simpa using hlt2)
                        obtain ⟨x, px, mx, cx, hex⟩ : ∃ x px mx cx, Nw[c2] = (x, px, mx, cx) := ⟨_, _, _, _, rfl⟩
                        rw [hex] at hg4 hkb
                        simp only [List.getElem_map, hex] at z2
                        have hk1 := HA1.out x
                        rw [hg4] at hk1
                        obtain ⟨⟨pu, mu, cu⟩, hu⟩ := Option.isSome_iff_exists.1 hk1
                        have hrr : (rd (pu, mu, cu) == rd (px, mx, cx)) = true := by simpa using HA2.out x _ _ hg4 hu
                        have heq := eq_at (HM.out x _ hu).1 (HW.out x _ hg4).1 (HM.out x _ hu).2 (HW.out x _ hg4).2 true hrr (w8.drewN q) (fun _ => rfl)
                        have HGS : Hid ((appl gk cs x).getD nilH = (pu, mu, cu)) := by show (appl gk cs x).getD nilH = _; rw [hu]; rfl
                        have HOK : Hid ((appl gk cs x).isSome = true) := by show (appl gk cs x).isSome = _; rw [hu]; rfl
                        have hlk4 : ∀ k, (Instr.lookup 22 (.map o4) (encStr x) false).run Try.prog (w8.drewN k) = .ok (.slice px mx cx) (w8.drewN k) := fun k => look_at hM48 hg4 hkb k
                        clear hg4 hex hcc2 hk1 hu hrr
                        go_wp2_with (first
                          | (at_lookup; refine wpList_getok_g _ rfl _ _ 22 rfl law9 Try.underlying9 Try.underlying22 zero31 hMq rfl x rfl hkb pu mu cu HGS.out true HOK.out ?_)
                          | (go_at_call 11; refine heq.mono ?_; rintro e w' ⟨rfl, q2, rfl⟩))
                        go_roundw
                        case rel => exact ⟨c2 + 1, _, by omega, by go_num, rfl⟩
                        case measure => simp [intOf]; omega
                      · have hM4q : MapG Try.prog 9 (w8.drewN q) o4 g4 Nw.length := hM48.later ⟨rfl, rfl, rfl, Nat.le_refl _, fun _ _ => rfl⟩
                        have hcz := zzd_calls (some w5.heap.size) o4 (appl gk cs) g4 Nw.length Nw.length rd [] (w8.drewN q) hMq hM4q (fun x h hx => (HM.out x h hx).1.cells (fun _ => rfl)) (fun x h hx => (HW.out x h hx).1.cells (fun _ => rfl)) HND.out (by omega) (by simp)
                        have hl08q : Below w.heap.size w (w8.drewN q) := hl08.trans ⟨rfl, rfl, rfl, Nat.le_refl _, fun _ _ => rfl⟩
                        clear hM4q hMq
                        go_wp2_with (go_at_call 9; refine hcz.mono ?_; rintro e w9 ⟨⟨pz, qz, rfl, hsz, hqz⟩, hl9⟩; obtain rfl := hsz.1 rfl)
                        go_ret
                        exact ⟨rfl, hl08q.trans (hl9.mono hl08q.size)⟩
    · have e1 := hMh.run_len Try.underlying22 3
      have e2 := hMw.run_len Try.underlying22 3
      have d1 : decide ((65536 : Int) < (Mh.length : Int)) = false := by simp; omega
      have d2 : (65536 : Int) < (Mw.length : Int) := by omega
      clear hMh hMw hLh hLw hkh hkw hrh hrw
      go_enter Try.func4, Try.ntmps4
      go_wp2
      go_ret
      exact ⟨rfl, Below.refl _ _⟩
  · have e1 := hMh.run_len Try.underlying22 3
    have d1 : (65536 : Int) < (Mh.length : Int) := by omega
    clear hMh hMw hLh hLw hkh hkw hrh hrw
    go_enter Try.func4, Try.ntmps4
    go_wp2
    go_ret
    exact ⟨rfl, Below.refl _ _⟩

end Go.Proofs.Qxb6603884a
