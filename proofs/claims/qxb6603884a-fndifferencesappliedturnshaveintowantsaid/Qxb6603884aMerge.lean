/-
  FnDifferencesIsTheMergeOfBothSets (function 3).
-/
import Derived.Test.Qxb6603884aKeys
namespace Go.Proofs.Qxb6603884a
open Go.RowKit Go.Maps

/-- What a copy is: the same keys, readable contents, nil where it was nil. -/
def Like (w : World) (g g' : Bs → Option Hd) : Prop :=
  (∀ x, (g' x).isSome = (g x).isSome) ∧ ∀ x h, g' x = some h → Good w h ∧ (h.1 = none → ∃ a, g x = some a ∧ a.1 = none)

theorem Like.later {w w' : World} {g g' : Bs → Option Hd} (h : Like w g g') (hb : Below w.heap.size w w') : Like w' g g' :=
  ⟨h.1, fun x a hx => by
    obtain ⟨⟨⟨l, hl⟩, h2⟩, h3⟩ := h.2 x a hx
    exact ⟨⟨⟨l, hl.later hb⟩, h2⟩, h3⟩⟩

theorem zzCopy_any (ob : Option Nat) (g : Bs → Option Hd) (M : List Ent) (p : Option Addr) (w : World) (hM : MapG Try.prog 9 w ob g M.length) (hL : Lists M g) (hks : StrsA w p (M.map Prod.fst)) (hlen : M.length ≤ 65536) (hkl : ∀ q ∈ M, q.1.length ≤ maxLen)
    (hsm : Small M) (hrd : ∀ x h, g x = some h → ∃ l, ByA w h l) :
    Calls Try.prog 8 #[.map ob, .slice p M.length M.length] w fun e w' => ∃ ob' g', e = .returned (.map ob') ∧ MapG Try.prog 9 w' ob' g' M.length ∧ Like w' g g' ∧ Below w.heap.size w w' := by
  cases ob with
  | none =>
    refine (zzCopy_nil p _ _ w).mono ?_
    rintro e w' ⟨rfl, rfl⟩
    exact ⟨none, g, rfl, hM, ⟨fun _ => rfl, fun x h hx => by rw [hM.1 x] at hx; cases hx⟩, Below.refl _ _⟩
  | some b =>
    refine (zzCopy_calls b g M.length M p w hM hL hks hlen hkl hsm (fun q hq => hrd q.1 q.2 ((hL.2 q.1 q.2).1 hq))).mono ?_
    rintro e w' ⟨g', rfl, h1, h2, h3⟩
    refine ⟨_, g', rfl, h1, ⟨fun x => ?_, h2.2⟩, h3⟩
    have := h2.1 x
    rw [List.take_of_length_le (Nat.le_refl _)] at this
    rw [Bool.eq_iff_iff, this]
    constructor
    · rintro ⟨h, hh⟩; rw [(hL.2 x h).1 hh]; rfl
    · intro hs
      obtain ⟨h, hh⟩ := Option.isSome_iff_exists.1 hs
      exact ⟨h, (hL.2 x h).2 hh⟩

/-- Two listings of maps with the same keys list the same keys. -/
theorem keys_eq {M M' : List Ent} {g g' : Bs → Option Hd} (h : Lists M g) (h' : Lists M' g') (hk : ∀ x, (g' x).isSome = (g x).isSome) : M'.map Prod.fst = M.map Prod.fst := by
  have r : ∀ {N : List Ent}, Rising N → (N.map Prod.fst).Pairwise (· < ·) := fun hN => List.pairwise_map.2 hN
  have nd : ∀ {l : List Bs}, l.Pairwise (· < ·) → l.Nodup := fun hl => hl.imp (fun hab => bs_ne hab)
  refine List.Perm.eq_of_pairwise (le := fun a b : Bs => a < b) (fun _ _ _ _ h1 h2 => absurd h2 (bs_asymm h1)) (r h'.1) (r h.1) ?_
  refine (List.perm_ext_iff_of_nodup (nd (r h'.1)) (nd (r h.1))).2 fun x => ?_
  have mem : ∀ {N : List Ent} {f : Bs → Option Hd}, Lists N f → (x ∈ N.map Prod.fst ↔ (f x).isSome = true) := fun hN => by
    rw [List.mem_map]
    constructor
    · rintro ⟨⟨y, a⟩, hq, rfl⟩; rw [(hN.2 y a).1 hq]; rfl
    · intro hs
      obtain ⟨a, ha⟩ := Option.isSome_iff_exists.1 hs
      exact ⟨(x, a), (hN.2 x a).2 ha, rfl⟩
  rw [mem h', mem h, hk x]

section
variable {rd : Hd → Bs} {A B cs : List Ent} {a b c f : Nat}

theorem drop_cons {α : Type} {l : List α} {k : Nat} (h : k < l.length) : l.drop k = l[k] :: l.drop (k + 1) := List.drop_eq_getElem_cons h

theorem drop_head {l : List Ent} {k : Nat} {e : Ent} {r : List Ent} (h : l.drop k = e :: r) : ∃ hk : k < l.length, l[k] = e ∧ l.drop (k + 1) = r := by
  rcases Nat.lt_or_ge k l.length with hk | hk
  · rw [drop_cons hk] at h
    obtain ⟨h1, h2⟩ := List.cons.inj h
    exact ⟨hk, h1, h2⟩
  · rw [List.drop_eq_nil_of_le hk] at h; cases h

theorem stepH (E : cs.drop c = mergeL rd f (A.drop a) (B.drop b)) (hf : (A.length - a) + (B.length - b) ≤ f) (ha : a < A.length) (hb : B.length ≤ b ∨ ∃ h : b < B.length, (A[a]).1 < (B[b]).1) :
    ∃ f', f = f' + 1 ∧ ∃ hc : c < cs.length, cs[c] = ((A[a]).1, nilH) ∧ cs.drop (c + 1) = mergeL rd f' (A.drop (a + 1)) (B.drop b) := by
  obtain ⟨f', rfl⟩ : ∃ f', f = f' + 1 := ⟨f - 1, by omega⟩
  refine ⟨f', rfl, ?_⟩
  rw [drop_cons ha] at E
  rcases hb with hb | ⟨hb, hl⟩
  · rw [List.drop_eq_nil_of_le hb] at E ⊢
    exact drop_head E
  · rw [drop_cons hb, mergeL, if_pos hl] at E
    rw [drop_cons hb]
    exact drop_head E

theorem stepW (E : cs.drop c = mergeL rd f (A.drop a) (B.drop b)) (hf : (A.length - a) + (B.length - b) ≤ f) (hb : b < B.length) (ha : A.length ≤ a ∨ ∃ h : a < A.length, (B[b]).1 < (A[a]).1) :
    ∃ f', f = f' + 1 ∧ ∃ hc : c < cs.length, cs[c] = B[b] ∧ cs.drop (c + 1) = mergeL rd f' (A.drop a) (B.drop (b + 1)) := by
  obtain ⟨f', rfl⟩ : ∃ f', f = f' + 1 := ⟨f - 1, by omega⟩
  refine ⟨f', rfl, ?_⟩
  rw [drop_cons hb] at E
  rcases ha with ha | ⟨ha, hl⟩
  · rw [List.drop_eq_nil_of_le ha] at E ⊢
    exact drop_head E
  · rw [drop_cons ha, mergeL, if_neg (bs_asymm hl), if_pos hl] at E
    rw [drop_cons ha]
    exact drop_head E

theorem stepE (E : cs.drop c = mergeL rd f (A.drop a) (B.drop b)) (hf : (A.length - a) + (B.length - b) ≤ f) (ha : a < A.length) (hb : b < B.length) (hk : (A[a]).1 = (B[b]).1) (hr : rd (A[a]).2 = rd (B[b]).2) :
    ∃ f', f = f' + 1 ∧ cs.drop c = mergeL rd f' (A.drop (a + 1)) (B.drop (b + 1)) := by
  obtain ⟨f', rfl⟩ : ∃ f', f = f' + 1 := ⟨f - 1, by omega⟩
  refine ⟨f', rfl, ?_⟩
  rw [drop_cons ha, drop_cons hb, mergeL, if_neg (by rw [hk]; exact bs_irrefl _), if_neg (by rw [hk]; exact bs_irrefl _), if_pos hr] at E
  exact E

theorem stepN (E : cs.drop c = mergeL rd f (A.drop a) (B.drop b)) (hf : (A.length - a) + (B.length - b) ≤ f) (ha : a < A.length) (hb : b < B.length) (hk : (A[a]).1 = (B[b]).1) (hr : rd (A[a]).2 ≠ rd (B[b]).2) :
    ∃ f', f = f' + 1 ∧ ∃ hc : c < cs.length, cs[c] = B[b] ∧ cs.drop (c + 1) = mergeL rd f' (A.drop (a + 1)) (B.drop (b + 1)) := by
  obtain ⟨f', rfl⟩ : ∃ f', f = f' + 1 := ⟨f - 1, by omega⟩
  refine ⟨f', rfl, ?_⟩
  rw [drop_cons ha, drop_cons hb, mergeL, if_neg (by rw [hk]; exact bs_irrefl _), if_neg (by rw [hk]; exact bs_irrefl _), if_neg hr] at E
  exact drop_head E

theorem stepEnd (E : cs.drop c = mergeL rd f (A.drop a) (B.drop b)) (hc : c ≤ cs.length) (ha : A.length ≤ a) (hb : B.length ≤ b) : c = cs.length := by
  rw [List.drop_eq_nil_of_le ha, List.drop_eq_nil_of_le hb] at E
  have : mergeL rd f [] [] = [] := by cases f <;> rfl
  rw [this, List.drop_eq_nil_iff] at E
  omega
end

theorem mergeL_length (rd : Hd → Bs) : ∀ (f : Nat) (A B : List Ent), (mergeL rd f A B).length ≤ f := by
  intro f
  induction f with
  | zero => intro A B; simp [mergeL]
  | succ f ih =>
    intro A B
    match A, B with
    | [], [] => simp [mergeL]
    | h :: hs, [] => simp [mergeL]; exact ih _ _
    | [], x :: ws => simp [mergeL]; exact ih _ _
    | h :: hs, x :: ws =>
      simp only [mergeL]
      split
      · simp; exact ih _ _
      · split
        · simp; exact ih _ _
        · split
          · exact Nat.le_succ_of_le (ih _ _)
          · simp; exact ih _ _

theorem look_at {w : World} {o : Option Nat} {g : Bs → Option Hd} {n : Nat} (hM : MapG Try.prog 9 w o g n) {y : Bs} {p : Option Addr} {m c : Nat} (hg : g y = some (p, m, c)) (hy : y.length ≤ maxLen) (k : Nat) :
    (Instr.lookup 22 (.map o) (encStr y) false).run Try.prog (w.drewN k) = .ok (.slice p m c) (w.drewN k) := by
  have hMk : MapG Try.prog 9 (w.drewN k) o g n := hM.later ⟨rfl, rfl, rfl, Nat.le_refl _, fun _ _ => rfl⟩
  rw [hMk.run_look law9 Try.underlying9 Try.underlying22 (zero31 _) false hy, hg]
  rfl

theorem ByA.cells {w W : World} {h : Hd} {l : Bs} (hb : ByA w h l) (hW : ∀ a : Addr, W.cell? a = w.cell? a) : ByA W h l := by
  refine ⟨hb.1, fun hp => ?_⟩
  obtain ⟨b, o, e, hc⟩ := hb.2 hp
  exact ⟨b, o, e, fun i hi => by rw [hW]; exact hc i hi⟩

/-- A callee's contract inside a quiet region: the draws add up. -/
theorem quiet_add {P : Program} {f : FuncId} {args : Array Value} {w : World} {B x : Nat} {v : Value} (h : Calls P f args (w.drewN (B + x)) fun e w' => e = .returned v ∧ ∃ m, w' = (w.drewN (B + x)).drewN m) :
    Calls P f args (w.drewN (B + x)) fun e w'' => e = .returned v ∧ ∃ n, w'' = w.drewN (B + n) :=
  h.mono fun _ _ ⟨he, m, hm⟩ => ⟨he, x + m, by rw [hm, World.drewN_drewN, Nat.add_assoc]⟩

theorem same_at {w : World} {p : Option Addr} {m c : Nat} {l : Bs} (h : ByA w (p, m, c) l) (hm : m ≤ 1048576) : ∀ W : World, (∀ a : Addr, W.cell? a = w.cell? a) → Calls Try.prog 10 #[.slice p m c, .slice p m c] W fun e w' => e = .returned (.bool true) ∧ ∃ q, w' = W.drewN q := by
  intro W hW
  have h' := h.cells hW
  refine (zzSame_calls p p m c m c l l W h' h' (by omega) (by omega)).mono ?_
  rintro e w' ⟨rfl, hw⟩
  exact ⟨by simp, hw⟩

theorem eq_at {w : World} {p p' : Option Addr} {m c m' c' : Nat} {l l' : Bs} (h : ByA w (p, m, c) l) (h' : ByA w (p', m', c') l') (hm : m ≤ 1048576) (hm' : m' ≤ 1048576) (r : Bool) (hr : (l == l') = r) : ∀ W : World, (∀ a : Addr, W.cell? a = w.cell? a) → Calls Try.prog 11 #[.slice p m c, .slice p' m' c'] W fun e w' => e = .returned (.bool r) ∧ ∃ q, w' = W.drewN q := by
  intro W hW
  have := zzEq_calls p p' m c m' c' l l' W (h.cells hW) (h'.cells hW) (by omega) (by omega)
  rw [hr] at this
  exact this

set_option maxHeartbeats 4000000 in
set_option maxRecDepth 100000 in
theorem merge_calls (oh ow : Option Nat) (gh gw : Bs → Option Hd) (Mh Mw : List Ent) (w : World) (hMh : MapG Try.prog 9 w oh gh Mh.length) (hMw : MapG Try.prog 9 w ow gw Mw.length) (hLh : Lists Mh gh) (hLw : Lists Mw gw)
    (hkh : ∀ q ∈ Mh, q.1.length ≤ maxLen) (hkw : ∀ q ∈ Mw, q.1.length ≤ maxLen) (hrh : ∀ x h, gh x = some h → ∃ l, ByA w h l) (hrw : ∀ x h, gw x = some h → ∃ l, ByA w h l) :
    Calls Try.prog 3 #[.map oh, .map ow] w fun e w' => e = .returned (.bool true) ∧ Below w.heap.size w w' := by
  by_cases hb1 : Mh.length ≤ 65536
  · by_cases hb2 : Mw.length ≤ 65536
    · have b1 : (Mh.length : Int) ≤ 65536 := by omega
      have b2 : (Mw.length : Int) ≤ 65536 := by omega
      have HLH : Hid (Lists Mh gh) := hLh
      have HLW : Hid (Lists Mw gw) := hLw
      have HKH : Hid (∀ q ∈ Mh, q.1.length ≤ maxLen) := hkh
      have HKW : Hid (∀ q ∈ Mw, q.1.length ≤ maxLen) := hkw
      have HRH : Hid (∀ x h, gh x = some h → ∃ l, ByA w h l) := hrh
      have HRW : Hid (∀ x h, gw x = some h → ∃ l, ByA w h l) := hrw
      clear hLh hLw hkh hkw hrh hrw
      have e1 := hMh.run_len Try.underlying22 3
      have e2 := hMw.run_len Try.underlying22 3
      have d1 : decide ((65536 : Int) < (Mh.length : Int)) = false := by simp; omega
      go_enter Try.func3, Try.ntmps3
      go_wp2_with fail
      clear e1 e2 d1
      refine (zzKeys_calls oh gh Mh w hMh HLH.out hb1 HKH.out HRH.out).mono ?_
      rintro e w1 ⟨⟨p1, rfl, hs1⟩, hl1⟩
      go_wp2_with fail
      refine (zzKeys_calls ow gw Mw w1 (hMw.later hl1) HLW.out hb2 HKW.out (fun x h hx => (HRW.out x h hx).imp fun l hl => hl.later hl1)).mono ?_
      rintro e w2 ⟨⟨p2, rfl, hs2⟩, hl2⟩
      have hl02 : Below w.heap.size w w2 := hl1.trans (hl2.mono hl1.size)
      have hMh2 := hMh.later hl02
      have hMw2 := hMw.later hl02
      have hs12 := hs1.later hl2
      go_wp2_with fail
      refine (zzBytes_calls oh gh Mh.length Mh p1 w2 hMh2 HLH.out hs12 hb1 HKH.out).mono ?_
      rintro e w' ⟨⟨s1, rfl, y10, y11, hsm1⟩, hw⟩
      obtain rfl := hw.symm
      go_wp2_with fail
      refine (zzBytes_calls ow gw Mw.length Mw p2 _ hMw2 HLW.out hs2 hb2 HKW.out).mono ?_
      rintro e w' ⟨⟨s2, rfl, y20, y21, hsm2⟩, hw⟩
      obtain rfl := hw.symm
      go_wp2_with fail
      · go_ret
        exact ⟨rfl, hl02⟩
      · have hsm1' := hsm1 (by omega)
        have hsm2' := hsm2 (by omega)
        refine (zzCopy_any oh gh Mh p1 w2 hMh2 HLH.out hs12 hb1 HKH.out hsm1' (fun x h hx => (HRH.out x h hx).imp fun l hl => hl.later hl02)).mono ?_
        rintro e w3 ⟨o3, g3, rfl, hM3, hK3, hl3⟩
        have hl03 : Below w.heap.size w w3 := hl02.trans (hl3.mono hl02.size)
        go_wp2_with fail
        refine (zzCopy_any ow gw Mw p2 w3 (hMw2.later hl3) HLW.out (hs2.later hl3) hb2 HKW.out hsm2' (fun x h hx => (HRW.out x h hx).imp fun l hl => hl.later hl03)).mono ?_
        rintro e w4 ⟨o4, g4, rfl, hM4, hK4, hl4⟩
        have hl04 : Below w.heap.size w w4 := hl03.trans (hl4.mono hl03.size)
        have hM34 := hM3.later hl4
        have hK34 := hK3.later hl4
        obtain ⟨rd, hr⟩ := read_fun w4
        obtain ⟨Nh, hNh, hNhl, hNhk⟩ := hM34.lists law9 Try.underlying9
        obtain ⟨Nw, hNw, hNwl, hNwk⟩ := hM4.lists law9 Try.underlying9
        have hkeys1 := keys_eq HLH.out hNh hK34.1
        have hkeys2 := keys_eq HLW.out hNw hK4.1
        obtain ⟨cs, hcs⟩ : ∃ cs, cs = mergeL rd (Nh.length + Nw.length) Nh Nw := ⟨_, rfl⟩
        have hcl : cs.length ≤ Nh.length + Nw.length := by rw [hcs]; exact mergeL_length rd _ _ _
        have hD : IsDiff rd g3 g4 cs := by rw [hcs]; exact mergeL_isDiff hNh hNw (Nat.le_refl _)
        have HCS : Hid (cs = mergeL rd (Nh.length + Nw.length) Nh Nw) := hcs
        clear hcs
        have hne : ((cs.length : Int) != (cs.length : Int)) = false := by simp
        go_wp2_with fail
        refine (zzd_calls o3 o4 g3 g4 Mh.length Mw.length rd cs w4 hM34 hM4 (fun x h hx => hr h (hK34.2 x h hx).1.1) (fun x h hx => hr h (hK4.2 x h hx).1.1) hD (by omega) (by omega)).mono ?_
        rintro e w5 ⟨⟨pp, pc, rfl, hps, hpc⟩, hl5⟩
        have hl05 : Below w.heap.size w w5 := hl04.trans (hl5.mono hl04.size)
        have hs15 : StrsA w5 p1 (Nh.map Prod.fst) := by rw [hkeys1]; exact ((hs12.later hl3).later hl4).later hl5
        have hs25 : StrsA w5 p2 (Nw.map Prod.fst) := by rw [hkeys2]; exact ((hs2.later hl3).later hl4).later hl5
        have hM35 := hM34.later hl5
        have hM45 := hM4.later hl5
        have HB3 : Hid (∀ x h, g3 x = some h → ByA w5 h (rd h) ∧ h.2.1 ≤ 1048576) := fun x h hx => ⟨(hr h (hK34.2 x h hx).1.1).later hl5, (hK34.2 x h hx).1.2⟩
        have HB4 : Hid (∀ x h, g4 x = some h → ByA w5 h (rd h) ∧ h.2.1 ≤ 1048576) := fun x h hx => ⟨(hr h (hK4.2 x h hx).1.1).later hl5, (hK4.2 x h hx).1.2⟩
        have HNH : Hid (Lists Nh g3) := hNh
        have HNW : Hid (Lists Nw g4) := hNw
        have HNHK : Hid (∀ q ∈ Nh, q.1.length ≤ maxLen) := hNhk
        have HNWK : Hid (∀ q ∈ Nw, q.1.length ≤ maxLen) := hNwk
        clear hM34 hM4 hM3 hK34 hK4 hK3 hr hNh hNw hNhk hNwk hD hkeys1 hkeys2 hs1 hs2 hs12 hMh hMw hMh2 hMw2 hsm1 hsm2 hsm1' hsm2' hl1 hl2 hl3 hl4 hl5 hl02 hl03 hl04 HLH HLW HKH HKW HRH HRW
        have hs1n : Nh.length ≤ 65536 := by omega
        have hs2n : Nw.length ≤ 65536 := by omega
        rw [← hNhl, ← hNwl] at *
        go_wp2_with fail
        generalize decide ((1048576 : Int) < s1 + s2) = dd1
        generalize decide ((65536 : Int) < (Nw.length : Int)) = dd2
        have q23 : ∀ (w : World) (a : Option Addr) (n c n' c' : Nat), (binOp .eql 23 (.slice a n c) (.slice none n' c')).run Try.prog w = .ok (.bool a.isNone) w := fun w a n c n' c' => Lib.run_eql_slice_nil w _ _ a n c n' c' Try.underlying23
        clear b1 b2 hb1 hb2 y10 y11 y20 y21
        go_loopw [10, 11, 12] (fun i j n wr => ∃ (a b c q f : Nat), a ≤ Nh.length ∧ b ≤ Nw.length ∧ c ≤ cs.length ∧ i = .int .i64 a ∧ j = .int .i64 b ∧ n = .int .i64 c ∧ wr = w5.drewN q ∧ (Nh.length - a) + (Nw.length - b) ≤ f ∧ Hid (cs.drop c = mergeL rd f (Nh.drop a) (Nw.drop b))) (fun i j _ _ => (Nh.length - (intOf i).toNat) + (Nw.length - (intOf j).toNat))
        case atStart => exact ⟨0, 0, 0, 0, Nh.length + Nw.length, Nat.zero_le _, Nat.zero_le _, Nat.zero_le _, rfl, rfl, rfl, rfl, by omega, HCS.out⟩
        case round =>
          obtain ⟨a, b, c, q, f, hae, hbe, hce, rfl, rfl, rfl, rfl, hf, HE⟩ := hrel
          clear HCS
          by_cases ha : a < Nh.length
          · by_cases hb : b < Nw.length
            · have G1 : decide (Nw.length ≤ b) = false := by simp; omega
              have G2 : decide (Nh.length ≤ a) = false := by simp; omega
              have G6 : (a : Int) < (Nh.length : Int) := by omega
              have G7 : (b : Int) < (Nw.length : Int) := by omega
              obtain ⟨x, px, mx, cx, hex⟩ : ∃ x px mx cx, Nh[a] = (x, px, mx, cx) := ⟨_, _, _, _, rfl⟩
              obtain ⟨y, py, my, cy, hey⟩ : ∃ y py my cy, Nw[b] = (y, py, my, cy) := ⟨_, _, _, _, rfl⟩
              rcases Classical.em (x < y) with hlt | hnlt
              · obtain ⟨f', hff, hc, hcs, E'⟩ := stepH HE.out hf ha (Or.inr ⟨hb, by rw [hex, hey]; exact hlt⟩)
                have HE' : Hid (cs.drop (c + 1) = mergeL rd f' (Nh.drop (a + 1)) (Nw.drop b)) := E'
                rw [hex] at hcs
                obtain ⟨bk1, hp1, hc1⟩ := hs15.2 (by simp; intro e; rw [e] at ha; simp at ha)
                subst hp1
                have z1 := hc1 a (by simpa using ha)
                simp only [List.getElem_map] at z1
                obtain ⟨bk2, hp2, hc2⟩ := hs25.2 (by simp; intro e; rw [e] at hb; simp at hb)
                subst hp2
                have z2 := hc2 b (by simpa using hb)
                simp only [List.getElem_map] at z2
                obtain ⟨bkp, hpp, hcp⟩ := hps.2 (by simp; intro e; rw [e] at hc; simp at hc)
                obtain ⟨bkc, hpc', hcc⟩ := hpc.2 (by simp; intro e; rw [e] at hc; simp at hc)
                subst hpp hpc'
                have z3 := hcp c (by simpa using hc)
                have z4 := hcc c (by simpa using hc)
                simp only [List.getElem_map, hcs, hv, nilH] at z3 z4
                have G4 : decide (cs.length ≤ c) = false := by simp; omega
                have G5 : (c : Int) < (cs.length : Int) := by omega
                rw [hex] at z1
                rw [hey] at z2
                have hbl := bl_true hlt
                have HFF : Hid (f = f' + 1) := hff
                clear HE E' hff hs15 hs25 hps hpc hcp hcc hcs hc1 hc2 hex hey hlt
                go_wp2_with fail
                go_quiet (fail)
                go_wp2_with fail
                go_quiet (fail)
                go_wp2
                go_roundw
                case rel => exact ⟨a + 1, b, c + 1, _, f', by omega, by omega, by omega, by go_num, rfl, by go_num, rfl, by have := HFF.out; omega, HE'.out⟩
                case measure => simp [intOf]; omega
              · have hbl := bl_false hnlt
                have hgy : g4 y = some (py, my, cy) := (HNW.out.2 _ _).1 (by rw [← hey]; exact List.getElem_mem hb)
                have hyl : y.length ≤ maxLen := HNWK.out (y, py, my, cy) (by rw [← hey]; exact List.getElem_mem hb)
                have hlk4 : ∀ k, (Instr.lookup 22 (.map o4) (encStr y) false).run Try.prog (w5.drewN k) = .ok (.slice py my cy) (w5.drewN k) := fun k => look_at hM45 hgy hyl k
                obtain ⟨hbyy, hmyy⟩ := HB4.out y _ hgy
                have HSM : Hid (∀ W : World, (∀ a : Addr, W.cell? a = w5.cell? a) → Calls Try.prog 10 #[.slice py my cy, .slice py my cy] W fun e w' => e = .returned (.bool true) ∧ ∃ m, w' = W.drewN m) := same_at hbyy hmyy
                clear hgy hyl
                rcases Classical.em (y < x) with hlt2 | hnlt2
                · obtain ⟨f', hff, hc, hcs, E'⟩ := stepW HE.out hf hb (Or.inr ⟨ha, by rw [hex, hey]; exact hlt2⟩)
                  have HE' : Hid (cs.drop (c + 1) = mergeL rd f' (Nh.drop a) (Nw.drop (b + 1))) := E'
                  rw [hey] at hcs
                  obtain ⟨bk1, hp1, hc1⟩ := hs15.2 (by simp; intro e; rw [e] at ha; simp at ha)
                  subst hp1
                  have z1 := hc1 a (by simpa using ha)
                  simp only [List.getElem_map] at z1
                  obtain ⟨bk2, hp2, hc2⟩ := hs25.2 (by simp; intro e; rw [e] at hb; simp at hb)
                  subst hp2
                  have z2 := hc2 b (by simpa using hb)
                  simp only [List.getElem_map] at z2
                  obtain ⟨bkp, hpp, hcp⟩ := hps.2 (by simp; intro e; rw [e] at hc; simp at hc)
                  obtain ⟨bkc, hpc', hcc⟩ := hpc.2 (by simp; intro e; rw [e] at hc; simp at hc)
                  subst hpp hpc'
                  have z3 := hcp c (by simpa using hc)
                  have z4 := hcc c (by simpa using hc)
                  simp only [List.getElem_map, hcs, hv] at z3 z4
                  have G4 : decide (cs.length ≤ c) = false := by simp; omega
                  have G5 : (c : Int) < (cs.length : Int) := by omega
                  rw [hex] at z1
                  rw [hey] at z2
                  have hbl2 := bl_true hlt2
                  have HFF : Hid (f = f' + 1) := hff
                  clear HE E' hff hs15 hs25 hps hpc hcp hcc hcs hc1 hc2 hex hey hlt2 hnlt hbyy
                  go_wp2_with fail
                  go_quiet (fail)
                  go_wp2_with fail
                  go_quiet (fail)
                  go_wp2_with fail
                  go_quiet ((go_at_call 10; exact quiet_add (HSM.out _ (fun _ => rfl))))
                  go_wp2
                  go_roundw
                  case rel => exact ⟨a, b + 1, c + 1, _, f', by omega, by omega, by omega, rfl, by go_num, by go_num, rfl, by have := HFF.out; omega, HE'.out⟩
                  case measure => simp [intOf]; omega
                · have hxy : x = y := bs_tri hnlt hnlt2
                  subst hxy
                  have hbl2 := bl_false hnlt2
                  have hgx : g3 x = some (px, mx, cx) := (HNH.out.2 _ _).1 (by rw [← hex]; exact List.getElem_mem ha)
                  have hxl : x.length ≤ maxLen := HNHK.out (x, px, mx, cx) (by rw [← hex]; exact List.getElem_mem ha)
                  have hlk3 : ∀ k, (Instr.lookup 22 (.map o3) (encStr x) false).run Try.prog (w5.drewN k) = .ok (.slice px mx cx) (w5.drewN k) := fun k => look_at hM35 hgx hxl k
                  obtain ⟨hbyx, hmxx⟩ := HB3.out x _ hgx
                  clear hgx hxl hnlt hnlt2
                  cases hrr : (rd (px, mx, cx) == rd (py, my, cy)) with
                  | true =>
                    have HEQ : Hid (∀ W : World, (∀ a : Addr, W.cell? a = w5.cell? a) → Calls Try.prog 11 #[.slice px mx cx, .slice py my cy] W fun e w' => e = .returned (.bool true) ∧ ∃ m, w' = W.drewN m) := eq_at hbyx hbyy hmxx hmyy true hrr
                    obtain ⟨f', hff, E'⟩ := stepE HE.out hf ha hb (by rw [hex, hey]) (by rw [hex, hey]; simpa using hrr)
                    have HE' : Hid (cs.drop c = mergeL rd f' (Nh.drop (a + 1)) (Nw.drop (b + 1))) := E'
                    obtain ⟨bk1, hp1, hc1⟩ := hs15.2 (by simp; intro e; rw [e] at ha; simp at ha)
                    subst hp1
                    have z1 := hc1 a (by simpa using ha)
                    simp only [List.getElem_map] at z1
                    obtain ⟨bk2, hp2, hc2⟩ := hs25.2 (by simp; intro e; rw [e] at hb; simp at hb)
                    subst hp2
                    have z2 := hc2 b (by simpa using hb)
                    simp only [List.getElem_map] at z2
                    rw [hex] at z1
                    rw [hey] at z2
                    have HFF : Hid (f = f' + 1) := hff
                    clear HE E' hff hs15 hs25 hps hpc hc1 hc2 hex hey hbyx hbyy hrr HSM
                    go_wp2_with fail
                    go_quiet (fail)
                    go_wp2_with fail
                    go_quiet (fail)
                    go_wp2_with fail
                    go_quiet ((go_at_call 11; exact quiet_add (HEQ.out _ (fun _ => rfl))))
                    go_wp2
                    go_roundw
                    case rel => exact ⟨a + 1, b + 1, c, _, f', by omega, by omega, by omega, by go_num, by go_num, rfl, rfl, by have := HFF.out; omega, HE'.out⟩
                    case measure => simp [intOf]; omega
                  | false =>
                    have HEQ : Hid (∀ W : World, (∀ a : Addr, W.cell? a = w5.cell? a) → Calls Try.prog 11 #[.slice px mx cx, .slice py my cy] W fun e w' => e = .returned (.bool false) ∧ ∃ m, w' = W.drewN m) := eq_at hbyx hbyy hmxx hmyy false hrr
                    obtain ⟨f', hff, hc, hcs, E'⟩ := stepN HE.out hf ha hb (by rw [hex, hey]) (by rw [hex, hey]; simpa using hrr)
                    have HE' : Hid (cs.drop (c + 1) = mergeL rd f' (Nh.drop (a + 1)) (Nw.drop (b + 1))) := E'
                    rw [hey] at hcs
                    obtain ⟨bk1, hp1, hc1⟩ := hs15.2 (by simp; intro e; rw [e] at ha; simp at ha)
                    subst hp1
                    have z1 := hc1 a (by simpa using ha)
                    simp only [List.getElem_map] at z1
                    obtain ⟨bk2, hp2, hc2⟩ := hs25.2 (by simp; intro e; rw [e] at hb; simp at hb)
                    subst hp2
                    have z2 := hc2 b (by simpa using hb)
                    simp only [List.getElem_map] at z2
                    obtain ⟨bkp, hpp, hcp⟩ := hps.2 (by simp; intro e; rw [e] at hc; simp at hc)
                    obtain ⟨bkc, hpc', hcc⟩ := hpc.2 (by simp; intro e; rw [e] at hc; simp at hc)
                    subst hpp hpc'
                    have z3 := hcp c (by simpa using hc)
                    have z4 := hcc c (by simpa using hc)
                    simp only [List.getElem_map, hcs, hv] at z3 z4
                    have G4 : decide (cs.length ≤ c) = false := by simp; omega
                    have G5 : (c : Int) < (cs.length : Int) := by omega
                    rw [hex] at z1
                    rw [hey] at z2
                    have HFF : Hid (f = f' + 1) := hff
                    clear HE E' hff hs15 hs25 hps hpc hcp hcc hcs hc1 hc2 hex hey hbyx hbyy hrr
                    go_wp2_with fail
                    go_quiet (fail)
                    go_wp2_with fail
                    go_quiet (fail)
                    go_wp2_with fail
                    go_quiet ((go_at_call 11; exact quiet_add (HEQ.out _ (fun _ => rfl))))
                    go_wp2_with fail
                    go_quiet ((go_at_call 10; exact quiet_add (HSM.out _ (fun _ => rfl))))
                    go_wp2
                    go_roundw
                    case rel => exact ⟨a + 1, b + 1, c + 1, _, f', by omega, by omega, by omega, by go_num, by go_num, by go_num, rfl, by have := HFF.out; omega, HE'.out⟩
                    case measure => simp [intOf]; omega
            · obtain ⟨f', hff, hc, hcs, E'⟩ := stepH HE.out hf ha (Or.inl (by omega))
              have HE' : Hid (cs.drop (c + 1) = mergeL rd f' (Nh.drop (a + 1)) (Nw.drop b)) := E'
              obtain ⟨bk1, hp1, hc1⟩ := hs15.2 (by simp; intro e; rw [e] at ha; simp at ha)
              subst hp1
              have z1 := hc1 a (by simpa using ha)
              simp only [List.getElem_map] at z1
              obtain ⟨bkp, hpp, hcp⟩ := hps.2 (by simp; intro e; rw [e] at hc; simp at hc)
              obtain ⟨bkc, hpc', hcc⟩ := hpc.2 (by simp; intro e; rw [e] at hc; simp at hc)
              subst hpp hpc'
              have z3 := hcp c (by simpa using hc)
              have z4 := hcc c (by simpa using hc)
              simp only [List.getElem_map, hcs, hv, nilH] at z3 z4
              have G4 : decide (cs.length ≤ c) = false := by simp; omega
              have G5 : (c : Int) < (cs.length : Int) := by omega
              have G1 : Nw.length ≤ b := by omega
              have HFF : Hid (f = f' + 1) := hff
              clear HE E' hff hs15 hs25 hps hpc hcp hcc hcs hc1
              go_wp2_with fail
              go_quiet (fail)
              go_wp2_with fail
              go_quiet (fail)
              go_wp2
              go_roundw
              case rel => exact ⟨a + 1, b, c + 1, _, f', by omega, by omega, by omega, by go_num, rfl, by go_num, rfl, by have := HFF.out; omega, HE'.out⟩
              case measure => simp [intOf]; omega
          · by_cases hb : b < Nw.length
            · have G1 : decide (Nw.length ≤ b) = false := by simp; omega
              have G2 : Nh.length ≤ a := by omega
              have G3 : decide (a < Nh.length) = false := by simp; omega
              have G7 : (b : Int) < (Nw.length : Int) := by omega
              obtain ⟨y, py, my, cy, hey⟩ : ∃ y py my cy, Nw[b] = (y, py, my, cy) := ⟨_, _, _, _, rfl⟩
              have hgy : g4 y = some (py, my, cy) := (HNW.out.2 _ _).1 (by rw [← hey]; exact List.getElem_mem hb)
              have hyl : y.length ≤ maxLen := HNWK.out (y, py, my, cy) (by rw [← hey]; exact List.getElem_mem hb)
              have hlk4 : ∀ k, (Instr.lookup 22 (.map o4) (encStr y) false).run Try.prog (w5.drewN k) = .ok (.slice py my cy) (w5.drewN k) := fun k => look_at hM45 hgy hyl k
              obtain ⟨hbyy, hmyy⟩ := HB4.out y _ hgy
              have HSM : Hid (∀ W : World, (∀ a : Addr, W.cell? a = w5.cell? a) → Calls Try.prog 10 #[.slice py my cy, .slice py my cy] W fun e w' => e = .returned (.bool true) ∧ ∃ m, w' = W.drewN m) := same_at hbyy hmyy
              clear hgy hyl
              obtain ⟨f', hff, hc, hcs, E'⟩ := stepW HE.out hf hb (Or.inl (by omega))
              have HE' : Hid (cs.drop (c + 1) = mergeL rd f' (Nh.drop a) (Nw.drop (b + 1))) := E'
              rw [hey] at hcs
              obtain ⟨bk2, hp2, hc2⟩ := hs25.2 (by simp; intro e; rw [e] at hb; simp at hb)
              subst hp2
              have z2 := hc2 b (by simpa using hb)
              simp only [List.getElem_map] at z2
              obtain ⟨bkp, hpp, hcp⟩ := hps.2 (by simp; intro e; rw [e] at hc; simp at hc)
              obtain ⟨bkc, hpc', hcc⟩ := hpc.2 (by simp; intro e; rw [e] at hc; simp at hc)
              subst hpp hpc'
              have z3 := hcp c (by simpa using hc)
              have z4 := hcc c (by simpa using hc)
              simp only [List.getElem_map, hcs, hv] at z3 z4
              have G4 : decide (cs.length ≤ c) = false := by simp; omega
              have G5 : (c : Int) < (cs.length : Int) := by omega
              rw [hey] at z2
              have HFF : Hid (f = f' + 1) := hff
              clear HE E' hff hs15 hs25 hps hpc hcp hcc hcs hc2 hey hbyy
              go_wp2_with fail
              go_quiet (fail)
              go_wp2_with fail
              go_quiet (fail)
              go_wp2_with fail
              go_quiet ((go_at_call 10; exact quiet_add (HSM.out _ (fun _ => rfl))))
              go_wp2
              go_roundw
              case rel => exact ⟨a, b + 1, c + 1, _, f', by omega, by omega, by omega, rfl, by go_num, by go_num, rfl, by have := HFF.out; omega, HE'.out⟩
              case measure => simp [intOf]; omega
            · obtain rfl : c = cs.length := stepEnd HE.out hce (by omega) (by omega)
              have G3 : decide (a < Nh.length) = false := by simp; omega
              have G8 : decide (b < Nw.length) = false := by simp; omega
              by_cases h0 : cs = []
              · have hpp := hps.1 (by rw [h0]; rfl)
                subst h0 hpp
                clear HE hps hpc hs15 hs25
                go_wp2
                go_ret
                exact ⟨rfl, hl05.trans ⟨rfl, rfl, rfl, Nat.le_refl _, fun _ _ => rfl⟩⟩
              · obtain ⟨bkp, hpp, hcp⟩ := hps.2 (by simpa using h0)
                subst hpp
                have hz : ((cs.length : Int) == 0) = false := by simpa using h0
                clear HE hps hpc hs15 hs25 hcp h0
                go_wp2
                go_ret
                exact ⟨rfl, hl05.trans ⟨rfl, rfl, rfl, Nat.le_refl _, fun _ _ => rfl⟩⟩
    · have e1 := hMh.run_len Try.underlying22 3
      have e2 := hMw.run_len Try.underlying22 3
      have d1 : decide ((65536 : Int) < (Mh.length : Int)) = false := by simp; omega
      have d2 : (65536 : Int) < (Mw.length : Int) := by omega
      clear hMh hMw hLh hLw hkh hkw hrh hrw
      go_enter Try.func3, Try.ntmps3
      go_wp2
      go_ret
      exact ⟨rfl, Below.refl _ _⟩
  · have e1 := hMh.run_len Try.underlying22 3
    have d1 : (65536 : Int) < (Mh.length : Int) := by omega
    clear hMh hMw hLh hLw hkh hkw hrh hrw
    go_enter Try.func3, Try.ntmps3
    go_wp2
    go_ret
    exact ⟨rfl, Below.refl _ _⟩

end Go.Proofs.Qxb6603884a
