/-
  ZZDifferences (function 9): the changes as two parallel slices.
-/
import Derived.Test.Qxb6603884aDiff
namespace Go.Proofs.Qxb6603884a
open Go.RowKit Go.Maps

theorem Try.info9 : (Try.prog.info? 9).map (fun i => (i.zero, i.size, i.bytes)) = some (some (.string ⟨#[]⟩), 1, 16) := by kernel_rfl
theorem Try.info31 : (Try.prog.info? 31).map (fun i => (i.zero, i.size, i.bytes)) = some (some (.slice none 0 0), 1, 24) := by kernel_rfl

/-- A slice of headers that 'make' has made, or nil: it holds l. -/
def HdsA (w : World) (p : Option Addr) (l : List Hd) : Prop :=
  (l = [] → p = none) ∧ (l ≠ [] → ∃ b, p = some ⟨b, 0, none⟩ ∧ ∀ i (h : i < l.length), w.cell? ⟨b, i, none⟩ = some (hv l[i]))

theorem HdsA.later {w w' : World} {p : Option Addr} {l : List Hd} (h : HdsA w p l) (hB : Below w.heap.size w w') : HdsA w' p l := by
  refine ⟨h.1, fun hn => ?_⟩
  obtain ⟨b, e, hc⟩ := h.2 hn
  exact ⟨b, e, fun i hi => cell_later hB (hc i hi)⟩

/-- A row after k stores of vs. -/
def mixV (vs : List Value) (z : Value) (k : Nat) : List Value := vs.take k ++ List.replicate (vs.length - k) z

theorem mixV_set {vs : List Value} {z : Value} {k : Nat} (h : k < vs.length) : (mixV vs z k).set k vs[k] = mixV vs z (k + 1) := by
  unfold mixV
  have hl : (vs.take k).length = k := by simp; omega
  rw [List.set_append_right _ _ (by omega), hl, Nat.sub_self]
  obtain ⟨r, hr⟩ : ∃ r, vs.length - k = r + 1 := ⟨vs.length - k - 1, by omega⟩
  rw [hr, List.replicate_succ, List.set_cons_zero, show vs.length - (k + 1) = r from by omega, List.take_succ_eq_append_getElem h, List.append_assoc]
  rfl

theorem mixV_end (vs : List Value) (z : Value) : mixV vs z vs.length = vs := by simp [mixV]

theorem mixV_get {vs : List Value} {z : Value} {k : Nat} (h : k < vs.length) : (mixV vs z k)[k]? = some z := by
  unfold mixV
  have hl : (vs.take k).length = k := by simp; omega
  rw [List.getElem?_append_right (by omega), hl, Nat.sub_self, List.getElem?_replicate, if_pos (by omega)]

def strVs (cs : List Ent) : List Value := cs.map fun q => encStr q.1
def hdVs (cs : List Ent) : List Value := cs.map fun q => hv q.2
theorem strVs_length (cs : List Ent) : (strVs cs).length = cs.length := by simp [strVs]
theorem hdVs_length (cs : List Ent) : (hdVs cs).length = cs.length := by simp [hdVs]

theorem row_made {w w1 : World} {base n N : Nat} {e : TypeId} {z : Value} {vs : List Value} (hn : vs.length = n) (h : w1.ownsRow base e 1 (.slice (some ⟨N, 0, none⟩) n n) n (madeCells #[z] (n * 1)).toList) (_hg : w.grownBy w1 none) : w1.ownsRow base e 1 (.slice (some ⟨N, 0, none⟩) n n) n (mixV vs z 0) ∧ N < w1.heap.size := by
  refine ⟨?_, ?_⟩
  · rw [toList_madeCells_one] at h
    simpa [mixV, hn] using h
  · rcases h.2 with ⟨h1, _⟩ | ⟨g1, cap, cur, h1, _, hh, _⟩
    · cases h1
    · cases h1
      exact (Array.getElem?_eq_some_iff.1 hh).1

/-- One round: a store into each of the two rows. -/
theorem two_rows {wr : World} {B1 B2 n k P1 P2 : Nat} {cs : List Ent} {z1 z2 : Value} {x : Bs} {p : Option Addr} {m c : Nat} (hk : k < cs.length) (he : cs[k] = (x, p, m, c)) (hne : P1 ≠ P2)
    (h1 : wr.ownsRow B1 9 1 (.slice (some ⟨P1, 0, none⟩) n n) n (mixV (strVs cs) z1 k)) (h2 : wr.ownsRow B2 31 1 (.slice (some ⟨P2, 0, none⟩) n n) n (mixV (hdVs cs) z2 k)) :
    ((wr.setCell ⟨P1, k, none⟩ (encStr x)).setCell ⟨P2, k, none⟩ (.slice p m c)).ownsRow B1 9 1 (.slice (some ⟨P1, 0, none⟩) n n) n (mixV (strVs cs) z1 (k + 1)) ∧
    ((wr.setCell ⟨P1, k, none⟩ (encStr x)).setCell ⟨P2, k, none⟩ (.slice p m c)).ownsRow B2 31 1 (.slice (some ⟨P2, 0, none⟩) n n) n (mixV (hdVs cs) z2 (k + 1)) := by
  obtain ⟨a1, a2⟩ := h1.stored k (encStr x)
  have b1 := h2.kept a2 (Or.inr (by simp [Value.ownBlock]; exact fun e => hne e.symm))
  obtain ⟨c1, c2⟩ := b1.stored k (.slice p m c)
  have d1 := a1.kept c2 (Or.inr (by simp [Value.ownBlock]; exact hne))
  have e1 : (mixV (strVs cs) z1 k).set k (encStr x) = mixV (strVs cs) z1 (k + 1) := by
    rw [← mixV_set (by rw [strVs_length]; exact hk)]
    simp [strVs, he]
  have e2 : (mixV (hdVs cs) z2 k).set k (.slice p m c) = mixV (hdVs cs) z2 (k + 1) := by
    rw [← mixV_set (by rw [hdVs_length]; exact hk)]
    simp [hdVs, he]
  rw [e1] at d1
  rw [e2] at c1
  exact ⟨d1, c1⟩

theorem strsA_row {w : World} {B P : Nat} {cs : List Ent} {z : Value} (hn : cs ≠ []) (h : w.ownsRow B 9 1 (.slice (some ⟨P, 0, none⟩) cs.length cs.length) cs.length (mixV (strVs cs) z cs.length)) : StrsA w (some ⟨P, 0, none⟩) (cs.map Prod.fst) := by
  refine ⟨fun e => absurd (by simpa using e) hn, fun _ => ⟨P, rfl, fun i hi => ?_⟩⟩
  have hi' : i < cs.length := by simpa using hi
  rw [h.cellAt i (by omega), ← strVs_length cs, mixV_end]
  simp [strVs, hi']

theorem hdsA_row {w : World} {B P : Nat} {cs : List Ent} {z : Value} (hn : cs ≠ []) (h : w.ownsRow B 31 1 (.slice (some ⟨P, 0, none⟩) cs.length cs.length) cs.length (mixV (hdVs cs) z cs.length)) : HdsA w (some ⟨P, 0, none⟩) (cs.map Prod.snd) := by
  refine ⟨fun e => absurd (by simpa using e) hn, fun _ => ⟨P, rfl, fun i hi => ?_⟩⟩
  have hi' : i < cs.length := by simpa using hi
  rw [h.cellAt i (by omega), ← hdVs_length cs, mixV_end]
  simp [hdVs, hi']

set_option maxHeartbeats 1000000 in
theorem zzd_calls (oh ow : Option Nat) (gh gw : Bs → Option Hd) (nh nw : Nat) (rd : Hd → Bs) (cs : List Ent) (w : World) (hMh : MapG Try.prog 9 w oh gh nh) (hMw : MapG Try.prog 9 w ow gw nw) (hrh : ∀ x h, gh x = some h → ByA w h (rd h)) (hrw : ∀ x h, gw x = some h → ByA w h (rd h)) (hD : IsDiff rd gh gw cs) (hn : nh + nw ≤ 262144) (hlc : cs.length ≤ 262144) :
    Calls Try.prog 9 #[.map oh, .map ow] w fun e w' => (∃ p q, e = .returned (.tuple #[.slice p cs.length cs.length, .slice q cs.length cs.length]) ∧ StrsA w' p (cs.map Prod.fst) ∧ HdsA w' q (cs.map Prod.snd)) ∧ Below w.heap.size w w' := by
  have q36 : ∀ (w : World) (a : Option Addr) (n c n' c' : Nat), (binOp .eql 36 (.slice a n c) (.slice none n' c')).run Try.prog w = .ok (.bool a.isNone) w := fun w a n c n' c' => Lib.run_eql_slice_nil w _ _ a n c n' c' Try.underlying36
  have hc := diff_calls oh ow gh gw nh nw rd cs w hMh hMw hrh hrw hD hn
  clear hMh hMw hrh hrw hD
  by_cases h0 : cs = []
  · have HN : Hid (cs = []) := h0
    clear h0
    go_enter Try.func9, Try.ntmps9
    go_wp2_with (go_at_call 13; refine hc.mono ?_; rintro e w1 ⟨⟨p, cap, rfl, hch⟩, hb1⟩; obtain rfl := hch.1 HN.out)
    go_ret2
    refine ⟨⟨none, none, ?_, ⟨fun _ => rfl, fun h => absurd (by rw [HN.out]; rfl) h⟩, ⟨fun _ => rfl, fun h => absurd (by rw [HN.out]; rfl) h⟩⟩, hb1⟩
    rw [HN.out]; rfl
  · have HN : Hid (cs ≠ []) := h0
    have hpos : 0 < cs.length := List.length_pos_iff.2 h0
    obtain ⟨i9, hi9, hz90, hz91, hz92⟩ := info_parts Try.info9
    obtain ⟨i31, hi31, hz310, hz311, hz312⟩ := info_parts Try.info31
    clear h0
    go_enter Try.func9, Try.ntmps9
    go_wp2_with (first
      | (go_at_call 13; refine hc.mono ?_; rintro e w1 ⟨⟨p, cap, rfl, hch⟩, hb1⟩; obtain ⟨bc, rfl, hcc⟩ := hch.2 HN.out; clear hch)
      | (at_make; refine wpList_make_full _ rfl _ _ 23 rfl w1.heap.size 9 i9 (.string ⟨#[]⟩) 1 Try.underlying23 hi9 hz90 hz91 .i64 .i64 _ _ cs.length rfl rfl rfl rfl (by rw [hz92]; omega) (by unfold maxLen; omega) (Nat.le_refl _) ?_; intro w2 hown2 hg2)
      | (at_make; refine wpList_make_full _ rfl _ _ 28 rfl w2.heap.size 31 i31 (.slice none 0 0) 1 Try.underlying28 hi31 hz310 hz311 .i64 .i64 _ _ cs.length rfl rfl rfl rfl (by rw [hz312]; omega) (by unfold maxLen; omega) (Nat.le_refl _) ?_; intro w3 hown3 hg3))
    obtain ⟨hr1, hz1⟩ := row_made (vs := strVs cs) (strVs_length cs) hown2 hg2
    obtain ⟨hr2, hz2⟩ := row_made (vs := hdVs cs) (hdVs_length cs) hown3 hg3
    have hr1' := hr1.kept hg3 (Or.inr (by simp [Value.ownBlock]))
    have hbw : Below w1.heap.size w1 w3 := ((Below.refl _ _).grown hg2 (Nat.le_refl _) (by simp)).grown hg3 (by omega) (by simp)
    clear hown2 hown3 hr1 hg2 hg3
    go_loopw [23] (fun i wr => ∃ k : Nat, k ≤ cs.length ∧ i = .int .i64 k ∧ wr.ownsRow w1.heap.size 9 1 (.slice (some ⟨w1.heap.size, 0, none⟩) cs.length cs.length) cs.length (mixV (strVs cs) (.string ⟨#[]⟩) k) ∧ wr.ownsRow w2.heap.size 31 1 (.slice (some ⟨w2.heap.size, 0, none⟩) cs.length cs.length) cs.length (mixV (hdVs cs) (.slice none 0 0) k) ∧ Below w1.heap.size w1 wr ∧ w1.heap.size < wr.heap.size) (fun i _ => cs.length - (intOf i).toNat)
    case atStart => exact ⟨0, Nat.zero_le _, rfl, hr1', hr2, hbw, by have := hbw.size; omega⟩
    case round =>
      obtain ⟨k, hk, rfl, hrow1, hrow2, hbr, hszr⟩ := hrel
      clear hr1' hr2 hbw
      by_cases hlt : k < cs.length
      · obtain ⟨d1, d2⟩ := hcc k hlt
        have c1 := cell_later hbr d1
        have c2 := cell_later hbr d2
        obtain ⟨x, ph, mh, ch, he⟩ : ∃ x ph mh ch, cs[k] = (x, ph, mh, ch) := ⟨_, _, _, _, rfl⟩
        have HR : Hid _ := two_rows hlt he (by omega) hrow1 hrow2
        have e1 := hrow1.cellAt k (by omega)
        have e2 := hrow2.cellAt k (by omega)
        have f1 := hrow1.frozenAt k
        have f2 := hrow2.frozenAt k
        rw [mixV_get (by rw [strVs_length]; exact hlt)] at e1
        rw [mixV_get (by rw [hdVs_length]; exact hlt)] at e2
        rw [he] at c1 c2
        simp only [hv] at c2
        have hbc : bc < w1.heap.size := by
          rcases Nat.lt_or_ge bc w1.heap.size with h1 | h1
          · exact h1
          · simp [World.cell?, Array.getElem?_eq_none h1] at d1
        clear d1 d2 hcc he hrow1 hrow2
        go_wp2
        go_roundw
        case rel => exact ⟨k + 1, by omega, by go_num, HR.out.1, HR.out.2, (hbr.setCell (Nat.le_refl _) _).setCell (by simp; omega) _, by simpa [World.setCell] using hszr⟩
        case measure => simp [intOf]; omega
      · go_wp2
        go_ret2
        obtain rfl : k = cs.length := by omega
        refine ⟨⟨_, _, rfl, strsA_row HN.out hrow1, hdsA_row HN.out hrow2⟩, hb1.trans (hbr.mono hb1.size)⟩

end Go.Proofs.Qxb6603884a
