/-
  What 'differences' gathers, in whatever order the maps give their entries; and that sorting it gives the one list.
-/
import Derived.Test.Qxb6603884aSort
namespace Go.Proofs.Qxb6603884a
open Go.RowKit Go.Maps Go.Sort

section
variable {rd : Hd → Bs} {gh gw : Bs → Option Hd} {left : Bs → Bool} {acc : List Ent}

/-- No key twice. -/
def Apart (l : List Ent) : Prop := l.Pairwise fun p q => p.1 ≠ q.1

theorem Apart.snoc {l : List Ent} {p : Ent} (h : Apart l) (hn : ∀ a, (p.1, a) ∉ l) : Apart (l ++ [p]) := by
  refine List.pairwise_append.2 ⟨h, by simp, fun a ha b hb => ?_⟩
  simp at hb
  subst hb
  exact fun e => hn a.2 (by rw [← e]; exact ha)

def Acc1 (rd : Hd → Bs) (gh gw : Bs → Option Hd) (left : Bs → Bool) (acc : List Ent) : Prop :=
  Apart acc ∧ ∀ x h, (x, h) ∈ acc ↔ (gw x = some h ∧ left x = false ∧ ∀ u, gh x = some u → rd u ≠ rd h)

theorem Acc1.start (rd : Hd → Bs) (gh gw : Bs → Option Hd) : Acc1 rd gh gw (fun x => (gw x).isSome) [] :=
  ⟨List.Pairwise.nil, fun x h => by
    simp only [List.not_mem_nil, false_iff, not_and]
    intro h1 h2
    rw [h1] at h2
    cases h2⟩

theorem Acc1.hit {x : Bs} {h : Hd} (H : Acc1 rd gh gw left acc) (hl : left x = true) (hg : gw x = some h) (hd : ∀ u, gh x = some u → rd u ≠ rd h) : Acc1 rd gh gw (fun y => left y && !decide (y = x)) (acc ++ [(x, h)]) := by
  refine ⟨H.1.snoc fun a ha => ?_, fun y a => ?_⟩
  · have := ((H.2 x a).1 ha).2.1
    rw [hl] at this; cases this
  · rw [List.mem_append, H.2 y a, List.mem_singleton]
    by_cases e : y = x
    · subst e
      simp only [hl, Bool.true_eq_false, false_and, and_false, false_or, decide_true, Bool.not_true]
      constructor
      · intro e1
        obtain ⟨_, rfl⟩ := Prod.mk.inj e1
        exact ⟨hg, rfl, hd⟩
      · rintro ⟨h1, _⟩
        rw [hg] at h1
        rw [Option.some.inj h1]
    · simp [e]

theorem Acc1.miss {x : Bs} {h u : Hd} (H : Acc1 rd gh gw left acc) (hl : left x = true) (hg : gw x = some h) (hu : gh x = some u) (hr : rd u = rd h) : Acc1 rd gh gw (fun y => left y && !decide (y = x)) acc := by
  refine ⟨H.1, fun y a => ?_⟩
  rw [H.2 y a]
  by_cases e : y = x
  · subst e
    simp only [hl, Bool.true_eq_false, false_and, and_false, decide_true, Bool.not_true, false_iff]
    rintro ⟨h1, _, h2⟩
    rw [hg] at h1
    exact h2 u hu (by rw [hr, Option.some.inj h1])
  · simp [e]

def Acc2 (rd : Hd → Bs) (gh gw : Bs → Option Hd) (left : Bs → Bool) (acc : List Ent) : Prop :=
  Apart acc ∧ ∀ x h, (x, h) ∈ acc ↔ ((gw x = some h ∧ ∀ u, gh x = some u → rd u ≠ rd h) ∨ (gw x = none ∧ ((∃ u, gh x = some u) ∧ left x = false) ∧ h = nilH))

theorem Acc1.next (H : Acc1 rd gh gw left acc) (hl : ∀ x, left x = false) : Acc2 rd gh gw (fun x => (gh x).isSome) acc := by
  refine ⟨H.1, fun x h => ?_⟩
  rw [H.2 x h, hl x]
  constructor
  · rintro ⟨h1, _, h2⟩; exact Or.inl ⟨h1, h2⟩
  · rintro (⟨h1, h2⟩ | ⟨_, ⟨⟨u, hu⟩, h2⟩, _⟩)
    · exact ⟨h1, rfl, h2⟩
    · simp [hu] at h2

theorem Acc2.hit {x : Bs} {u : Hd} (H : Acc2 rd gh gw left acc) (hl : left x = true) (hu : gh x = some u) (hw : gw x = none) : Acc2 rd gh gw (fun y => left y && !decide (y = x)) (acc ++ [(x, nilH)]) := by
  refine ⟨H.1.snoc fun a ha => ?_, fun y a => ?_⟩
  · rcases (H.2 x a).1 ha with ⟨h1, _⟩ | ⟨_, ⟨_, h2⟩, _⟩
    · rw [hw] at h1; cases h1
    · rw [hl] at h2; cases h2
  · rw [List.mem_append, H.2 y a, List.mem_singleton]
    by_cases e : y = x
    · subst e
      simp only [hl, hw, hu, Bool.true_eq_false, and_false, false_and, decide_true, Bool.not_true, reduceCtorEq, false_or, true_and, Prod.mk.injEq, Option.some.injEq, exists_eq', Bool.and_false]
    · simp [e]

theorem Acc2.miss {x : Bs} {v : Hd} (H : Acc2 rd gh gw left acc) (hw : gw x = some v) : Acc2 rd gh gw (fun y => left y && !decide (y = x)) acc := by
  refine ⟨H.1, fun y a => ?_⟩
  rw [H.2 y a]
  by_cases e : y = x
  · subst e
    simp [hw]
  · simp [e]

theorem Acc2.isDiff (H : Acc2 rd gh gw left acc) (hl : ∀ x, left x = false) {cs : List Ent} (hp : cs.Perm acc) (hs : Rising cs) : IsDiff rd gh gw cs := by
  refine ⟨hs, fun x h => ?_⟩
  rw [hp.mem_iff, H.2 x h, hl x]
  simp
end

/-- What the sort leaves is rising. -/
theorem sorted_rising {d d' : Array Ent} (hp : PermIn 0 d.size d d') (hs : SortedIn (ltOf cfE) 0 d.size d') (ha : Apart d.toList) : d'.toList.Perm d.toList ∧ Rising d'.toList := by
  obtain ⟨hsz, _, hperm⟩ := hp
  have e1 : d'.extract 0 d.size = d' := by rw [← hsz]; simp
  have e2 : d.extract 0 d.size = d := by simp
  rw [e1, e2] at hperm
  refine ⟨hperm, List.pairwise_iff_getElem.2 fun i j hi hj hij => ?_⟩
  have hap : Apart d'.toList := (hperm.pairwise_iff (fun hne => Ne.symm hne)).2 ha
  have h1 := List.pairwise_iff_getElem.1 hap i j hi hj hij
  have hj' : j < d'.size := by simpa using hj
  have h2 := hs i j (Nat.zero_le _) hij (by rw [← hsz]; exact hj')
  rw [ltE, getElem!_pos d' i (by omega), getElem!_pos d' j hj'] at h2
  simp only [decide_eq_false_iff_not] at h2
  simp only [Array.getElem_toList] at h1 ⊢
  rcases Classical.em ((d'[i]).1 < (d'[j]).1) with h3 | h3
  · exact h3
  · exact absurd (bs_tri h3 h2) h1

/-- The flat cells of a list of changes. -/
def flatE (l : List Ent) : List Value := l.flatMap encE

theorem flatE_length (l : List Ent) : (flatE l).length = l.length * 2 := by
  induction l with
  | nil => rfl
  | cons a r ih => simp [flatE, encE] at ih ⊢; omega

theorem flatE_snoc (l : List Ent) (a : Ent) : flatE (l ++ [a]) = flatE l ++ encE a := by simp [flatE]

theorem flatE_get (l : List Ent) : ∀ t, t < l.length * 2 → (flatE l)[t]? = some ((encE l.toArray[t / 2]!)[t % 2]!) := by
  induction l with
  | nil => intro t ht; simp at ht
  | cons a r ih =>
    intro t ht
    match t with
    | 0 => simp [flatE, encE]
    | 1 => simp [flatE, encE]
    | t + 2 =>
      have h1 := ih t (by simp at ht; omega)
      have e1 : (t + 2) / 2 = t / 2 + 1 := by omega
      have e2 : (t + 2) % 2 = t % 2 := by omega
      rw [e1, e2]
      have hlt : t / 2 < r.length := by simp at ht; omega
      simp only [flatE] at h1
      simp only [flatE, List.flatMap_cons]
      rw [List.getElem?_append_right (by simp [encE])]
      simp only [encE, List.length_cons, List.length_nil, Nat.zero_add, Nat.add_sub_cancel]
      simp only [encE] at h1
      rw [h1]
      simp [hlt]

/-- A slice of changes: nil, or a row that holds cs. -/
def ChgA (w : World) (p : Option Addr) (cs : List Ent) : Prop :=
  (cs = [] → p = none) ∧ (cs ≠ [] → ∃ b, p = some ⟨b, 0, none⟩ ∧ ∀ i (h : i < cs.length), w.cell? ⟨b, i * 2, none⟩ = some (encStr (cs[i]).1) ∧ w.cell? ⟨b, i * 2 + 1, none⟩ = some (hv (cs[i]).2))

theorem holdsK_row {w : World} {base g n cap : Nat} {acc : List Ent} (hn : acc.length = n) (h : w.ownsRow base 39 2 (.slice (some ⟨g, 0, none⟩) n cap) n (flatE acc)) : HoldsK encE 2 w g 0 acc.toArray := by
  intro t ht
  have ht' : t < acc.length * 2 := by simpa using ht
  refine ⟨?_, by rw [Nat.zero_add]; exact h.frozenAt t⟩
  rw [Nat.zero_add, h.cellAt t (by omega), flatE_get acc t ht', get_flatK _ _ _ t (by simpa using ht')]
  rfl

theorem chgA_of_holds {w : World} {g : Nat} {cs : List Ent} (hne : cs ≠ []) (h : HoldsK encE 2 w g 0 cs.toArray) : ChgA w (some ⟨g, 0, none⟩) cs := by
  refine ⟨fun e => absurd e hne, fun _ => ⟨g, rfl, fun i hi => ?_⟩⟩
  have hi' : i < cs.toArray.size := by simpa using hi
  have h0 := h.cell (i := i) (c := 0) hi' (by omega)
  have h1 := h.cell (i := i) (c := 1) hi' (by omega)
  simp [encE, hi] at h0 h1
  exact ⟨h0.1, h1.1⟩

theorem grownBy_sortK {w : World} {g n : Nat} {os : Array Obj} (d : Array Ent) : w.grownBy (sortWorldK encE 2 w g 0 n d os) (some g) := by
  refine ⟨rfl, rfl, rfl, by simp [sortWorldK, grow, putRowK, putRow, mapBlock, Sort.ahead], fun k hk hne => ?_⟩
  have : g ≠ k := fun e => hne (by rw [e])
  show (sortWorldK encE 2 w g 0 n d os).heap[k]? = _
  unfold sortWorldK grow
  simp only
  rw [Array.getElem?_append_left (by simpa [putRowK, putRow, mapBlock, Sort.ahead] using hk)]
  simp [putRowK, putRow, mapBlock, Sort.ahead, Array.getElem?_modify, this]

end Go.Proofs.Qxb6603884a
