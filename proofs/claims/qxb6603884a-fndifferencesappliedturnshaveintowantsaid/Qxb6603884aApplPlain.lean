/-
  What becomes of the map to which the changes are applied (plain).
-/
import Derived.Test.Qxb6603884aMerge
namespace Go.Proofs.Qxb6603884a
open Go.RowKit Go.Maps

/-- No element is nil. -/
def NonNil (M : List Ent) : Prop := ∀ q ∈ M, q.2.1 ≠ none

theorem NonNil.step {M : List Ent} {k : Nat} (hk : k < M.length) (h : NonNil (M.take k)) (e : (M[k]).2.1 ≠ none) : NonNil (M.take (k + 1)) := by
  unfold NonNil
  rw [List.take_succ_eq_append_getElem hk]
  intro q hq
  rcases List.mem_append.1 hq with h1 | h1
  · exact h q h1
  · simp at h1; rw [h1]; exact e

theorem Lists.fresh {M : List Ent} {g : Bs → Option Hd} {k : Nat} (hR : Rising M) (h : Lists (M.take k) g) (hk : k < M.length) : (g (M[k]).1).isSome = false := by
  cases hs : (g (M[k]).1).isSome with
  | false => rfl
  | true =>
    obtain ⟨a, ha⟩ := Option.isSome_iff_exists.1 hs
    obtain ⟨i, hi, e⟩ := List.getElem_of_mem ((h.2 _ a).2 ha)
    have hlt : i < k := by simp at hi; omega
    have := List.pairwise_iff_getElem.1 hR i k (by omega) hk hlt
    rw [List.getElem_take] at e
    rw [e] at this
    exact absurd this (bs_irrefl _)

theorem Lists.snoc {M : List Ent} {g : Bs → Option Hd} {k : Nat} (hR : Rising M) (h : Lists (M.take k) g) (hk : k < M.length) : Lists (M.take (k + 1)) (upd g (M[k]).1 (some (M[k]).2)) := by
  refine ⟨hR.sublist (List.take_sublist _ _), fun x a => ?_⟩
  have hf := h.fresh hR hk
  rw [List.take_succ_eq_append_getElem hk, List.mem_append, List.mem_singleton, h.2 x a]
  simp only [upd]
  by_cases e : x = (M[k]).1
  · rw [if_pos e]
    constructor
    · rintro (h1 | h1)
      · rw [e] at h1; rw [h1] at hf; cases hf
      · rw [← h1]
    · intro h1
      exact Or.inr (Prod.ext e (Option.some.inj h1).symm)
  · rw [if_neg e]
    constructor
    · rintro (h1 | h1)
      · exact h1
      · exact absurd (by rw [← h1]) e
    · exact Or.inl

theorem Lists.fn {M : List Ent} {g g' : Bs → Option Hd} (h : Lists M g) (h' : Lists M g') : g = g' := by
  funext x
  cases hg : g' x with
  | some a => exact (h.2 x a).1 ((h'.2 x a).2 hg)
  | none =>
    cases hx : g x with
    | none => rfl
    | some b => have := (h'.2 x b).1 ((h.2 x b).2 hx); rw [hg] at this; cases this

/-- The changes, laid onto g. -/
def appl (g : Bs → Option Hd) (cs : List Ent) : Bs → Option Hd :=
  cs.foldl (fun g e => upd g e.1 (if e.2.1 = none then none else some e.2)) g

theorem appl_snoc (g : Bs → Option Hd) (cs : List Ent) {k : Nat} (hk : k < cs.length) : appl g (cs.take (k + 1)) = upd (appl g (cs.take k)) (cs[k]).1 (if (cs[k]).2.1 = none then none else some (cs[k]).2) := by
  unfold appl
  rw [List.take_succ_eq_append_getElem hk, List.foldl_append]
  rfl

theorem appl_out : ∀ (cs : List Ent) (g : Bs → Option Hd) (x : Bs), (∀ h, (x, h) ∉ cs) → appl g cs x = g x
  | [], _, _, _ => rfl
  | e :: r, g, x, h => by
    show appl _ r x = _
    rw [appl_out r _ x (fun a ha => h a (List.mem_cons_of_mem _ ha))]
    simp only [upd]
    rw [if_neg]
    intro e1
    exact h e.2 (by rw [e1]; exact List.mem_cons_self)

theorem appl_in : ∀ (cs : List Ent) (g : Bs → Option Hd) (x : Bs) (h : Hd), Rising cs → (x, h) ∈ cs → appl g cs x = if h.1 = none then none else some h
  | [], _, _, _, _, hm => by simp at hm
  | e :: r, g, x, h, hR, hm => by
    obtain ⟨h1, h2⟩ := List.pairwise_cons.1 hR
    show appl _ r x = _
    rcases List.mem_cons.1 hm with e1 | hm'
    · have hout : ∀ a, (x, a) ∉ r := fun a ha => by
        have := h1 _ ha
        rw [← e1] at this
        exact bs_irrefl x this
      rw [appl_out r _ x hout]
      simp only [upd, ← e1, if_true]
    · exact appl_in r _ x h h2 hm'

/-- The outcome: the same keys as want, the same bytes; each element out of one of the two. -/
theorem appl_diff {rd : Hd → Bs} {gh gw : Bs → Option Hd} {cs : List Ent} (hD : IsDiff rd gh gw cs) (hn : ∀ x h, gw x = some h → h.1 ≠ none) :
    (∀ x, (appl gh cs x).isSome = (gw x).isSome) ∧ (∀ x h u, gw x = some h → appl gh cs x = some u → rd u = rd h) ∧ ∀ x u, appl gh cs x = some u → gh x = some u ∨ gw x = some u := by
  have key : ∀ x, (gw x = none ∧ appl gh cs x = none) ∨ ∃ h, gw x = some h ∧ ((appl gh cs x = some h) ∨ ∃ u, gh x = some u ∧ rd u = rd h ∧ appl gh cs x = some u) := by
    intro x
    cases hw : gw x with
    | none =>
      refine Or.inl ⟨rfl, ?_⟩
      cases hh : gh x with
      | none =>
        rw [appl_out cs gh x, hh]
        intro a ha
        rcases (hD.2 x a).1 ha with ⟨h1, _⟩ | ⟨_, ⟨u, hu⟩, _⟩
        · rw [hw] at h1; cases h1
        · rw [hh] at hu; cases hu
      | some u =>
        rw [appl_in cs gh x nilH hD.1 ((hD.2 x nilH).2 (Or.inr ⟨hw, ⟨u, hh⟩, rfl⟩))]
        rfl
    | some h =>
      refine Or.inr ⟨h, rfl, ?_⟩
      by_cases hm : (x, h) ∈ cs
      · left
        rw [appl_in cs gh x h hD.1 hm, if_neg (hn x h hw)]
      · right
        have hnot : ¬ ∀ u, gh x = some u → rd u ≠ rd h := fun hall => hm ((hD.2 x h).2 (Or.inl ⟨hw, hall⟩))
        obtain ⟨u, hu⟩ := Classical.not_forall.1 hnot
        obtain ⟨hu1, hu2⟩ := Classical.not_imp.1 hu
        refine ⟨u, hu1, Classical.not_not.1 hu2, ?_⟩
        rw [appl_out cs gh x, hu1]
        intro a ha
        rcases (hD.2 x a).1 ha with ⟨h1, _⟩ | ⟨h1, _⟩
        · rw [hw] at h1; obtain rfl := Option.some.inj h1; exact hm ha
        · rw [hw] at h1; cases h1
  refine ⟨fun x => ?_, fun x h u hw hu => ?_, fun x u hu => ?_⟩
  · rcases key x with ⟨h1, h2⟩ | ⟨h, h1, h2 | ⟨u, _, _, h2⟩⟩ <;> simp [h1, h2]
  · rcases key x with ⟨h1, _⟩ | ⟨h', h1, h2⟩
    · rw [h1] at hw; cases hw
    · rw [h1] at hw
      obtain rfl := Option.some.inj hw
      rcases h2 with h2 | ⟨v, _, h3, h2⟩
      · rw [h2] at hu; rw [Option.some.inj hu]
      · rw [h2] at hu; rw [← Option.some.inj hu]; exact h3
  · rcases key x with ⟨_, h2⟩ | ⟨h', h1, h2 | ⟨v, h3, _, h2⟩⟩
    · rw [h2] at hu; cases hu
    · rw [h2] at hu; rw [h1, Option.some.inj hu]; exact Or.inr rfl
    · rw [h2] at hu; rw [h3, Option.some.inj hu]; exact Or.inl rfl

end Go.Proofs.Qxb6603884a
