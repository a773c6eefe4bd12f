/-
  Plain lists: what the differences of two finite maps are; no Go in sight.
-/
import GoSem.Claim
namespace Go.Proofs.Qxb6603884a

/-- A string's bytes. -/
abbrev Bs := List UInt8
/-- A slice's header: address, length, capacity. -/
abbrev Hd := Option Addr × Nat × Nat
abbrev Ent := Bs × Hd
def nilH : Hd := (none, 0, 0)

theorem bs_irrefl (a : Bs) : ¬ a < a := List.lt_irrefl a
theorem bs_trans {a b c : Bs} (h : a < b) (h' : b < c) : a < c := List.lt_trans h h'
theorem bs_asymm {a b : Bs} (h : a < b) : ¬ b < a := fun h' => bs_irrefl a (bs_trans h h')
theorem bs_ne {a b : Bs} (h : a < b) : a ≠ b := fun e => bs_irrefl b (e ▸ h)
theorem bs_tri {a b : Bs} (h : ¬ a < b) (h' : ¬ b < a) : a = b := List.le_antisymm h' h

/-- Sorted by key, no key twice. -/
def Rising (l : List Ent) : Prop := l.Pairwise fun p q => p.1 < q.1

theorem Rising.inj {l : List Ent} (h : Rising l) {x : Bs} {a b : Hd} (ha : (x, a) ∈ l) (hb : (x, b) ∈ l) : a = b := by
  induction l with
  | nil => simp at ha
  | cons p r ih =>
    obtain ⟨h1, h2⟩ := List.pairwise_cons.1 h
    rcases List.mem_cons.1 ha with ea | ha'
    · rcases List.mem_cons.1 hb with eb | hb'
      · rw [← ea] at eb; exact ((Prod.mk.inj eb).2).symm
      · exact absurd (h1 _ hb') (by rw [← ea]; exact bs_irrefl x)
    · rcases List.mem_cons.1 hb with eb | hb'
      · exact absurd (h1 _ ha') (by rw [← eb]; exact bs_irrefl x)
      · exact ih h2 ha' hb'

theorem Rising.nodup {l : List Ent} (h : Rising l) : l.Nodup := List.Pairwise.imp (fun hab e => bs_ne hab (congrArg Prod.fst e)) h

/-- Two rising lists with the same members are one. -/
theorem Rising.ext {l l' : List Ent} (h : Rising l) (h' : Rising l') (hm : ∀ x a, (x, a) ∈ l ↔ (x, a) ∈ l') : l = l' := by
  refine List.Perm.eq_of_pairwise (le := fun p q : Ent => p.1 < q.1) (fun _ _ _ _ h1 h2 => absurd h2 (bs_asymm h1)) h h' ?_
  exact (List.perm_ext_iff_of_nodup h.nodup h'.nodup).2 fun p => hm p.1 p.2

/-- M lists the finite map g. -/
def Lists (M : List Ent) (g : Bs → Option Hd) : Prop := Rising M ∧ ∀ x h, (x, h) ∈ M ↔ g x = some h

theorem Lists.unique {M M' : List Ent} {g : Bs → Option Hd} (h : Lists M g) (h' : Lists M' g) : M = M' :=
  h.1.ext h'.1 fun x a => (h.2 x a).trans (h'.2 x a).symm

/-- cs: what turns gh into gw: in the order of the keys. -/
def IsDiff (rd : Hd → Bs) (gh gw : Bs → Option Hd) (cs : List Ent) : Prop :=
  Rising cs ∧ ∀ x h, (x, h) ∈ cs ↔ ((gw x = some h ∧ ∀ u, gh x = some u → rd u ≠ rd h) ∨ (gw x = none ∧ (∃ u, gh x = some u) ∧ h = nilH))

theorem IsDiff.unique {rd : Hd → Bs} {gh gw : Bs → Option Hd} {cs cs' : List Ent} (h : IsDiff rd gh gw cs) (h' : IsDiff rd gh gw cs') : cs = cs' :=
  h.1.ext h'.1 fun x a => (h.2 x a).trans (h'.2 x a).symm

/-- From nothing: the map itself. -/
theorem Lists.isDiff {rd : Hd → Bs} {M : List Ent} {g : Bs → Option Hd} (h : Lists M g) : IsDiff rd (fun _ => none) g M :=
  ⟨h.1, fun x a => by rw [h.2 x a]; simp⟩

/-- The merge of two rising lists, with fuel. -/
def mergeL (rd : Hd → Bs) : Nat → List Ent → List Ent → List Ent
  | 0, _, _ => []
  | _ + 1, [], [] => []
  | f + 1, h :: hs, [] => (h.1, nilH) :: mergeL rd f hs []
  | f + 1, [], w :: ws => w :: mergeL rd f [] ws
  | f + 1, h :: hs, w :: ws =>
    if h.1 < w.1 then (h.1, nilH) :: mergeL rd f hs (w :: ws)
    else if w.1 < h.1 then w :: mergeL rd f (h :: hs) ws
    else if rd h.2 = rd w.2 then mergeL rd f hs ws
    else w :: mergeL rd f hs ws

/-- What the merge is, said of the two lists' members. -/
def DiffOf (rd : Hd → Bs) (Mh Mw cs : List Ent) : Prop :=
  Rising cs ∧ ∀ x h, (x, h) ∈ cs ↔ (((x, h) ∈ Mw ∧ ∀ u, (x, u) ∈ Mh → rd u ≠ rd h) ∨ ((∀ v, (x, v) ∉ Mw) ∧ (∃ u, (x, u) ∈ Mh) ∧ h = nilH))

theorem DiffOf.key {rd : Hd → Bs} {Mh Mw cs : List Ent} (h : DiffOf rd Mh Mw cs) {p : Ent} (hp : p ∈ cs) : (∃ u, (p.1, u) ∈ Mh) ∨ (∃ u, (p.1, u) ∈ Mw) := by
  rcases (h.2 p.1 p.2).1 hp with ⟨h1, _⟩ | ⟨_, h2, _⟩
  · exact Or.inr ⟨_, h1⟩
  · exact Or.inl h2

theorem rising_above {a : Ent} {l : List Ent} (h : Rising (a :: l)) {x : Bs} {u : Hd} (hu : (x, u) ∈ l) : a.1 < x := (List.pairwise_cons.1 h).1 _ hu

theorem mergeL_diffOf (rd : Hd → Bs) : ∀ (f : Nat) (Mh Mw : List Ent), Mh.length + Mw.length ≤ f → Rising Mh → Rising Mw → DiffOf rd Mh Mw (mergeL rd f Mh Mw) := by
  intro f
  induction f with
  | zero =>
    intro Mh Mw hf _ _
    obtain rfl : Mh = [] := List.eq_nil_of_length_eq_zero (by omega)
    obtain rfl : Mw = [] := List.eq_nil_of_length_eq_zero (by omega)
    exact ⟨List.Pairwise.nil, by simp [mergeL]⟩
  | succ f ih =>
    intro Mh Mw hf hh hw
    match Mh, Mw with
    | [], [] => exact ⟨List.Pairwise.nil, by simp [mergeL]⟩
    | p :: hs, [] =>
      have i := ih hs [] (by simp at hf ⊢; omega) (List.pairwise_cons.1 hh).2 List.Pairwise.nil
      refine ⟨List.pairwise_cons.2 ⟨fun q hq => ?_, i.1⟩, fun x h => ?_⟩
      · rcases i.key hq with ⟨u, hu⟩ | ⟨u, hu⟩
        · exact rising_above hh hu
        · simp at hu
      · simp only [mergeL, List.mem_cons, i.2 x h]
        constructor
        · rintro (e | e)
          · obtain ⟨rfl, rfl⟩ := Prod.mk.inj e
            exact Or.inr ⟨by simp, ⟨p.2, Or.inl rfl⟩, rfl⟩
          · rcases e with ⟨e, _⟩ | ⟨_, ⟨u, hu⟩, e⟩
            · simp at e
            · exact Or.inr ⟨by simp, ⟨u, Or.inr hu⟩, e⟩
        · rintro (⟨e, _⟩ | ⟨_, ⟨u, hu⟩, rfl⟩)
          · simp at e
          · rcases hu with hu | hu
            · exact Or.inl (by rw [← hu])
            · exact Or.inr (Or.inr ⟨by simp, ⟨u, hu⟩, rfl⟩)
    | [], p :: ws =>
      have i := ih [] ws (by simp at hf ⊢; omega) List.Pairwise.nil (List.pairwise_cons.1 hw).2
      refine ⟨List.pairwise_cons.2 ⟨fun q hq => ?_, i.1⟩, fun x h => ?_⟩
      · rcases i.key hq with ⟨u, hu⟩ | ⟨u, hu⟩
        · simp at hu
        · exact rising_above hw hu
      · simp only [mergeL, List.mem_cons, i.2 x h]
        simp
    | p :: hs, q :: ws =>
      have hh2 := (List.pairwise_cons.1 hh).2
      have hw2 := (List.pairwise_cons.1 hw).2
      simp only [mergeL]
      by_cases c1 : p.1 < q.1
      · rw [if_pos c1]
        have i := ih hs (q :: ws) (by simp at hf ⊢; omega) hh2 hw
        have hno : ∀ v, (p.1, v) ∉ q :: ws := fun v hv => by
          rcases List.mem_cons.1 hv with e | e
          · exact bs_irrefl p.1 (by rw [← e] at c1; exact c1)
          · exact bs_asymm c1 (rising_above hw e)
        refine ⟨List.pairwise_cons.2 ⟨fun r hr => ?_, i.1⟩, fun x h => ?_⟩
        · rcases i.key hr with ⟨u, hu⟩ | ⟨u, hu⟩
          · exact rising_above hh hu
          · rcases List.mem_cons.1 hu with e | e
            · rw [← e] at c1; exact c1
            · exact bs_trans c1 (rising_above hw e)
        · rw [List.mem_cons, i.2 x h]
          constructor
          · rintro (e | e)
            · obtain ⟨rfl, rfl⟩ := Prod.mk.inj e
              exact Or.inr ⟨hno, ⟨p.2, List.mem_cons_self⟩, rfl⟩
            · rcases e with ⟨e1, e2⟩ | ⟨e1, ⟨u, hu⟩, e2⟩
              · refine Or.inl ⟨e1, fun u hu => ?_⟩
                rcases List.mem_cons.1 hu with eu | eu
                · exact absurd e1 (by rw [show x = p.1 from by rw [← eu]]; exact hno h)
                · exact e2 u eu
              · exact Or.inr ⟨e1, ⟨u, List.mem_cons_of_mem _ hu⟩, e2⟩
          · rintro (⟨e1, e2⟩ | ⟨e1, ⟨u, hu⟩, rfl⟩)
            · exact Or.inr (Or.inl ⟨e1, fun u hu => e2 u (List.mem_cons_of_mem _ hu)⟩)
            · rcases List.mem_cons.1 hu with eu | eu
              · exact Or.inl (by rw [← eu])
              · exact Or.inr (Or.inr ⟨e1, ⟨u, eu⟩, rfl⟩)
      · rw [if_neg c1]
        by_cases c2 : q.1 < p.1
        · rw [if_pos c2]
          have i := ih (p :: hs) ws (by simp at hf ⊢; omega) hh hw2
          have hno : ∀ v, (q.1, v) ∉ p :: hs := fun v hv => by
            rcases List.mem_cons.1 hv with e | e
            · exact bs_irrefl q.1 (by rw [← e] at c2; exact c2)
            · exact bs_asymm c2 (rising_above hh e)
          refine ⟨List.pairwise_cons.2 ⟨fun r hr => ?_, i.1⟩, fun x h => ?_⟩
          · rcases i.key hr with ⟨u, hu⟩ | ⟨u, hu⟩
            · rcases List.mem_cons.1 hu with e | e
              · rw [← e] at c2; exact c2
              · exact bs_trans c2 (rising_above hh e)
            · exact rising_above hw hu
          · rw [List.mem_cons, i.2 x h]
            constructor
            · rintro (e | e)
              · subst e
                exact Or.inl ⟨List.mem_cons_self, fun u hu => absurd hu (hno u)⟩
              · rcases e with ⟨e1, e2⟩ | ⟨e1, ⟨u, hu⟩, e2⟩
                · exact Or.inl ⟨List.mem_cons_of_mem _ e1, e2⟩
                · refine Or.inr ⟨fun v hv => ?_, ⟨u, hu⟩, e2⟩
                  rcases List.mem_cons.1 hv with ev | ev
                  · exact hno u (by rw [← ev]; exact hu)
                  · exact e1 v ev
            · rintro (⟨e1, e2⟩ | ⟨e1, ⟨u, hu⟩, rfl⟩)
              · rcases List.mem_cons.1 e1 with ev | ev
                · exact Or.inl ev
                · exact Or.inr (Or.inl ⟨ev, e2⟩)
              · exact Or.inr (Or.inr ⟨fun v hv => e1 v (List.mem_cons_of_mem _ hv), ⟨u, hu⟩, rfl⟩)
        · rw [if_neg c2]
          have e0 : p.1 = q.1 := bs_tri c1 c2
          have i := ih hs ws (by simp at hf ⊢; omega) hh2 hw2
          have noh : ∀ v, (p.1, v) ∉ hs := fun v hv => bs_irrefl p.1 (rising_above hh hv)
          have now : ∀ v, (p.1, v) ∉ ws := fun v hv => bs_irrefl q.1 (by rw [e0] at hv; exact rising_above hw hv)
          have above : ∀ r ∈ mergeL rd f hs ws, q.1 < r.1 := fun r hr => by
            rcases i.key hr with ⟨u, hu⟩ | ⟨u, hu⟩
            · rw [← e0]; exact rising_above hh hu
            · exact rising_above hw hu
          by_cases c3 : rd p.2 = rd q.2
          · rw [if_pos c3]
            refine ⟨i.1, fun x h => ?_⟩
            rw [i.2 x h]
            constructor
            · rintro (⟨e1, e2⟩ | ⟨e1, ⟨u, hu⟩, e2⟩)
              · refine Or.inl ⟨List.mem_cons_of_mem _ e1, fun u hu => ?_⟩
                rcases List.mem_cons.1 hu with eu | eu
                · exact absurd e1 (by rw [show x = p.1 from by rw [← eu]]; exact now h)
                · exact e2 u eu
              · refine Or.inr ⟨fun v hv => ?_, ⟨u, List.mem_cons_of_mem _ hu⟩, e2⟩
                rcases List.mem_cons.1 hv with ev | ev
                · exact noh u (by rw [e0, ← ev]; exact hu)
                · exact e1 v ev
            · rintro (⟨e1, e2⟩ | ⟨e1, ⟨u, hu⟩, rfl⟩)
              · rcases List.mem_cons.1 e1 with ev | ev
                · have hm : (x, p.2) ∈ p :: hs := by rw [show x = p.1 from by rw [e0, ← ev]]; exact List.mem_cons_self
                  exact absurd c3 (by rw [← ev]; exact e2 p.2 hm)
                · exact Or.inl ⟨ev, fun u hu => e2 u (List.mem_cons_of_mem _ hu)⟩
              · rcases List.mem_cons.1 hu with eu | eu
                · exact absurd List.mem_cons_self (by rw [show x = q.1 from by rw [← e0, ← eu]] at e1; exact e1 q.2)
                · exact Or.inr ⟨fun v hv => e1 v (List.mem_cons_of_mem _ hv), ⟨u, eu⟩, rfl⟩
          · rw [if_neg c3]
            refine ⟨List.pairwise_cons.2 ⟨above, i.1⟩, fun x h => ?_⟩
            rw [List.mem_cons, i.2 x h]
            constructor
            · rintro (e | e)
              · subst e
                refine Or.inl ⟨List.mem_cons_self, fun u hu => ?_⟩
                rcases List.mem_cons.1 hu with eu | eu
                · rw [show u = p.2 from by rw [← eu]]; exact c3
                · exact absurd eu (by have := noh u; rw [e0] at this; exact this)
              · rcases e with ⟨e1, e2⟩ | ⟨e1, ⟨u, hu⟩, e2⟩
                · refine Or.inl ⟨List.mem_cons_of_mem _ e1, fun u hu => ?_⟩
                  rcases List.mem_cons.1 hu with eu | eu
                  · exact absurd e1 (by rw [show x = p.1 from by rw [← eu]]; exact now h)
                  · exact e2 u eu
                · refine Or.inr ⟨fun v hv => ?_, ⟨u, List.mem_cons_of_mem _ hu⟩, e2⟩
                  rcases List.mem_cons.1 hv with ev | ev
                  · exact noh u (by rw [e0, ← ev]; exact hu)
                  · exact e1 v ev
            · rintro (⟨e1, e2⟩ | ⟨e1, ⟨u, hu⟩, rfl⟩)
              · rcases List.mem_cons.1 e1 with ev | ev
                · exact Or.inl ev
                · exact Or.inr (Or.inl ⟨ev, fun u hu => e2 u (List.mem_cons_of_mem _ hu)⟩)
              · rcases List.mem_cons.1 hu with eu | eu
                · exact absurd List.mem_cons_self (by rw [show x = q.1 from by rw [← e0, ← eu]] at e1; exact e1 q.2)
                · exact Or.inr (Or.inr ⟨fun v hv => e1 v (List.mem_cons_of_mem _ hv), ⟨u, eu⟩, rfl⟩)

theorem mergeL_isDiff {rd : Hd → Bs} {Mh Mw : List Ent} {gh gw : Bs → Option Hd} (hh : Lists Mh gh) (hw : Lists Mw gw) {f : Nat} (hf : Mh.length + Mw.length ≤ f) : IsDiff rd gh gw (mergeL rd f Mh Mw) := by
  have d := mergeL_diffOf rd f Mh Mw hf hh.1 hw.1
  refine ⟨d.1, fun x h => ?_⟩
  rw [d.2 x h, hw.2 x h]
  constructor
  · rintro (⟨e1, e2⟩ | ⟨e1, ⟨u, hu⟩, e2⟩)
    · exact Or.inl ⟨e1, fun u hu => e2 u ((hh.2 x u).2 hu)⟩
    · refine Or.inr ⟨?_, ⟨u, (hh.2 x u).1 hu⟩, e2⟩
      cases hg : gw x with
      | none => rfl
      | some v => exact absurd ((hw.2 x v).2 hg) (e1 v)
  · rintro (⟨e1, e2⟩ | ⟨e1, ⟨u, hu⟩, e2⟩)
    · exact Or.inl ⟨e1, fun u hu => e2 u ((hh.2 x u).1 hu)⟩
    · exact Or.inr ⟨fun v hv => (by have := (hw.2 x v).1 hv; rw [e1] at this; cases this), ⟨u, (hh.2 x u).2 hu⟩, e2⟩

end Go.Proofs.Qxb6603884a
