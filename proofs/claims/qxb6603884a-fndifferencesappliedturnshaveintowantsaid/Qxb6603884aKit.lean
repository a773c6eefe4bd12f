/-
  Maps whose elements are slices, seen as functions from the key's bytes to the slice's raw header: views and laws at the operations, for nil and for other maps alike.
-/
import Derived.Test.Qxb6603884aPlain
import Derived.Maps.RangeWalk
import Derived.Sort.KeysCollected
import Derived.WalkKit
namespace Go.Proofs.Qxb6603884a
open Go.RowKit Go.Maps
open Go.WideElems (Fit rd rg pl rd_key rd_val rg_of)

/-- A header as a value. -/
abbrev hv (h : Hd) : Value := .slice h.1 h.2.1 h.2.2

/-- An element that is a slice reads as its raw header. -/
def rawElem (v : Value) : Option (DataW Hd × List MemPlace) :=
  match v with
  | .slice p n c => some (.held (p, n, c), [])
  | _ => none

theorem rawElem_mk (h : Hd) : rawElem (hv h) = some (.held h, []) := rfl
theorem rawElem_inv {v : Value} {y : DataW Hd × List MemPlace} (h : rawElem v = some y) : ∃ a : Hd, v = hv a ∧ y = (.held a, []) := by
  unfold rawElem at h
  split at h
  · cases h; exact ⟨_, rfl, rfl⟩
  · cases h

/-- What the datum holds at a key. -/
def gOf (D : DataW Hd) (x : Bs) : Option Hd :=
  match D.atKey (.string x) .nil with
  | .held h => some h
  | _ => none

theorem isKey_str (x : Bs) : WideAt.IsKeyLit (.string x) := by simp [WideAt.IsKeyLit]

theorem pw_eq {es : List (Lit × DataW Hd)} (h : es.Pairwise (fun p q => p.1 ≠ q.1)) {p q : Lit × DataW Hd} (hp : p ∈ es) (hq : q ∈ es) (e : p.1 = q.1) : p = q := by
  induction es with
  | nil => simp at hp
  | cons a r ih =>
    obtain ⟨h1, h2⟩ := List.pairwise_cons.1 h
    rcases List.mem_cons.1 hp with rfl | hp'
    · rcases List.mem_cons.1 hq with rfl | hq'
      · rfl
      · exact absurd e (h1 _ hq')
    · rcases List.mem_cons.1 hq with rfl | hq'
      · exact absurd e.symm (h1 _ hp')
      · exact ih h2 hp' hq'

section
variable {P : Program} {k : TypeId} {w : World} {b n : Nat} {D : DataW Hd}

theorem raw_entries (h : w.ownsMap P k rawElem b n D) (K : Keyed P k) (hk : P.underlying k = some .string) :
    ∃ es : List (Lit × DataW Hd), D = .map es ∧ es.Pairwise (fun p q => p.1 ≠ q.1) ∧ ∀ p ∈ es, ∃ x a, p = (.string x, .held a) ∧ x.length ≤ maxLen := by
  obtain ⟨es0, hD0, hpw, _⟩ := h.entries K
  obtain ⟨es, clock, _, F, _, hD⟩ := h
  refine ⟨es0, hD0, hpw, fun p hp => ?_⟩
  rw [hD0] at hD
  simp only [DataW.map.injEq] at hD
  rw [hD] at hp
  obtain ⟨x, hx, rfl⟩ := List.mem_map.1 (mem_sorted.1 hp)
  obtain ⟨y, hy⟩ := F.reads x hx
  obtain ⟨z, hz, e2⟩ := rd_val hy
  obtain ⟨a, _, rfl⟩ := rawElem_inv hz
  obtain ⟨s, _, e1, hs⟩ := Maps.keyOf_str hk (rd_key hy)
  exact ⟨s, a, by rw [rg_of hy]; exact Prod.ext e1 e2, hs⟩

theorem find_of_entries {es : List (Lit × DataW Hd)} (he : ∀ p ∈ es, ∃ x a, p = (.string x, .held a) ∧ x.length ≤ maxLen) (x : Bs) :
    (es.find? (fun p => p.1.sameKey (.string x)) = none) ∨ ∃ a, es.find? (fun p => p.1.sameKey (.string x)) = some (.string x, .held a) := by
  cases hf : es.find? (fun p => p.1.sameKey (.string x)) with
  | none => exact Or.inl rfl
  | some p =>
    obtain ⟨y, a, rfl, _⟩ := he p (List.mem_of_find?_eq_some hf)
    have hs := List.find?_some hf
    have : y = x := by simpa [Lit.sameKey] using hs
    subst this
    exact Or.inr ⟨a, rfl⟩

theorem gOf_has (h : w.ownsMap P k rawElem b n D) (K : Keyed P k) (hk : P.underlying k = some .string) (x : Bs) : Maps.has D (.string x) = (gOf D x).isSome := by
  obtain ⟨es, rfl, _, he⟩ := raw_entries h K hk
  rw [Maps.has_eq]
  rcases find_of_entries he x with hf | ⟨a, hf⟩
  · have : (es.any fun p => p.1.sameKey (.string x)) = false := List.any_eq_false.2 fun p hp => List.find?_eq_none.1 hf p hp
    simp [gOf, DataW.atKey, hf, this]
  · have : (es.any fun p => p.1.sameKey (.string x)) = true := List.any_eq_true.2 ⟨_, List.mem_of_find?_eq_some hf, by simp [Lit.sameKey]⟩
    simp [gOf, DataW.atKey, hf, this]

theorem gOf_at (h : w.ownsMap P k rawElem b n D) (K : Keyed P k) (hk : P.underlying k = some .string) (x : Bs) : D.atKey (.string x) (.held nilH) = .held ((gOf D x).getD nilH) := by
  obtain ⟨es, rfl, _, he⟩ := raw_entries h K hk
  rcases find_of_entries he x with hf | ⟨a, hf⟩ <;> simp [gOf, DataW.atKey, hf]

theorem gOf_of_at {a : Hd} {x : Bs} (h : ∀ zd, D.atKey (.string x) zd = .held a) : gOf D x = some a := by simp [gOf, h]

theorem gOf_put (h : IsMap D) (x : Bs) (a : Hd) (y : Bs) : gOf (D.put (.string x) (.held a)) y = if y = x then some a else gOf D y := by
  by_cases e : y = x
  · subst e; rw [if_pos rfl]; unfold gOf; rw [atKey_put_same h (isKey_str y)]
  · rw [if_neg e]; unfold gOf; rw [atKey_put_other (by simpa using e)]

theorem gOf_del (x y : Bs) : gOf (D.del (.string x)) y = if y = x then none else gOf D y := by
  by_cases e : y = x
  · subst e; rw [if_pos rfl]; unfold gOf; rw [atKey_del_same]
  · rw [if_neg e]; unfold gOf; rw [atKey_del_other (by simpa using e)]

/-- A rising listing of what the datum holds. -/
theorem gOf_lists (h : w.ownsMap P k rawElem b n D) (K : Keyed P k) (hk : P.underlying k = some .string) : ∃ M, Lists M (gOf D) ∧ M.length = Maps.size D ∧ ∀ p ∈ M, p.1.length ≤ maxLen := by
  obtain ⟨es, rfl, hpw, he⟩ := raw_entries h K hk
  let cv : Lit × DataW Hd → Ent := fun p => (strOf p.1, match p.2 with | .held a => a | _ => nilH)
  have hcv : ∀ x a, cv (.string x, .held a) = (x, a) := fun _ _ => rfl
  have hmem : ∀ x a, (x, a) ∈ es.map cv ↔ gOf (.map es) x = some a := by
    intro x a
    constructor
    · intro hm
      obtain ⟨p, hp, hpe⟩ := List.mem_map.1 hm
      obtain ⟨y, c, rfl, _⟩ := he p hp
      rw [hcv] at hpe
      obtain ⟨rfl, rfl⟩ := Prod.mk.inj hpe
      rcases find_of_entries he y with hf | ⟨c', hf⟩
      · have := List.find?_eq_none.1 hf _ hp
        simp [Lit.sameKey] at this
      · have hm' := List.mem_of_find?_eq_some hf
        have hcc : c' = c := by
          have e := pw_eq hpw hm' hp rfl
          simpa using e
        rw [gOf, DataW.atKey, hf, hcc]
    · intro hg
      rcases find_of_entries he x with hf | ⟨c', hf⟩
      · rw [gOf, DataW.atKey, hf] at hg; cases hg
      · rw [gOf, DataW.atKey, hf] at hg
        have hm' := List.mem_of_find?_eq_some hf
        have : c' = a := by simpa using hg
        subst this
        exact List.mem_map.2 ⟨_, hm', hcv _ _⟩
  have hnd : (es.map cv).Pairwise (fun p q => p.1 ≠ q.1) := by
    refine List.pairwise_map.2 (List.Pairwise.imp_of_mem (fun {p q} hp hq hne => ?_) hpw)
    obtain ⟨y, c, rfl, _⟩ := he p hp
    obtain ⟨z, d, rfl, _⟩ := he q hq
    exact fun e => hne (by simpa [cv, strOf] using e)
  have tr : ∀ a b c : Ent, decide (a.1 ≤ b.1) = true → decide (b.1 ≤ c.1) = true → decide (a.1 ≤ c.1) = true := fun a b c h1 h2 => by simp only [decide_eq_true_eq] at *; exact List.le_trans h1 h2
  have to : ∀ a b : Ent, (decide (a.1 ≤ b.1) || decide (b.1 ≤ a.1)) = true := fun a b => by simp only [Bool.or_eq_true, decide_eq_true_eq]; exact List.le_total a.1 b.1
  have hperm := List.mergeSort_perm (es.map cv) (fun a b : Ent => decide (a.1 ≤ b.1))
  refine ⟨(es.map cv).mergeSort (fun a b : Ent => decide (a.1 ≤ b.1)), ⟨?_, fun x a => by rw [hperm.mem_iff]; exact hmem x a⟩, by rw [hperm.length_eq]; simp [Maps.size], fun p hp => ?_⟩
  · have s1 := List.pairwise_mergeSort tr to (es.map cv)
    have s2 := (hperm.pairwise_iff (fun {p q} (hne : p.1 ≠ q.1) => Ne.symm hne)).2 hnd
    refine (s1.and s2).imp (fun {p q} hpq => ?_)
    have h1 : p.1 ≤ q.1 := by simpa using hpq.1
    rcases Classical.em (p.1 < q.1) with h2 | h2
    · exact h2
    · exact absurd (List.le_antisymm h1 h2) hpq.2
  · obtain ⟨q, hq, rfl⟩ := List.mem_map.1 (hperm.mem_iff.1 hp)
    obtain ⟨y, c, rfl, hl⟩ := he q hq
    exact hl
end

/-- The map value '.map ob' (nil: ob = none) holds, in w, just what g says; n entries. -/
def MapG (P : Program) (k : TypeId) (w : World) (ob : Option Nat) (g : Bs → Option Hd) (n : Nat) : Prop :=
  match ob with
  | none => (∀ x, g x = none) ∧ n = 0
  | some b => ∃ D, w.ownsMap P k rawElem b n D ∧ Maps.size D = n ∧ ∀ x, g x = gOf D x

section
variable {P : Program} {k : TypeId} {w w' : World} {ob : Option Nat} {g : Bs → Option Hd} {n : Nat}

theorem MapG.lt {b : Nat} (h : MapG P k w (some b) g n) : b < w.heap.size := by
  obtain ⟨D, h1, _⟩ := h
  exact h1.lt

theorem MapG.kept {row : Option Nat} (h : MapG P k w ob g n) (hg : w.grownBy w' row) (hne : ∀ b, ob = some b → some b ≠ row) : MapG P k w' ob g n := by
  cases ob with
  | none => exact h
  | some b =>
    obtain ⟨D, h1, h2, h3⟩ := h
    exact ⟨D, h1.kept hg (hne b rfl), h2, h3⟩

theorem MapG.below {B : Nat} (h : MapG P k w ob g n) (hb : Below B w w') (hlt : ∀ b, ob = some b → b < B) : MapG P k w' ob g n := by
  cases ob with
  | none => exact h
  | some b =>
    obtain ⟨D, ⟨es, clock, h0, r⟩, h2, h3⟩ := h
    exact ⟨D, ⟨es, clock, (hb.block b (hlt b rfl)).trans h0, r⟩, h2, h3⟩

/-- Nothing that was there has turned. -/
theorem MapG.later (h : MapG P k w ob g n) (hb : Below w.heap.size w w') : MapG P k w' ob g n :=
  h.below hb (fun b e => by subst e; exact h.lt)

theorem MapG.lists (h : MapG P k w ob g n) (K : Keyed P k) (hk : P.underlying k = some .string) : ∃ M, Lists M g ∧ M.length = n ∧ ∀ p ∈ M, p.1.length ≤ maxLen := by
  cases ob with
  | none => exact ⟨[], ⟨List.Pairwise.nil, fun x a => by simp [h.1 x]⟩, h.2.symm, by simp⟩
  | some b =>
    obtain ⟨D, h1, rfl, h3⟩ := h
    obtain ⟨M, hM, hl, hb⟩ := gOf_lists h1 K hk
    exact ⟨M, ⟨hM.1, fun x a => by rw [h3 x]; exact hM.2 x a⟩, hl, hb⟩

theorem MapG.size_le (h : MapG P k w ob g n) : n ≤ maxLen := by
  cases ob with
  | none => rw [h.2]; unfold maxLen; omega
  | some b =>
    obtain ⟨D, ⟨es, clock, _, F, _, rfl⟩, h2, _⟩ := h
    rw [← h2]
    simpa [Maps.size, length_sorted] using F.size

/-- What a look-up gives. -/
def look (c : Bool) (a : Option Hd) : Value := if c then .tuple #[hv (a.getD nilH), .bool a.isSome] else hv (a.getD nilH)

theorem keyStr (hk : P.underlying k = some .string) {x : Bs} (hx : x.length ≤ maxLen) : keyOf P k (encStr x) = some (.string x) := by
  have := WideMaps.keyOf_string_mk hk (s := ⟨x.toArray⟩) (by simpa [ByteArray.size] using hx)
  simpa using this

theorem MapG.run_look (h : MapG P k w ob g n) (K : Keyed P k) (hk : P.underlying k = some .string) {t e : TypeId} (ht : P.underlying t = some (.map k e)) (hz : (zeroValue e).run P w = .ok (hv nilH) w) (c : Bool) {x : Bs} (hx : x.length ≤ maxLen) :
    (Instr.lookup t (.map ob) (encStr x) c).run P w = .ok (look c (g x)) w := by
  have hkey := keyStr hk hx
  cases ob with
  | none =>
    rw [Maps.look_nil c K ht hz hkey, h.1 x]
    rfl
  | some b =>
    obtain ⟨D, h1, _, h3⟩ := h
    rw [h3 x]
    cases c with
    | false =>
      obtain ⟨v, ps, hrun, hR⟩ := h1.lookup K ht hz (rawElem_mk nilH) hkey
      obtain ⟨a, rfl, hy⟩ := rawElem_inv hR
      rw [gOf_at h1 K hk x] at hy
      simp at hy
      rw [hrun, ← hy.1]; rfl
    | true =>
      obtain ⟨v, ps, hrun, hR⟩ := h1.look_ok K ht hz (rawElem_mk nilH) hkey
      obtain ⟨a, rfl, hy⟩ := rawElem_inv hR
      rw [gOf_at h1 K hk x] at hy
      simp at hy
      rw [hrun, ← hy.1, gOf_has h1 K hk x]; rfl

theorem MapG.run_len (h : MapG P k w ob g n) {t e : TypeId} (ht : P.underlying t = some (.map k e)) (ty : TypeId) : (Builtin.len_ #[t] ty #[.map ob]).run P w = .ok (.int .i64 n) w := by
  cases ob with
  | none => rw [Maps.len_nil ht ty, h.2]; rfl
  | some b =>
    obtain ⟨D, h1, h2, _⟩ := h
    rw [h1.len ht ty, h2]

theorem tight {R : Value → Option (DataW Hd × List MemPlace)} {b m : Nat} {D : DataW Hd} (h : w.ownsMap P k R b m D) : w.ownsMap P k R b (Maps.size D) D := by
  obtain ⟨es, clock, h0, F, _, rfl⟩ := h
  exact ⟨es, clock, h0, F, by simp [Maps.size, length_sorted], rfl⟩

theorem MapG.made (w : World) (P : Program) (k : TypeId) : MapG P k (w.alloc (.map #[] 0)) (some w.heap.size) (fun _ => none) 0 :=
  ⟨.map [], World.ownsMap_made w P k rawElem, rfl, fun _ => rfl⟩

/-- g with h laid at x. -/
def upd (g : Bs → Option Hd) (x : Bs) (h : Option Hd) : Bs → Option Hd := fun y => if y = x then h else g y

theorem MapG.run_put {b : Nat} (h : MapG P k w (some b) g n) (K : Keyed P k) (hk : P.underlying k = some .string) {t e : TypeId} (ht : P.underlying t = some (.map k e)) (hn : n < maxLen) {x : Bs} (hx : x.length ≤ maxLen) (a : Hd) :
    ∃ w', (Instr.mapUpdate t (.map (some b)) (encStr x) (hv a)).run P w = .ok () w' ∧ MapG P k w' (some b) (upd g x (some a)) (if (g x).isSome then n else n + 1) ∧ w.grownBy w' (some b) := by
  obtain ⟨D, h1, h2, h3⟩ := h
  obtain ⟨w', hrun, r1, r2⟩ := h1.update K ht hn (keyStr hk hx) (rawElem_mk a)
  have hsz : Maps.size (D.put (.string x) (.held a)) = if (g x).isSome then n else n + 1 := by
    rw [size_put (h1.tidy K), gOf_has h1 K hk x, ← h3 x, h2]
  refine ⟨w', hrun, ⟨_, by rw [← hsz]; exact tight r1, hsz, fun y => ?_⟩, r2⟩
  rw [gOf_put h1.isMap]
  simp only [upd, h3 y]

theorem MapG.run_del {b : Nat} (h : MapG P k w (some b) g n) (K : Keyed P k) (hk : P.underlying k = some .string) {t e : TypeId} (ht : P.underlying t = some (.map k e)) {x : Bs} (hx : x.length ≤ maxLen) (ty : TypeId) :
    ∃ w', (Builtin.delete_ #[t, k] ty #[.map (some b), encStr x]).run P w = .ok (.tuple #[]) w' ∧ MapG P k w' (some b) (upd g x none) (if (g x).isSome then n - 1 else n) ∧ w.grownBy w' (some b) := by
  obtain ⟨D, h1, h2, h3⟩ := h
  obtain ⟨w', hrun, r1, r2⟩ := h1.drop K ht (keyStr hk hx) ty
  have hsz : Maps.size (D.del (.string x)) = if (g x).isSome then n - 1 else n := by
    have := size_del (k := .string x) (h1.tidy K)
    rw [gOf_has h1 K hk x, ← h3 x, h2] at this
    split at this <;> rename_i e <;> simp only [e] <;> simp <;> omega
  refine ⟨w', hrun, ⟨_, by rw [← hsz]; exact tight r1, hsz, fun y => ?_⟩, r2.grown⟩
  rw [gOf_del]
  simp only [upd, h3 y]

/-- 'for k, v := range m' under way, nil maps too: 'left x': is the entry at x still to come; cnt: how many are. -/
def RangeG (P : Program) (k : TypeId) (w : World) (ob : Option Nat) (r : Nat) (g : Bs → Option Hd) (n : Nat) (left : Bs → Bool) (cnt : Nat) : Prop :=
  match ob with
  | none => (∀ x, g x = none) ∧ n = 0 ∧ (∀ x, left x = false) ∧ cnt = 0 ∧ ∃ a s c, w.heap[r]? = some (.mapIter none a s c)
  | some b => ∃ D L, w.ranges P k rawElem b r n D L cnt ∧ Maps.size D = n ∧ (∀ x, g x = gOf D x) ∧ ∀ x, left x = L (.string x)

/-- The measure. -/
def mLeft (w : World) (ob : Option Nat) (r : Nat) : Nat :=
  match ob with
  | none => 0
  | some b => w.rangeLeft b r

variable {r cnt : Nat} {left : Bs → Bool}

theorem RangeG.mapG (h : RangeG P k w ob r g n left cnt) : MapG P k w ob g n := by
  cases ob with
  | none => exact ⟨h.1, h.2.1⟩
  | some b => obtain ⟨D, L, h1, h2, h3, _⟩ := h; exact ⟨D, h1.owns, h2, h3⟩

theorem RangeG.left_eq (h : RangeG P k w ob r g n left cnt) : mLeft w ob r = cnt := by
  cases ob with
  | none => exact h.2.2.2.1.symm
  | some b => obtain ⟨D, L, h1, _⟩ := h; exact h1.left_eq

theorem RangeG.lt (h : RangeG P k w ob r g n left cnt) : r < w.heap.size := by
  cases ob with
  | none => obtain ⟨_, _, _, _, a, s, c, hr⟩ := h; exact (Array.getElem?_eq_some_iff.1 hr).1
  | some b => obtain ⟨D, L, h1, _⟩ := h; exact h1.lt

theorem RangeG.kept {row : Option Nat} (h : RangeG P k w ob r g n left cnt) (hg : w.grownBy w' row) (hb : ∀ b, ob = some b → some b ≠ row) (hr : some r ≠ row) : RangeG P k w' ob r g n left cnt := by
  have hlt := h.lt
  cases ob with
  | none =>
    obtain ⟨h1, h2, h3, h4, a, s, c, h5⟩ := h
    exact ⟨h1, h2, h3, h4, a, s, c, (hg.block r hlt hr).trans h5⟩
  | some b =>
    obtain ⟨D, L, h1, h2⟩ := h
    exact ⟨D, L, h1.kept hg (hb b rfl) hr, h2⟩

theorem MapG.run_range (h : MapG P k w ob g n) (K : Keyed P k) (hk : P.underlying k = some .string) {t e : TypeId} (ht : P.underlying t = some (.map k e)) :
    ∃ w', (Instr.range t (.map ob)).run P w = .ok (.pointer (some ⟨w.heap.size, 0, none⟩)) w' ∧ RangeG P k w' ob w.heap.size g n (fun x => (g x).isSome) n ∧ w.grownBy w' none ∧ w'.heap.size = w.heap.size + 1 := by
  cases ob with
  | none =>
    refine ⟨_, run_range_nilMap w t k e ht, ⟨h.1, h.2, fun x => by simp [h.1 x], h.2, 0, #[], 0, heap_alloc_new _ _⟩, World.grownBy_alloc w _ none, by simp⟩
  | some b =>
    obtain ⟨D, h1, h2, h3⟩ := h
    obtain ⟨w', hrun, r1, r2, r3⟩ := h1.range K ht
    exact ⟨w', hrun, ⟨D, _, by rw [← h2]; rw [← h2] at r1; exact r1, h2, h3, fun x => by simp only [gOf_has h1 K hk x, h3 x]⟩, r2, r3⟩

theorem run_next_none {r a c : Nat} {s : Array Nat} (h : w.heap[r]? = some (.mapIter none a s c)) (ty : TypeId) :
    (Instr.next (.pointer (some ⟨r, 0, none⟩)) false ty).run P w = .ok (.tuple #[.bool false]) w := by
  simp only [Instr.next, getObj, Sem.run_bind, Sem.run, h, Result.andThen]
  rfl

theorem RangeG.next (h : RangeG P k w ob r g n left cnt) (K : Keyed P k) (hk : P.underlying k = some .string) (ty : TypeId) :
    ((∀ x, left x = false) ∧ (Instr.next (.pointer (some ⟨r, 0, none⟩)) false ty).run P w = .ok (.tuple #[.bool false]) w) ∨
    ∃ x a w' cnt', x.length ≤ maxLen ∧ left x = true ∧ g x = some a ∧ (Instr.next (.pointer (some ⟨r, 0, none⟩)) false ty).run P w = .ok (.tuple #[.bool true, encStr x, hv a]) w' ∧
      RangeG P k w' ob r g n (fun y => left y && !decide (y = x)) cnt' ∧ cnt' < cnt ∧ w.grownBy w' (some r) ∧ w'.heap.size = w.heap.size ∧ (Instr.entry (.pointer (some ⟨r, 0, none⟩))).run P w' = .ok (.tuple #[encStr x, hv a]) w' := by
  cases ob with
  | none =>
    obtain ⟨_, _, h3, _, a, s, c, h5⟩ := h
    exact Or.inl ⟨h3, run_next_none h5 ty⟩
  | some b =>
    obtain ⟨D, L, h1, h2, h3, h4⟩ := h
    rcases h1.next K ty with ⟨_, hl, hrun⟩ | ⟨key, v, kl, y, w', cnt', hkey, hlk, hv', hat, hrun, hrg, hlt, hgr, hsz, hen⟩
    · exact Or.inl ⟨fun x => by rw [h4 x, hl], hrun⟩
    · obtain ⟨x, rfl, rfl, hx⟩ := Maps.keyOf_str hk hkey
      obtain ⟨a, rfl, rfl⟩ := rawElem_inv hv'
      refine Or.inr ⟨x, a, w', cnt', hx, by rw [h4 x]; exact hlk, by rw [h3 x]; exact gOf_of_at hat, hrun, ⟨D, _, hrg, h2, h3, fun y => ?_⟩, hlt, hgr, hsz, hen⟩
      simp only [h4 y]
      by_cases e : y = x
      · subst e; simp [Lit.sameKey]
      · simp [Lit.sameKey, e]
end

/-! ### at the operations, for the walk -/
section
variable {P : Program} (w : World) {ops : Array Oper} {rest : List Oper} {o : Oper} {a : Act} {Q : Exit → Act → World → Prop} {ob : Option Nat} {g : Bs → Option Hd} {n : Nat} {k e : TypeId}

theorem wpList_look_g (hg : o.guard = none) (m x : Operand) (t : TypeId) (c : Bool) (hop : o.op = Op.lookup t m x c) (K : Keyed P k) (hk : P.underlying k = some .string) (ht : P.underlying t = some (.map k e)) (hz : ∀ w, (zeroValue e).run P w = .ok (hv nilH) w)
    (hM : MapG P k w ob g n) (hm : a.eval m = .map ob) (s : Bs) (hx : a.eval x = encStr s) (hs : s.length ≤ maxLen)
    (hK : wpList P ops Q rest (a.put o.dst (look c (g s))) w) : wpList P ops Q (o :: rest) a w := by
  refine wpList_plain hg fun K' hK' => ?_
  unfold Oper.wp
  simp only [execOp, hop, hm, hx]
  simp [hM.run_look K hk ht (hz w) c hs, Result.andThen]
  exact hK' _ _ hK

/-- 'm[k]', the answer written out. -/
theorem wpList_get_g (hg : o.guard = none) (m x : Operand) (t : TypeId) (hop : o.op = Op.lookup t m x false) (K : Keyed P k) (hk : P.underlying k = some .string) (ht : P.underlying t = some (.map k e)) (hz : ∀ w, (zeroValue e).run P w = .ok (hv nilH) w)
    (hM : MapG P k w ob g n) (hm : a.eval m = .map ob) (s : Bs) (hx : a.eval x = encStr s) (hs : s.length ≤ maxLen) (p : Option Addr) (l c : Nat) (hgs : (g s).getD nilH = (p, l, c))
    (hK : wpList P ops Q rest (a.put o.dst (.slice p l c)) w) : wpList P ops Q (o :: rest) a w :=
  wpList_look_g w hg m x t false hop K hk ht hz hM hm s hx hs (by simp only [look, hgs]; exact hK)

/-- 'v, ok := m[k]', the answer written out. -/
theorem wpList_getok_g (hg : o.guard = none) (m x : Operand) (t : TypeId) (hop : o.op = Op.lookup t m x true) (K : Keyed P k) (hk : P.underlying k = some .string) (ht : P.underlying t = some (.map k e)) (hz : ∀ w, (zeroValue e).run P w = .ok (hv nilH) w)
    (hM : MapG P k w ob g n) (hm : a.eval m = .map ob) (s : Bs) (hx : a.eval x = encStr s) (hs : s.length ≤ maxLen) (p : Option Addr) (l c : Nat) (hgs : (g s).getD nilH = (p, l, c)) (y : Bool) (hy : (g s).isSome = y)
    (hK : wpList P ops Q rest (a.put o.dst (.tuple #[.slice p l c, .bool y])) w) : wpList P ops Q (o :: rest) a w :=
  wpList_look_g w hg m x t true hop K hk ht hz hM hm s hx hs (by simp only [look, hgs, hy]; exact hK)

theorem wpList_len_g (hg : o.guard = none) (m : Operand) (t : TypeId) (hop : o.op = Op.call { callee := Callee.builtin Builtin.len, args := #[m], argTypes := #[t] }) (ht : P.underlying t = some (.map k e))
    (hM : MapG P k w ob g n) (hm : a.eval m = .map ob) (hK : wpList P ops Q rest (a.put o.dst (.int .i64 n)) w) : wpList P ops Q (o :: rest) a w := by
  refine wpList_plain hg fun K' hK' => ?_
  unfold Oper.wp
  simp [execOp, hop, resolve, invoke, builtin, hm, hM.run_len ht o.type, Result.andThen]
  exact hK' _ _ hK

theorem wpList_put_g {b : Nat} (hg : o.guard = none) (m x v : Operand) (t : TypeId) (hop : o.op = Op.mapUpdate t m x v) (K : Keyed P k) (hk : P.underlying k = some .string) (ht : P.underlying t = some (.map k e))
    (hM : MapG P k w (some b) g n) (hn : n < maxLen) (hm : a.eval m = .map (some b)) (s : Bs) (hx : a.eval x = encStr s) (hs : s.length ≤ maxLen) (h : Hd) (hvv : a.eval v = hv h)
    (hK : ∀ w', MapG P k w' (some b) (upd g s (some h)) (if (g s).isSome then n else n + 1) → w.grownBy w' (some b) → wpList P ops Q rest (a.put o.dst undef) w') : wpList P ops Q (o :: rest) a w := by
  refine wpList_plain hg fun K' hK' => ?_
  obtain ⟨w', hrun, r1, r2⟩ := hM.run_put K hk ht hn hs h
  unfold Oper.wp
  simp only [execOp, hop, hm, hx, hvv]
  simp [hrun, Result.andThen]
  exact hK' _ _ (hK w' r1 r2)

theorem wpList_del_g {b : Nat} (hg : o.guard = none) (m x : Operand) (t : TypeId) (hop : o.op = Op.call { callee := Callee.builtin Builtin.delete, args := #[m, x], argTypes := #[t, k] }) (K : Keyed P k) (hk : P.underlying k = some .string) (ht : P.underlying t = some (.map k e))
    (hM : MapG P k w (some b) g n) (hm : a.eval m = .map (some b)) (s : Bs) (hx : a.eval x = encStr s) (hs : s.length ≤ maxLen)
    (hK : ∀ w', MapG P k w' (some b) (upd g s none) (if (g s).isSome then n - 1 else n) → w.grownBy w' (some b) → wpList P ops Q rest (a.put o.dst (.tuple #[])) w') : wpList P ops Q (o :: rest) a w := by
  refine wpList_plain hg fun K' hK' => ?_
  obtain ⟨w', hrun, r1, r2⟩ := hM.run_del K hk ht hs o.type
  unfold Oper.wp
  simp [execOp, hop, resolve, invoke, builtin, hm, hx, hrun, Result.andThen]
  exact hK' _ _ (hK w' r1 r2)

theorem wpList_range_g (hg : o.guard = none) (m : Operand) (t : TypeId) (hop : o.op = Op.range t m) (K : Keyed P k) (hk : P.underlying k = some .string) (ht : P.underlying t = some (.map k e)) (hM : MapG P k w ob g n) (hm : a.eval m = .map ob)
    (hK : ∀ w', RangeG P k w' ob w.heap.size g n (fun x => (g x).isSome) n → w.grownBy w' none → w'.heap.size = w.heap.size + 1 → wpList P ops Q rest (a.put o.dst (.pointer (some ⟨w.heap.size, 0, none⟩))) w') : wpList P ops Q (o :: rest) a w := by
  refine wpList_plain hg fun K' hK' => ?_
  obtain ⟨w', hrun, r1, r2, r3⟩ := hM.run_range K hk ht
  unfold Oper.wp
  simp [execOp, hop, hm, hrun, Result.andThen]
  exact hK' _ _ (hK w' r1 r2 r3)

theorem wpList_next_g (hg : o.guard = none) (it : Operand) (hop : o.op = Op.next it false) (K : Keyed P k) (hk : P.underlying k = some .string) (r : Nat) (left : Bs → Bool) (cnt : Nat) (hR : RangeG P k w ob r g n left cnt) (hit : a.eval it = .pointer (some ⟨r, 0, none⟩))
    (hDone : (∀ x, left x = false) → wpList P ops Q rest (a.put o.dst (.tuple #[.bool false])) w)
    (hMore : ∀ (x : Bs) (h : Hd) (w' : World) (cnt' : Nat), x.length ≤ maxLen → left x = true → g x = some h → RangeG P k w' ob r g n (fun y => left y && !decide (y = x)) cnt' → cnt' < cnt →
      w.grownBy w' (some r) → w'.heap.size = w.heap.size → (Instr.entry (.pointer (some ⟨r, 0, none⟩))).run P w' = .ok (.tuple #[encStr x, hv h]) w' → wpList P ops Q rest (a.put o.dst (.tuple #[.bool true, encStr x, hv h])) w') :
    wpList P ops Q (o :: rest) a w := by
  refine wpList_plain hg fun K' hK' => ?_
  unfold Oper.wp
  rcases hR.next K hk o.type with ⟨hl, hrun⟩ | ⟨x, h, w', cnt', hx, hlx, hgx, hrun, hrg, hlt, hgr, hsz, hen⟩
  · simp [execOp, hop, hit, hrun, Result.andThen]
    exact hK' _ _ (hDone hl)
  · simp [execOp, hop, hit, hrun, Result.andThen]
    exact hK' _ _ (hMore x h w' cnt' hx hlx hgx hrg hlt hgr hsz hen)
end
end Go.Proofs.Qxb6603884a
