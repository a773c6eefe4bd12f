/- The arguments, opened: slices of numbers, and a slice of arrays of four. -/
import Derived.Test.Qxb6605276aQuad
import Derived.ProofKit
import Derived.OpenShut
namespace Go.Proofs.Qxb6605276a
open Go.ChangeShapes Go.WideShapes Go.ChangeAt Go.RowKit

theorem Try.own : ownKnob Try.prog.godebug = none := by kernel_rfl
theorem Try.laidOut : laidOutB Try.prog = true := by kernel_rfl
theorem Try.cells41 : Try.prog.cellsOf 41 = 1 := by kernel_rfl
theorem Try.cells3 : Try.prog.cellsOf 3 = 1 := by kernel_rfl
theorem Try.cells40 : Try.prog.cellsOf 40 = 4 := by kernel_rfl
theorem Try.cells21 : Try.prog.cellsOf 21 = 1 := by kernel_rfl

theorem add_plain (b o j : Nat) : (⟨b, o, none⟩ : Addr).add j = ⟨b, o + j, none⟩ := by
  unfold Addr.add
  split
  · rename_i h; subst h; rfl
  · rfl

section
variable {H : Type} {enc : TypeId × Value → H} {W : World}

theorem open_nums {t e : TypeId} {k : IntKind} (ht : Try.prog.underlying t = some (.slice e)) (he : Try.prog.underlying e = some (.int k)) (hc : Try.prog.cellsOf e = 1) {ad : Option Addr} {len cap : Nat} {d : DataW H} {p : List MemPlace}
    (h : DataW.Trod enc Try.prog W 0 (fun _ => true) true t (.slice ad len cap) d p) :
    ∃ g : Nat → Int, RowA W ad len (fun i => .int k (g i)) ∧ len ≤ maxLen := by
  obtain ⟨fuel, hf⟩ := h
  rcases open_ints ht he hc hf with ⟨hcs, _⟩ | ⟨a, l, c, zs, hcs, _, hlc, hcm, hz, _, hcell, _⟩
  · simp [Value.cells] at hcs
    obtain ⟨rfl, rfl, rfl⟩ := hcs
    exact ⟨fun _ => 0, ⟨fun _ => rfl, fun h => absurd h (by omega)⟩, Nat.zero_le _⟩
  · simp [Value.cells] at hcs
    obtain ⟨rfl, rfl, rfl⟩ := hcs
    simp only [if_true] at hz
    refine ⟨fun i => zs.getD i 0, ⟨fun h => (by cases h), fun hp => ?_⟩, Nat.le_trans hlc hcm⟩
    obtain ⟨b, o, s⟩ := a
    have h0 := hcell 0 (by omega)
    obtain rfl : s = none := by simpa [Addr.add] using World.cell?_spot h0
    refine ⟨b, o, rfl, fun i hi => ?_⟩
    have := hcell i (by omega)
    rwa [add_plain] at this

theorem open_quads {ad : Option Addr} {len cap : Nat} {d : DataW H} {p : List MemPlace} (h : DataW.Trod enc Try.prog W 0 (fun _ => true) true 28 (.slice ad len cap) d p) :
    ∃ U : Nat → Nat → Int, QuadA W ad len U ∧ (∀ i, i < len → ∀ k, k < 4 → -2147483648 ≤ U i k ∧ U i k ≤ 2147483647) ∧ len ≤ maxLen := by
  obtain ⟨fuel, hf⟩ := h
  rcases DataW.trod_slice Try.underlying28 hf with ⟨hcs, _⟩ | ⟨a, l, c, elems, rest, n, _, hcs, _, _, hlc, hcm, hlen, hel, _, _⟩
  · simp [Value.cells] at hcs
    obtain ⟨rfl, rfl, rfl⟩ := hcs
    exact ⟨fun _ _ => 0, ⟨fun _ => rfl, fun h => absurd h (by omega)⟩, fun i hi => absurd hi (by omega), Nat.zero_le _⟩
  · simp [Value.cells] at hcs
    obtain ⟨rfl, rfl, rfl⟩ := hcs
    rw [Try.cells40] at hel
    have key : ∀ i k, i < len → k < 4 → ∃ z : Int, W.cell? ((a.add (i * 4)).add k) = some (.int .i32 z) ∧ (Lit.int .i32 z).wf = true := by
      intro i k hi hk
      have h1 := hel i hi
      rw [List.getElem?_eq_getElem (by omega), Option.bind_eq_some_iff] at h1
      obtain ⟨cs, hcs, hx⟩ := h1
      obtain ⟨xs, m, _, _, hl4, hx4, hxs⟩ := DataW.trod_array Try.underlying40 hx
      have h2 := hxs k hk
      rw [Try.cells21, Nat.mul_one, List.getElem?_eq_getElem (by omega)] at h2
      obtain ⟨z, hz, _, hwf⟩ := DataW.trod_int Try.underlying21 h2
      rw [Try.cells40] at hl4
      have hk' : cs[k]? = some (.int .i32 z) := by
        have := congrArg (·[0]?) hz
        simpa [List.getElem?_take, List.getElem?_drop] using this
      have := (World.cells?_some hcs).2.2 k hk
      exact ⟨z, this.trans hk', hwf⟩
    have hval : ∀ i k, ∃ z : Int, i < len → k < 4 → W.cell? ((a.add (i * 4)).add k) = some (.int .i32 z) ∧ (Lit.int .i32 z).wf = true := by
      intro i k
      by_cases hi : i < len ∧ k < 4
      · obtain ⟨z, hz⟩ := key i k hi.1 hi.2
        exact ⟨z, fun _ _ => hz⟩
      · exact ⟨0, fun h1 h2 => absurd ⟨h1, h2⟩ hi⟩
    obtain ⟨U, hU⟩ : ∃ U : Nat → Nat → Int, ∀ i k, i < len → k < 4 → W.cell? ((a.add (i * 4)).add k) = some (.int .i32 (U i k)) ∧ (Lit.int .i32 (U i k)).wf = true := ⟨fun i k => (hval i k).choose, fun i k => (hval i k).choose_spec⟩
    refine ⟨U, ⟨fun h => (by cases h), fun hp => ?_⟩, fun i hi k hk => ?_, Nat.le_trans hlc hcm⟩
    · obtain ⟨b, o, s⟩ := a
      obtain ⟨z, h0, _⟩ := key 0 0 hp (by omega)
      obtain rfl : s = none := by simpa [Addr.add] using World.cell?_spot h0
      refine ⟨b, o, rfl, fun i hi k hk => ?_⟩
      have := (hU i k hi hk).1
      rwa [add_plain, add_plain] at this
    · have hw := (hU i k hi hk).2
      have m1 : IntKind.i32.min = -2147483648 := by decide
      have m2 : IntKind.i32.max = 2147483647 := by decide
      simp [Lit.wf, m1, m2] at hw
      exact hw
end
end Go.Proofs.Qxb6605276a
