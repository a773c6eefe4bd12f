/-
  A map argument, opened: its raw headers, and that each reads.
-/
import Derived.Test.Qxb6603884aCopy
import Derived.ProofKit
import Derived.OpenShut
namespace Go.Proofs.Qxb6603884a
open Go.ChangeShapes Go.WideShapes Go.ChangeAt Go.RowKit Go.WideElems Go.Maps

theorem Try.own : ownKnob Try.prog.godebug = none := by kernel_rfl
theorem Try.laidOut : laidOutB Try.prog = true := by kernel_rfl
theorem Try.cells5 : Try.prog.cellsOf 5 = 1 := by kernel_rfl

theorem byA_of_ints {W : World} {a : Addr} {len cap : Nat} {zs : List Int} (hl : len ≤ zs.length) (hcell : ∀ i, i < zs.length → W.cell? (a.add i) = some (.int .u8 (zs.getD i 0))) (hwf : ∀ n ∈ zs, (Lit.int .u8 n).wf = true) : ∃ l, ByA W (some a, len, cap) l := by
  refine ⟨(zs.take len).map fun n => UInt8.ofNat n.toNat, by simp; omega, fun hp => ?_⟩
  have hp' : 0 < len := hp
  obtain ⟨b, o, s⟩ := a
  have h0 := hcell 0 (by omega)
  obtain rfl : s = none := by simpa [Addr.add] using World.cell?_spot h0
  refine ⟨b, o, rfl, fun i hi => ?_⟩
  have hi' : i < len := hi
  have h1 := hcell i (by omega)
  rw [add_plain] at h1
  rw [h1]
  have hz : i < zs.length := by omega
  have hb := hwf zs[i] (List.getElem_mem hz)
  have hb2 := bounds_u8 hb
  have e1 : zs.getD i 0 = zs[i] := by simp [List.getD_eq_getElem?_getD, hz]
  rw [e1]
  simp [nums, List.getD_eq_getElem?_getD, hz, hi']
  omega

section
variable {H : Type} {enc : TypeId × Value → H} {W : World}

theorem elem_reads {m : Nat} {v : Value} {z : DataW H × List MemPlace} (h : elemAt enc Try.prog W 0 (fun _ => true) true m 31 v = some z) : ∃ a : Hd, v = hv a ∧ ∃ l, ByA W a l := by
  unfold elemAt at h
  split at h
  · rename_i hf
    have hone : v.cells.toList = [v] := by
      cases v <;> first | rfl | simp [Value.formed, Try.underlying31] at hf
    rw [hone] at h
    rcases open_ints Try.underlying31 Try.underlying5 Try.cells5 h with ⟨hcs, _⟩ | ⟨a, len, cap, zs, hcs, _, hlc, _, hz, _, hcell, hwf⟩
    · refine ⟨nilH, (List.cons.inj hcs).1, [], rfl, fun h => absurd h (by simp [nilH])⟩
    · simp only [if_true] at hz
      exact ⟨(some a, len, cap), by simpa using hcs, byA_of_ints (by omega) hcell hwf⟩
  · cases h

theorem open_bmap {a0 : Option Nat} {d : DataW H} {p : List MemPlace} (h : DataW.Trod enc Try.prog W 0 (fun _ => true) true 22 (.map a0) d p) :
    ∃ g M, MapG Try.prog 9 W a0 g M.length ∧ Lists M g ∧ (∀ q ∈ M, q.1.length ≤ maxLen) ∧ ∀ x h, g x = some h → ∃ l, ByA W h l := by
  obtain ⟨fuel, hf⟩ := h
  rcases open_map Try.underlying22 hf with ⟨hcs, _⟩ | ⟨bm, es, clock, m, _, hcs, hb, _, F, _⟩
  · simp [Value.cells] at hcs
    subst hcs
    exact ⟨fun _ => none, [], ⟨fun _ => rfl, rfl⟩, ⟨List.Pairwise.nil, by simp⟩, by simp, by simp⟩
  · simp [Value.cells] at hcs
    subst hcs
    have F' : Fit Try.prog 9 rawElem es clock := ⟨F.size, F.stamped, fun x hx => by
      obtain ⟨y, hy⟩ := F.reads x hx
      obtain ⟨z, hz, _⟩ := rd_val hy
      obtain ⟨a, ha, _⟩ := elem_reads hz
      have hv' : rawElem x.val = some (.held a, []) := by rw [ha]; exact rawElem_mk a
      exact ⟨_, rd_mk (R := rawElem) (born := x.born) (rd_key hy) hv'⟩⟩
    have hown : W.ownsMap Try.prog 9 rawElem bm es.size (.map ((es.toList.map (rg Try.prog 9 rawElem)).foldr DataW.insert [])) := ⟨es, clock, hb, F', Nat.le_refl _, rfl⟩
    have hM : MapG Try.prog 9 W (some bm) (gOf (.map ((es.toList.map (rg Try.prog 9 rawElem)).foldr DataW.insert []))) es.size := ⟨_, hown, by simp [Maps.size, length_sorted], fun _ => rfl⟩
    obtain ⟨M, hL, hl, hk⟩ := hM.lists (string_keyed Try.underlying9) Try.underlying9
    refine ⟨_, M, by rw [hl]; exact hM, hL, hk, fun x h hx => ?_⟩
    obtain ⟨es0, hD, _, he⟩ := raw_entries hown (string_keyed Try.underlying9) Try.underlying9
    rw [hD] at hx
    rcases find_of_entries he x with hf' | ⟨c, hf'⟩
    · rw [gOf, DataW.atKey, hf'] at hx; cases hx
    · rw [gOf, DataW.atKey, hf'] at hx
      obtain rfl : c = h := by simpa using hx
      have hm := List.mem_of_find?_eq_some hf'
      simp only [DataW.map.injEq] at hD
      rw [← hD] at hm
      obtain ⟨e, hee, hre⟩ := List.mem_map.1 (mem_sorted.1 hm)
      obtain ⟨y, hy⟩ := F.reads e hee
      obtain ⟨z, hz, _⟩ := rd_val hy
      obtain ⟨a, ha, l, hl'⟩ := elem_reads hz
      obtain ⟨y', hy'⟩ := F'.reads e hee
      obtain ⟨z', hz', e2⟩ := rd_val hy'
      rw [rg_of hy'] at hre
      rw [ha, rawElem_mk] at hz'
      rw [hre, ← Option.some.inj hz'] at e2
      obtain rfl : c = a := by simpa using e2
      exact ⟨l, hl'⟩
end
end Go.Proofs.Qxb6603884a
