/- The law FnPointCodeStringShortlexOrder: the walk. -/
import Derived.Test.Qxb6604589aDoorCmp
namespace Go.Proofs.Qxb6604589aDoor
open Go.Shelf Go.RowKit Go.Sort Go.Lib Go.Proofs

theorem heap_old (w : World) (q : Nat) (os : Array Obj) (j : Nat) (h : j < w.heap.size) : (grow (w.drewN q) os).heap[j]? = w.heap[j]? := by
  show (w.heap ++ os)[j]? = _
  rw [Array.getElem?_append_left h]
theorem below_grow' (w : World) (q : Nat) (os : Array Obj) (B : Nat) (hB : B ≤ w.heap.size) : RowKit.Below B w (grow (w.drewN q) os) :=
  ⟨rfl, rfl, rfl, by show w.heap.size ≤ (w.heap ++ os).size; rw [Array.size_append]; omega, fun j hj => heap_old w q os j (by omega)⟩

theorem tabIs_grow {P : Program} {w : World} {name : String} {k : IntKind} {zs : List Int} (h : TabIs P w name k zs) (q : Nat) (os : Array Obj) : TabIs P (grow (w.drewN q) os) name k zs := by
  unfold TabIs World.var? at *
  cases hg : P.globalNamed name with
  | none => simp [hg] at h
  | some g =>
    simp only [hg, Option.bind_some] at h ⊢
    have hlt : g < w.heap.size := by
      rcases Nat.lt_or_ge g w.heap.size with h' | h'
      · exact h'
      · rw [Array.getElem?_eq_none h'] at h; simp at h
    have e : (grow (w.drewN q) os).heap[g]? = w.heap[g]? := heap_old w q os g hlt
    rw [e]
    exact h

set_option maxHeartbeats 4000000 in
set_option maxRecDepth 100000 in
theorem law4 (a b : Nat) (ha : a < 65536) (hb : b < 65536) (w : World)
    (htab : Lib.TabIs Tryd.prog w "internal/strconv.uint64pow10" .u64 Lib.pow10Tab) :
    Calls Tryd.prog 4 #[.int .u16 a, .int .u16 b] w fun e w' => e = .returned (.bool true) ∧ RowKit.Below w.heap.size w w' := by
  have HW : Hid (∀ k os k2 os2 k3, RowKit.Below w.heap.size w ((grow ((grow (w.drewN k) os).drewN k2) os2).drewN k3)) := fun k os k2 os2 k3 => by
    have h1 := below_grow' w k os _ (Nat.le_refl _)
    have h2 := below_grow' (grow (w.drewN k) os) k2 os2 _ h1.size
    have h3 := h1.trans h2
    exact ⟨h3.os, h3.tape, h3.output, h3.size, h3.block⟩
  have h1 : ∀ w, Lib.TabIs Tryd.prog w "internal/strconv.uint64pow10" .u64 Lib.pow10Tab → Calls Tryd.prog 5 #[.int .u16 a] w _ := fun w ht => string5 a ha w ht
  have h2 : ∀ w, Lib.TabIs Tryd.prog w "internal/strconv.uint64pow10" .u64 Lib.pow10Tab → Calls Tryd.prog 5 #[.int .u16 b] w _ := fun w ht => string5 b hb w ht
  have h3 := compare7 a b ha hb
  generalize (⟨(decDigits a).toArray⟩ : ByteArray) = SA at h1 h3
  generalize (⟨(decDigits b).toArray⟩ : ByteArray) = SB at h2 h3
  have HT : Hid (∀ q os, Lib.TabIs Tryd.prog (grow (w.drewN q) os) "internal/strconv.uint64pow10" .u64 Lib.pow10Tab) := fun q os => tabIs_grow htab q os
  rcases Nat.lt_trichotomy a b with h | h | h
  · have hc : cmpN a b = -1 := by simp [cmpN, h]
    rw [hc] at h3
    clear hc
    go_enter Tryd.func4, Tryd.ntmps4
    go_wp2_with (go_at_call 5; refine (h1 _ htab).mono ?_; rintro e w1 ⟨rfl, k1, os1, rfl⟩)
    go_wp2_with (go_at_call 5; refine (h2 _ (HT.out _ _)).mono ?_; rintro e w1 ⟨rfl, k2, os2, rfl⟩)
    go_wp2_with (go_at_call 7; refine (h3 _).mono ?_; rintro e w1 ⟨rfl, k3, rfl⟩)
    go_ret
    exact ⟨rfl, HW.out _ _ _ _ _⟩
  · subst h
    have hc : cmpN a a = 0 := by simp [cmpN]
    rw [hc] at h3
    clear hc
    go_enter Tryd.func4, Tryd.ntmps4
    go_wp2_with (go_at_call 5; refine (h1 _ htab).mono ?_; rintro e w1 ⟨rfl, k1, os1, rfl⟩)
    go_wp2_with (go_at_call 5; refine (h2 _ (HT.out _ _)).mono ?_; rintro e w1 ⟨rfl, k2, os2, rfl⟩)
    go_wp2_with (go_at_call 7; refine (h3 _).mono ?_; rintro e w1 ⟨rfl, k3, rfl⟩)
    go_ret
    exact ⟨rfl, HW.out _ _ _ _ _⟩
  · have hn : ¬ a < b := by omega
    have hc : cmpN a b = 1 := by simp [cmpN, h, hn]
    rw [hc] at h3
    clear hc
    go_enter Tryd.func4, Tryd.ntmps4
    go_wp2_with (go_at_call 5; refine (h1 _ htab).mono ?_; rintro e w1 ⟨rfl, k1, os1, rfl⟩)
    go_wp2_with (go_at_call 5; refine (h2 _ (HT.out _ _)).mono ?_; rintro e w1 ⟨rfl, k2, os2, rfl⟩)
    go_wp2_with (go_at_call 7; refine (h3 _).mono ?_; rintro e w1 ⟨rfl, k3, rfl⟩)
    go_ret
    exact ⟨rfl, HW.out _ _ _ _ _⟩
end Go.Proofs.Qxb6604589aDoor
