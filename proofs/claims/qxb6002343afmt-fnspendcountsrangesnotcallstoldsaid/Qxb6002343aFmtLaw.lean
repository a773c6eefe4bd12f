/- The law FnSpendCountsRangesNotCalls (function 9): the walk. -/
import Derived.Test.Qxb6002343aFmtSpend
import Derived.OwnWalk
namespace Go.Proofs.Qxb6002343aFmt
open Go.RowKit Go.Extern.Stop Go.Stop Go.Extern

set_option maxHeartbeats 2000000 in
theorem law_early (a b c : Nat) (w : World) (h : ¬ (a ≤ 65536 ∧ b ≤ 65536 ∧ c ≤ 65536)) :
    Calls Tryf.prog 9 #[.int .u32 a, .int .u32 b, .int .u32 c] w fun e w' => e = .returned (.bool true) ∧ w' = w := by
  by_cases h1 : 65536 < a
  · clear h
    go_enter Tryf.func9, Tryf.ntmps9
    go_wp2_with fail
    go_ret
    exact ⟨rfl, rfl⟩
  · by_cases h2 : 65536 < b
    · clear h
      go_enter Tryf.func9, Tryf.ntmps9
      go_wp2_with fail
      go_ret
      exact ⟨rfl, rfl⟩
    · have h3 : 65536 < c := by omega
      clear h
      go_enter Tryf.func9, Tryf.ntmps9
      go_wp2_with fail
      go_ret
      exact ⟨rfl, rfl⟩

theorem info_parts {P : Program} {t : TypeId} {z : Value} {s b : Nat} (h : (P.info? t).map (fun i => (i.zero, i.size, i.bytes)) = some (some z, s, b)) : ∃ i, P.info? t = some i ∧ i.zero = some z ∧ i.size = s ∧ i.bytes = b := by
  cases hi : P.info? t with
  | none => simp [hi] at h
  | some i => simp [hi] at h; exact ⟨i, rfl, h.1, h.2.1, h.2.2⟩

theorem Tryf.info21 : (Tryf.prog.info? 21).map (fun i => (i.zero, i.size, i.bytes)) = some (some (.int .i32 0), 1, 4) := by kernel_rfl

/-- The two parsers' counts, at blocks B1 and B2, and what lay there before the call lies there still. -/
structure St (w w' : World) (B1 B2 x y : Nat) : Prop where
  c1 : w'.cell? ⟨B1, 4, none⟩ = some (.int .i64 x)
  f1 : w'.frozen? ⟨B1, 4, none⟩ = false
  c2 : w'.cell? ⟨B2, 4, none⟩ = some (.int .i64 y)
  f2 : w'.frozen? ⟨B2, 4, none⟩ = false
  ne : B1 ≠ B2
  b1 : w.heap.size ≤ B1
  b2 : w.heap.size ≤ B2
  below : Below w.heap.size w w'

theorem St.step1 {w w' w'' : World} {B1 B2 x y x' : Nat} (h : St w w' B1 B2 x y) (hA : Aft w' w'' B1 (.int .i64 x')) : St w w'' B1 B2 x' y :=
  ⟨hA.cell, hA.frz, (hA.other B2 (Ne.symm h.ne) 4 _ h.c2).1, (hA.other B2 (Ne.symm h.ne) 4 _ h.c2).2.trans h.f2, h.ne, h.b1, h.b2, h.below.trans (hA.below _ h.b1 h.below.size)⟩
theorem St.step2 {w w' w'' : World} {B1 B2 x y y' : Nat} (h : St w w' B1 B2 x y) (hA : Aft w' w'' B2 (.int .i64 y')) : St w w'' B1 B2 x y' :=
  ⟨(hA.other B1 h.ne 4 _ h.c1).1, (hA.other B1 h.ne 4 _ h.c1).2.trans h.f1, hA.cell, hA.frz, h.ne, h.b1, h.b2, h.below.trans (hA.below _ h.b2 h.below.size)⟩
theorem St.ans {F : Interp} {w w' : World} {B1 B2 x y : Nat} (h : St w w' B1 B2 x y) (hF : F.answers w.tape) : F.answers w'.tape := by
  rw [h.below.tape]
  exact hF
theorem St.start {w w1 : World} (hg : w.grownBy w1 none) (o1 o2 : Array Value) (t : TypeId) (h1 : o1[4]? = some (.int .i64 0)) (h2 : o2[4]? = some (.int .i64 0)) : St w ((w1.alloc (.cells o1 t)).alloc (.cells o2 t)) w1.heap.size (w1.heap.size + 1) 0 0 := by
  have hb : Below w1.heap.size w1 ((w1.alloc (.cells o1 t)).alloc (.cells o2 t)) := ((Below.refl _ _).alloc (Nat.le_refl _) _).alloc (by simp) _
  have hs : (w1.alloc (.cells o1 t)).heap.size = w1.heap.size + 1 := by simp
  have hw := hg.size
  have e1 : ((w1.alloc (.cells o1 t)).alloc (.cells o2 t)).heap[w1.heap.size]? = (w1.alloc (.cells o1 t)).heap[w1.heap.size]? := ((Below.refl (w1.alloc (.cells o1 t)).heap.size _).alloc (Nat.le_refl _) _).block _ (by omega)
  refine ⟨?_, ?_, ?_, ?_, by omega, hw, by omega, ((Below.refl _ _).grown hg (Nat.le_refl _) (by simp)).trans (hb.mono hw)⟩
  · rw [World.cell?_of_block (a := ⟨w1.heap.size, 4, none⟩) e1, World.cell?_alloc_new]; exact h1
  · rw [World.frozen?_of_block (a := ⟨w1.heap.size, 4, none⟩) e1]; exact World.frozen?_alloc_new _ _ _ _
  · rw [← hs, World.cell?_alloc_new]; exact h2
  · rw [← hs]; exact World.frozen?_alloc_new _ _ _ _

set_option maxHeartbeats 2000000 in
set_option maxRecDepth 100000 in
theorem law_yy_s (F : Interp) (a b c : Nat) (w : World) (hF : F.answers w.tape) (ha : a ≤ 65536) (hb : b ≤ 65536) (hc : c ≤ 65536) (hn : c ≤ a + b) (hs : a + b + c ≤ 65536) :
    Calls Tryf.prog 9 #[.int .u32 a, .int .u32 b, .int .u32 c] w fun e w' => e = .returned (.bool true) ∧ Below w.heap.size w w' := by
  obtain ⟨i0, hi0, hz0, hz1, hz2⟩ := info_parts Tryf.info21
  have HF : Hid (F.answers w.tape) := hF
  clear hF
  go_enter Tryf.func9, Tryf.ntmps9
  go_wp2_with (at_make; refine wpList_make_full _ rfl _ _ 38 rfl w.heap.size 21 i0 (.int .i32 0) 1 Tryf.underlying38 hi0 hz0 hz1 .i64 .i64 _ _ (2 * (a + b)) rfl rfl (by simp) (by simp) (by rw [hz2]; omega) (by unfold maxLen; omega) (Nat.le_refl _) ?_; intro w1 hown1 hg1)
  have S0 := St.start hg1 #[.string ⟨#[]⟩, .int .i64 0, .slice none 0 0, .int .i64 0, .int .i64 0, .int .i64 0, .int .i64 0, .int .i64 0] #[.string ⟨#[]⟩, .int .i64 0, .slice none 0 0, .int .i64 0, .int .i64 0, .int .i64 0, .int .i64 0, .int .i64 0] 42 rfl rfl
  refine (zz_ok _ 0 (a + b) _ _ _ S0.c1 S0.f1 (by omega)).mono ?_
  rintro e w2 ⟨rfl, hA1⟩
  have S1 := S0.step1 hA1
  clear hown1 hg1
  go_wp2_with fail
  refine (zz_ok _ 0 a _ _ _ S1.c2 S1.f2 (by omega)).mono ?_
  rintro e w3 ⟨rfl, hA2⟩
  have S2 := S1.step2 hA2
  go_wp2_with fail
  refine (zz_ok _ (0 + a) b _ _ _ S2.c2 S2.f2 (by omega)).mono ?_
  rintro e w4 ⟨rfl, hA3⟩
  have S3 := S2.step2 hA3
  go_wp2_with fail
  go_quiet (fail)
  go_wp2_with fail
  have S4 : St w (w4.drewN nq) _ _ _ _ := ⟨S3.c1, S3.f1, S3.c2, S3.f2, S3.ne, S3.b1, S3.b2, ⟨S3.below.os, S3.below.tape, S3.below.output, S3.below.size, S3.below.block⟩⟩
  refine (zz_ok _ (0 + (a + b)) c _ _ _ S4.c1 S4.f1 (by omega)).mono ?_
  rintro e w5 ⟨rfl, hA4⟩
  have S5 := S4.step1 hA4
  go_wp2_with fail
  refine (zz_ok _ (0 + a + b) c _ _ _ S5.c2 S5.f2 (by omega)).mono ?_
  rintro e w6 ⟨rfl, hA5⟩
  have S6 := S5.step2 hA5
  go_wp2_with fail
  go_quiet (fail)
  go_wp2_with fail
  go_ret
  exact ⟨rfl, ⟨S6.below.os, S6.below.tape, S6.below.output, S6.below.size, S6.below.block⟩⟩

set_option maxHeartbeats 2000000 in
set_option maxRecDepth 100000 in
theorem law_yn_s (F : Interp) (a b c : Nat) (w : World) (hF : F.answers w.tape) (ha : a ≤ 65536) (hb : b ≤ 65536) (hc : c ≤ 65536) (hn : c ≤ a + b) (hs : a + b ≤ 65536) (hs2 : 65536 < a + b + c) :
    Calls Tryf.prog 9 #[.int .u32 a, .int .u32 b, .int .u32 c] w fun e w' => e = .returned (.bool true) ∧ Below w.heap.size w w' := by
  obtain ⟨i0, hi0, hz0, hz1, hz2⟩ := info_parts Tryf.info21
  have HF : Hid (F.answers w.tape) := hF
  clear hF
  go_enter Tryf.func9, Tryf.ntmps9
  go_wp2_with (at_make; refine wpList_make_full _ rfl _ _ 38 rfl w.heap.size 21 i0 (.int .i32 0) 1 Tryf.underlying38 hi0 hz0 hz1 .i64 .i64 _ _ (2 * (a + b)) rfl rfl (by simp) (by simp) (by rw [hz2]; omega) (by unfold maxLen; omega) (Nat.le_refl _) ?_; intro w1 hown1 hg1)
  have S0 := St.start hg1 #[.string ⟨#[]⟩, .int .i64 0, .slice none 0 0, .int .i64 0, .int .i64 0, .int .i64 0, .int .i64 0, .int .i64 0] #[.string ⟨#[]⟩, .int .i64 0, .slice none 0 0, .int .i64 0, .int .i64 0, .int .i64 0, .int .i64 0, .int .i64 0] 42 rfl rfl
  refine (zz_ok _ 0 (a + b) _ _ _ S0.c1 S0.f1 (by omega)).mono ?_
  rintro e w2 ⟨rfl, hA1⟩
  have S1 := S0.step1 hA1
  clear hown1 hg1
  go_wp2_with fail
  refine (zz_ok _ 0 a _ _ _ S1.c2 S1.f2 (by omega)).mono ?_
  rintro e w3 ⟨rfl, hA2⟩
  have S2 := S1.step2 hA2
  go_wp2_with fail
  refine (zz_ok _ (0 + a) b _ _ _ S2.c2 S2.f2 (by omega)).mono ?_
  rintro e w4 ⟨rfl, hA3⟩
  have S3 := S2.step2 hA3
  go_wp2_with fail
  go_quiet (fail)
  go_wp2_with fail
  have S4 : St w (w4.drewN nq) _ _ _ _ := ⟨S3.c1, S3.f1, S3.c2, S3.f2, S3.ne, S3.b1, S3.b2, ⟨S3.below.os, S3.below.tape, S3.below.output, S3.below.size, S3.below.block⟩⟩
  refine (zz_no F _ (0 + (a + b)) c _ (S4.ans HF.out) _ _ S4.c1 S4.f1 (by omega) (by omega)).mono ?_
  rintro e w5 ⟨⟨ad4, rfl⟩, hA4⟩
  have S5 := S4.step1 hA4
  go_wp2_with fail
  refine (zz_no F _ (0 + a + b) c _ (S5.ans HF.out) _ _ S5.c2 S5.f2 (by omega) (by omega)).mono ?_
  rintro e w6 ⟨⟨ad5, rfl⟩, hA5⟩
  have S6 := S5.step2 hA5
  go_wp2_with fail
  go_quiet (fail)
  go_wp2_with fail
  go_ret
  exact ⟨rfl, ⟨S6.below.os, S6.below.tape, S6.below.output, S6.below.size, S6.below.block⟩⟩

set_option maxHeartbeats 2000000 in
set_option maxRecDepth 100000 in
theorem law_nn_s (F : Interp) (a b c : Nat) (w : World) (hF : F.answers w.tape) (ha : a ≤ 65536) (hb : b ≤ 65536) (hc : c ≤ 65536) (hn : c ≤ a + b) (hs : 65536 < a + b) :
    Calls Tryf.prog 9 #[.int .u32 a, .int .u32 b, .int .u32 c] w fun e w' => e = .returned (.bool true) ∧ Below w.heap.size w w' := by
  obtain ⟨i0, hi0, hz0, hz1, hz2⟩ := info_parts Tryf.info21
  have HF : Hid (F.answers w.tape) := hF
  clear hF
  go_enter Tryf.func9, Tryf.ntmps9
  go_wp2_with (at_make; refine wpList_make_full _ rfl _ _ 38 rfl w.heap.size 21 i0 (.int .i32 0) 1 Tryf.underlying38 hi0 hz0 hz1 .i64 .i64 _ _ (2 * (a + b)) rfl rfl (by simp) (by simp) (by rw [hz2]; omega) (by unfold maxLen; omega) (Nat.le_refl _) ?_; intro w1 hown1 hg1)
  have S0 := St.start hg1 #[.string ⟨#[]⟩, .int .i64 0, .slice none 0 0, .int .i64 0, .int .i64 0, .int .i64 0, .int .i64 0, .int .i64 0] #[.string ⟨#[]⟩, .int .i64 0, .slice none 0 0, .int .i64 0, .int .i64 0, .int .i64 0, .int .i64 0, .int .i64 0] 42 rfl rfl
  refine (zz_no F _ 0 (a + b) _ (S0.ans HF.out) _ _ S0.c1 S0.f1 (by omega) (by omega)).mono ?_
  rintro e w2 ⟨⟨ad1, rfl⟩, hA1⟩
  have S1 := S0.step1 hA1
  clear hown1 hg1
  go_wp2_with fail
  refine (zz_ok _ 0 a _ _ _ S1.c2 S1.f2 (by omega)).mono ?_
  rintro e w3 ⟨rfl, hA2⟩
  have S2 := S1.step2 hA2
  go_wp2_with fail
  refine (zz_no F _ (0 + a) b _ (S2.ans HF.out) _ _ S2.c2 S2.f2 (by omega) (by omega)).mono ?_
  rintro e w4 ⟨⟨ad3, rfl⟩, hA3⟩
  have S3 := S2.step2 hA3
  go_wp2_with fail
  go_quiet (fail)
  go_wp2_with fail
  have S4 : St w (w4.drewN nq) _ _ _ _ := ⟨S3.c1, S3.f1, S3.c2, S3.f2, S3.ne, S3.b1, S3.b2, ⟨S3.below.os, S3.below.tape, S3.below.output, S3.below.size, S3.below.block⟩⟩
  refine (zz_no F _ (0 + (a + b)) c _ (S4.ans HF.out) _ _ S4.c1 S4.f1 (by omega) (by omega)).mono ?_
  rintro e w5 ⟨⟨ad4, rfl⟩, hA4⟩
  have S5 := S4.step1 hA4
  go_wp2_with fail
  refine (zz_no F _ (0 + a + b) c _ (S5.ans HF.out) _ _ S5.c2 S5.f2 (by omega) (by omega)).mono ?_
  rintro e w6 ⟨⟨ad5, rfl⟩, hA5⟩
  have S6 := S5.step2 hA5
  go_wp2_with fail
  go_quiet (fail)
  go_wp2_with fail
  go_ret
  exact ⟨rfl, ⟨S6.below.os, S6.below.tape, S6.below.output, S6.below.size, S6.below.block⟩⟩

set_option maxHeartbeats 2000000 in
set_option maxRecDepth 100000 in
theorem law_yy_c (F : Interp) (a b c : Nat) (w : World) (hF : F.answers w.tape) (ha : a ≤ 65536) (hb : b ≤ 65536) (hc : c ≤ 65536) (hn : a + b < c) (hs : a + b + c ≤ 65536) :
    Calls Tryf.prog 9 #[.int .u32 a, .int .u32 b, .int .u32 c] w fun e w' => e = .returned (.bool true) ∧ Below w.heap.size w w' := by
  obtain ⟨i0, hi0, hz0, hz1, hz2⟩ := info_parts Tryf.info21
  have HF : Hid (F.answers w.tape) := hF
  clear hF
  go_enter Tryf.func9, Tryf.ntmps9
  go_wp2_with (at_make; refine wpList_make_full _ rfl _ _ 38 rfl w.heap.size 21 i0 (.int .i32 0) 1 Tryf.underlying38 hi0 hz0 hz1 .i64 .i64 _ _ (2 * c) rfl rfl (by simp) (by simp) (by rw [hz2]; omega) (by unfold maxLen; omega) (Nat.le_refl _) ?_; intro w1 hown1 hg1)
  have S0 := St.start hg1 #[.string ⟨#[]⟩, .int .i64 0, .slice none 0 0, .int .i64 0, .int .i64 0, .int .i64 0, .int .i64 0, .int .i64 0] #[.string ⟨#[]⟩, .int .i64 0, .slice none 0 0, .int .i64 0, .int .i64 0, .int .i64 0, .int .i64 0, .int .i64 0] 42 rfl rfl
  refine (zz_ok _ 0 (a + b) _ _ _ S0.c1 S0.f1 (by omega)).mono ?_
  rintro e w2 ⟨rfl, hA1⟩
  have S1 := S0.step1 hA1
  clear hown1 hg1
  go_wp2_with fail
  refine (zz_ok _ 0 a _ _ _ S1.c2 S1.f2 (by omega)).mono ?_
  rintro e w3 ⟨rfl, hA2⟩
  have S2 := S1.step2 hA2
  go_wp2_with fail
  refine (zz_ok _ (0 + a) b _ _ _ S2.c2 S2.f2 (by omega)).mono ?_
  rintro e w4 ⟨rfl, hA3⟩
  have S3 := S2.step2 hA3
  go_wp2_with fail
  go_quiet (fail)
  go_wp2_with fail
  have S4 : St w (w4.drewN nq) _ _ _ _ := ⟨S3.c1, S3.f1, S3.c2, S3.f2, S3.ne, S3.b1, S3.b2, ⟨S3.below.os, S3.below.tape, S3.below.output, S3.below.size, S3.below.block⟩⟩
  refine (zz_ok _ (0 + (a + b)) c _ _ _ S4.c1 S4.f1 (by omega)).mono ?_
  rintro e w5 ⟨rfl, hA4⟩
  have S5 := S4.step1 hA4
  go_wp2_with fail
  refine (zz_ok _ (0 + a + b) c _ _ _ S5.c2 S5.f2 (by omega)).mono ?_
  rintro e w6 ⟨rfl, hA5⟩
  have S6 := S5.step2 hA5
  go_wp2_with fail
  go_quiet (fail)
  go_wp2_with fail
  go_ret
  exact ⟨rfl, ⟨S6.below.os, S6.below.tape, S6.below.output, S6.below.size, S6.below.block⟩⟩

set_option maxHeartbeats 2000000 in
set_option maxRecDepth 100000 in
theorem law_yn_c (F : Interp) (a b c : Nat) (w : World) (hF : F.answers w.tape) (ha : a ≤ 65536) (hb : b ≤ 65536) (hc : c ≤ 65536) (hn : a + b < c) (hs : a + b ≤ 65536) (hs2 : 65536 < a + b + c) :
    Calls Tryf.prog 9 #[.int .u32 a, .int .u32 b, .int .u32 c] w fun e w' => e = .returned (.bool true) ∧ Below w.heap.size w w' := by
  obtain ⟨i0, hi0, hz0, hz1, hz2⟩ := info_parts Tryf.info21
  have HF : Hid (F.answers w.tape) := hF
  clear hF
  go_enter Tryf.func9, Tryf.ntmps9
  go_wp2_with (at_make; refine wpList_make_full _ rfl _ _ 38 rfl w.heap.size 21 i0 (.int .i32 0) 1 Tryf.underlying38 hi0 hz0 hz1 .i64 .i64 _ _ (2 * c) rfl rfl (by simp) (by simp) (by rw [hz2]; omega) (by unfold maxLen; omega) (Nat.le_refl _) ?_; intro w1 hown1 hg1)
  have S0 := St.start hg1 #[.string ⟨#[]⟩, .int .i64 0, .slice none 0 0, .int .i64 0, .int .i64 0, .int .i64 0, .int .i64 0, .int .i64 0] #[.string ⟨#[]⟩, .int .i64 0, .slice none 0 0, .int .i64 0, .int .i64 0, .int .i64 0, .int .i64 0, .int .i64 0] 42 rfl rfl
  refine (zz_ok _ 0 (a + b) _ _ _ S0.c1 S0.f1 (by omega)).mono ?_
  rintro e w2 ⟨rfl, hA1⟩
  have S1 := S0.step1 hA1
  clear hown1 hg1
  go_wp2_with fail
  refine (zz_ok _ 0 a _ _ _ S1.c2 S1.f2 (by omega)).mono ?_
  rintro e w3 ⟨rfl, hA2⟩
  have S2 := S1.step2 hA2
  go_wp2_with fail
  refine (zz_ok _ (0 + a) b _ _ _ S2.c2 S2.f2 (by omega)).mono ?_
  rintro e w4 ⟨rfl, hA3⟩
  have S3 := S2.step2 hA3
  go_wp2_with fail
  go_quiet (fail)
  go_wp2_with fail
  have S4 : St w (w4.drewN nq) _ _ _ _ := ⟨S3.c1, S3.f1, S3.c2, S3.f2, S3.ne, S3.b1, S3.b2, ⟨S3.below.os, S3.below.tape, S3.below.output, S3.below.size, S3.below.block⟩⟩
  refine (zz_no F _ (0 + (a + b)) c _ (S4.ans HF.out) _ _ S4.c1 S4.f1 (by omega) (by omega)).mono ?_
  rintro e w5 ⟨⟨ad4, rfl⟩, hA4⟩
  have S5 := S4.step1 hA4
  go_wp2_with fail
  refine (zz_no F _ (0 + a + b) c _ (S5.ans HF.out) _ _ S5.c2 S5.f2 (by omega) (by omega)).mono ?_
  rintro e w6 ⟨⟨ad5, rfl⟩, hA5⟩
  have S6 := S5.step2 hA5
  go_wp2_with fail
  go_quiet (fail)
  go_wp2_with fail
  go_ret
  exact ⟨rfl, ⟨S6.below.os, S6.below.tape, S6.below.output, S6.below.size, S6.below.block⟩⟩

theorem law_calls (F : Interp) (a b c : Nat) (w : World) (hF : F.answers w.tape) :
    Calls Tryf.prog 9 #[.int .u32 a, .int .u32 b, .int .u32 c] w fun e w' => e = .returned (.bool true) ∧ Below w.heap.size w w' := by
  by_cases h : a ≤ 65536 ∧ b ≤ 65536 ∧ c ≤ 65536
  · obtain ⟨ha, hb, hc⟩ := h
    by_cases hn : c ≤ a + b
    · by_cases h1 : a + b ≤ 65536
      · by_cases h2 : a + b + c ≤ 65536
        · exact law_yy_s F a b c w hF ha hb hc hn h2
        · exact law_yn_s F a b c w hF ha hb hc hn h1 (by omega)
      · exact law_nn_s F a b c w hF ha hb hc hn (by omega)
    · by_cases h2 : a + b + c ≤ 65536
      · exact law_yy_c F a b c w hF ha hb hc (by omega) h2
      · exact law_yn_c F a b c w hF ha hb hc (by omega) (by omega) (by omega)
  · refine (law_early a b c w h).mono ?_
    rintro e w' ⟨rfl, rfl⟩
    exact ⟨rfl, Below.refl _ _⟩
end Go.Proofs.Qxb6002343aFmt
