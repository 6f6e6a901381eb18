import Derived.Test.Qxb6615769aArrEq
import Derived.RowKit3
namespace Go.Proofs.Qxb6615769a
open Go.RowKit
theorem law3 (a b lo hi : Int) (h : IsPair a b lo hi) (w : World) :
    Calls Try.prog 3 #[.int .i64 a, .int .i64 b] w fun e w' => e = .returned (.bool true) ∧ Grown w w' := by
  have HH : Hid (IsPair a b lo hi) := h
  have HS : Hid (sameB lo hi a b = true) := h.same
  have hle := h.le
  clear h
  have hq := neqArr lo hi lo hi
  simp only [beq_self_eq_true, Bool.and_self, Bool.not_true] at hq
  go_enter Try.func3, Try.ntmps3
  go_wp2_with fail
  refine (unord a b lo hi HH.out _).mono ?_
  rintro e w' ⟨rfl, rfl⟩
  go_wp2_with fail
  refine (unord b a lo hi HH.out.swap _).mono ?_
  rintro e w' ⟨rfl, rfl⟩
  go_wp2_with fail
  refine (same lo hi a b _).mono ?_
  rintro e w' ⟨rfl, rfl⟩
  rw [HS.out]
  go_wp2
  go_ret
  exact ⟨rfl, by repeat (first | exact Grown.refl _ | apply Grown.drew | apply Grown.alloc)⟩
theorem law4 (a b c d lo hi lo' hi' : Int) (h : IsPair a b lo hi) (h' : IsPair c d lo' hi') (w : World) :
    Calls Try.prog 4 #[.int .i64 a, .int .i64 b, .int .i64 c, .int .i64 d] w fun e w' => e = .returned (.bool true) ∧ Grown w w' := by
  have HH : Hid (IsPair a b lo hi) := h
  have HH' : Hid (IsPair c d lo' hi') := h'
  have hq := eqlArr lo hi lo' hi'
  have hb : (lo == lo' && hi == hi') = sameB a b c d := by
    rw [Bool.eq_iff_iff, ← h.same_iff h']
    simp
  rw [hb] at hq
  clear h h' hb
  generalize hs : sameB a b c d = sB at hq
  have HSB : Hid (sameB a b c d = sB) := hs
  clear hs
  go_enter Try.func4, Try.ntmps4
  go_wp2_with fail
  refine (same a b c d _).mono ?_
  rintro e w' ⟨rfl, rfl⟩
  rw [HSB.out]
  go_wp2_with fail
  refine (unord a b lo hi HH.out _).mono ?_
  rintro e w' ⟨rfl, rfl⟩
  go_wp2_with fail
  refine (unord c d lo' hi' HH'.out _).mono ?_
  rintro e w' ⟨rfl, rfl⟩
  go_wp2
  go_ret
  refine ⟨?_, by repeat (first | exact Grown.refl _ | apply Grown.drew | apply Grown.alloc)⟩
  cases sB <;> rfl
end Go.Proofs.Qxb6615769a
