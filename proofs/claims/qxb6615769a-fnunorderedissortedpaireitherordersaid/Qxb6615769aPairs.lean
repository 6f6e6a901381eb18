import Derived.Test.Qxb6615769aProg
import Derived.WalkKit
import Derived.WalkLawsBesides
namespace Go.Proofs.Qxb6615769a
open Go.RowKit

/-- lo, hi: a and b, the lesser first. -/
def IsPair (a b lo hi : Int) : Prop := (a ≤ b ∧ lo = a ∧ hi = b) ∨ (b < a ∧ lo = b ∧ hi = a)

theorem unordIn (a b lo hi : Int) (h : IsPair a b lo hi) (w : World) :
    Calls Try.prog 18 #[.int .i64 a, .int .i64 b] w fun e w' => e = .returned (.agg #[.int .i64 lo, .int .i64 hi]) ∧ w' = w.alloc (.cells #[.int .i64 lo, .int .i64 hi] 22) := by
  rcases h with ⟨h, rfl, rfl⟩ | ⟨h, rfl, rfl⟩
  · rcases Int.lt_or_eq_of_le h with h' | rfl
    · clear h
      go_enter Try.func18, Try.ntmps18
      go_wp2
      exact bodyPost_ret (v := .agg #[.int .i64 lo, .int .i64 hi]) (by simp [results, Try.results18, go_sem]) rfl ⟨rfl, rfl⟩
    · go_enter Try.func18, Try.ntmps18
      go_wp2
      all_goals exact bodyPost_ret (v := .agg #[.int .i64 lo, .int .i64 lo]) (by simp [results, Try.results18, go_sem]) rfl ⟨rfl, rfl⟩
  · go_enter Try.func18, Try.ntmps18
    go_wp2
    exact bodyPost_ret (v := .agg #[.int .i64 lo, .int .i64 hi]) (by simp [results, Try.results18, go_sem]) rfl ⟨rfl, rfl⟩

theorem unord (a b lo hi : Int) (h : IsPair a b lo hi) (w : World) :
    Calls Try.prog 9 #[.int .i64 a, .int .i64 b] w fun e w' => e = .returned (.agg #[.int .i64 lo, .int .i64 hi]) ∧ w' = (w.alloc (.cells #[.int .i64 lo, .int .i64 hi] 22)).alloc (.cells #[.int .i64 lo, .int .i64 hi] 22) := by
  have HH : Hid (IsPair a b lo hi) := h
  clear h
  go_enter Try.func9, Try.ntmps9
  go_wp2_with fail
  refine (unordIn a b lo hi HH.out _).mono ?_
  rintro e w' ⟨rfl, rfl⟩
  go_wp2
  exact bodyPost_ret (v := .agg #[.int .i64 lo, .int .i64 hi]) (by simp [results, Try.results9, go_sem]) rfl ⟨rfl, rfl⟩

/-- Do (a, b) and (c, d) hold the same two, in either order? -/
def sameB (a b c d : Int) : Bool := (a == c && b == d) || (a == d && b == c)

theorem same (a b c d : Int) (w : World) :
    Calls Try.prog 10 #[.int .i64 a, .int .i64 b, .int .i64 c, .int .i64 d] w fun e w' => e = .returned (.bool (sameB a b c d)) ∧ w' = w := by
  cases h1 : (a == c)
  all_goals
    cases h2 : (b == d)
    all_goals
      cases h3 : (a == d)
      all_goals
        cases h4 : (b == c)
        all_goals
          have H1 : Hid _ := h1
          have H2 : Hid _ := h2
          have H3 : Hid _ := h3
          have H4 : Hid _ := h4
          go_enter Try.func10, Try.ntmps10
          go_wp2
          go_ret
          refine ⟨?_, rfl⟩
          unfold sameB
          rw [H1.out, H2.out, H3.out, H4.out]
          rfl

theorem IsPair.same_iff {a b c d lo hi lo' hi' : Int} (h : IsPair a b lo hi) (h' : IsPair c d lo' hi') : (lo = lo' ∧ hi = hi') ↔ sameB a b c d = true := by
  unfold sameB
  simp only [Bool.or_eq_true, Bool.and_eq_true, beq_iff_eq]
  rcases h with ⟨_, rfl, rfl⟩ | ⟨_, rfl, rfl⟩ <;> rcases h' with ⟨_, rfl, rfl⟩ | ⟨_, rfl, rfl⟩ <;> omega
theorem IsPair.swap {a b lo hi : Int} (h : IsPair a b lo hi) : IsPair b a lo hi := by
  unfold IsPair at *
  omega
theorem IsPair.le {a b lo hi : Int} (h : IsPair a b lo hi) : lo ≤ hi := by
  unfold IsPair at *
  omega
theorem IsPair.same {a b lo hi : Int} (h : IsPair a b lo hi) : sameB lo hi a b = true := by
  unfold sameB
  simp only [Bool.or_eq_true, Bool.and_eq_true, beq_iff_eq]
  unfold IsPair at h
  omega
theorem pair_of (a b : Int) : ∃ lo hi, IsPair a b lo hi := by
  by_cases h : a ≤ b
  · exact ⟨a, b, .inl ⟨h, rfl, rfl⟩⟩
  · exact ⟨b, a, .inr ⟨by omega, rfl, rfl⟩⟩
end Go.Proofs.Qxb6615769a
