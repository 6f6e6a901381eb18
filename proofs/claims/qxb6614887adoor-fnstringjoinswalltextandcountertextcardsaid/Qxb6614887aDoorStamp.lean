import Derived.Test.Qxb6614887aDoorFmt
import Derived.Lib.AppendIntMem
import Derived.Lib.ItoaLen
import Derived.Laws.BitsAllLaws
namespace Go.Proofs.Qxb6614887aDoor
open Go.Shelf Go.RowKit Go.Sort Go.Lib
set_option maxRecDepth 100000 in
theorem wall (s a b : Nat) (hs : s < 18446744073709551616) (h1 : a * 65536 + b ≤ s) (h2 : s ≤ a * 65536 + b) (hb : b < 65536) (w : World) :
    Calls Tryd.prog 9 #[.int .u64 s] w fun e w' => e = .returned (.int .i64 a) ∧ w' = w := by
  go_enter Tryd.func9, Tryd.ntmps9
  go_wp2
  go_ret
  refine ⟨?_, rfl⟩
  have : (s : Int) / 65536 = a := by omega
  rw [this]; rfl
set_option maxRecDepth 100000 in
theorem logical (s a b : Nat) (h1 : a * 65536 + b ≤ s) (h2 : s ≤ a * 65536 + b) (hb : b < 65536) (w : World) :
    Calls Tryd.prog 11 #[.int .u64 s] w fun e w' => e = .returned (.int .u16 b) ∧ w' = w := by
  go_enter Tryd.func11, Tryd.ntmps11
  go_wp2
  go_ret
  refine ⟨?_, rfl⟩
  have : IntKind.u16.wrap (s : Int) = b := by rw [IntKind.wrap_u16]; omega
  rw [this]; rfl
theorem formatIntNat (a : Nat) (ha : a ≤ 9223372036854775807) (w : World)
    (htab : Lib.TabIs Tryd.prog w powName .u64 Lib.pow10Tab) :
    Calls Tryd.prog 8 #[.int .i64 a, .int .i64 10] w fun e w' => e = .returned (.string ⟨(Lib.decDigits a).toArray⟩) ∧ ∃ k os, w' = grow (w.drewN k) os := by
  refine (Tryd.strconv_FormatInt_10 (a : Int) (by omega) (by omega) w htab).mono ?_
  rintro e w' ⟨rfl, h⟩
  exact ⟨by rw [itoa_nonneg], h⟩

theorem len20 (a : Nat) (h : a < 18446744073709551616) : (Lib.decDigits a).length ≤ 20 := by
  rw [decDigits_length]; exact nDigits_le20 a h

theorem joined (x y : List UInt8) : (⟨x.toArray⟩ ++ ⟨#[44]⟩ ++ ⟨y.toArray⟩ : ByteArray) = ⟨(x ++ 44 :: y).toArray⟩ := by
  apply ByteArray.ext
  simp

set_option maxRecDepth 100000 in
theorem stampString (s a b : Nat) (hs : s < 18446744073709551616) (h1 : a * 65536 + b ≤ s) (h2 : s ≤ a * 65536 + b) (hb : b < 65536) (w : World) (B : Nat) (hB : B ≤ w.heap.size)
    (htab : Lib.TabBelow Tryd.prog B w powName .u64 Lib.pow10Tab) :
    Calls Tryd.prog 5 #[.int .u64 s] w fun e w' => e = .returned (.string ⟨(Lib.decDigits a ++ 44 :: Lib.decDigits b).toArray⟩) ∧ Below w.heap.size w w' := by
  have la := len20 a (by omega)
  have lb := len20 b (by omega)
  go_enter Tryd.func5, Tryd.ntmps5
  go_wp2_with fail
  refine (wall s a b hs h1 h2 hb _).mono ?_
  rintro e w1 ⟨rfl, rfl⟩
  go_wp2_with fail
  refine (formatIntNat a (by omega) _ htab.here).mono ?_
  rintro e w2 ⟨rfl, k, os, rfl⟩
  have hb1 := below_grow w1.heap.size w1 (Nat.le_refl _) k os
  go_wp2_with fail
  refine (logical s a b h1 h2 hb _).mono ?_
  rintro e w2 ⟨rfl, rfl⟩
  go_wp2_with fail
  refine (formatUint b (by omega) _ (htab.on (below_grow B w1 hB k os)).here).mono ?_
  rintro e w2 ⟨rfl, k2, os2, rfl⟩
  have hb2 := below_grow w1.heap.size (grow (w1.drewN k) os) hb1.size k2 os2
  go_wp2
  go_ret
  refine ⟨?_, hb1.trans hb2⟩
  rw [← joined]
  rfl
end Go.Proofs.Qxb6614887aDoor
