import Derived.Test.Qxb6614887aDoorPlain
import Derived.RowKit3
namespace Go.Proofs.Qxb6614887aDoor
open Go.RowKit Go.Lib

theorem not44 (u : Nat) : ∀ c ∈ decDigits u, c.toNat ≠ 44 := fun c hc => by have := dd_digit u c hc; omega

theorem joinBits (a b s : Nat) (h1 : a * 65536 + b ≤ s) (h2 : s ≤ a * 65536 + b) (hs : s < 18446744073709551616) (hb : b < 65536) :
    bits .or .u64 ((a : Int) * 65536) (b : Int) = (s : Int) := by
  rw [u64_or _ _ (by omega) (by omega) (by omega) (by omega), nat_join 16 _ _ (by simp only [Nat.reducePow]; omega) (by simp only [Nat.reducePow]; omega)]
  omega

set_option maxRecDepth 100000 in
set_option maxHeartbeats 1000000 in
theorem law3 (s a b : Nat) (hs : s < 18446744073709551616) (h1 : a * 65536 + b ≤ s) (h2 : s ≤ a * 65536 + b) (hb : b < 65536) (w : World)
    (htab : Lib.TabBelow Tryd.prog w.heap.size w powName .u64 Lib.pow10Tab) :
    Calls Tryd.prog 3 #[.int .u64 s] w fun e w' => e = .returned (.bool true) ∧ Below w.heap.size w w' := by
  have la := len20 a (by omega)
  have lb := len20 b (by omega)
  go_enter Tryd.func3, Tryd.ntmps3
  go_wp2_with fail
  refine (stampString s a b hs h1 h2 hb _ _ (Nat.le_refl _) htab).mono ?_
  rintro e w1 ⟨rfl, b1⟩
  go_wp2_with fail
  refine (splitL (decDigits a) (decDigits b) (not44 a) (not44 b) (by omega) _).mono ?_
  rintro e w2 ⟨rfl, n, rfl⟩
  go_wp2_with fail
  refine (digitsL a (by omega) _).mono ?_
  rintro e w2 ⟨rfl, rfl⟩
  go_wp2_with fail
  refine (digitsL b (by omega) _).mono ?_
  rintro e w2 ⟨rfl, rfl⟩
  have ha' : ¬ (281474976710656 : Int) ≤ (a : Int) := by omega
  have hb' : ¬ (65536 : Int) ≤ (b : Int) := by omega
  have hg1 : decide ((281474976710656 : Int) ≤ (a : Int)) = false := decide_eq_false ha'
  have hg2 : decide ((65536 : Int) ≤ (b : Int)) = false := decide_eq_false hb'
  clear la lb
  go_wp2
  go_ret
  refine ⟨?_, b1.trans ⟨rfl, rfl, rfl, Nat.le_refl _, fun _ _ => rfl⟩⟩
  rw [joinBits a b s h1 h2 hs hb]
  simp

theorem toList_mk (l : List UInt8) : (⟨l.toArray⟩ : ByteArray).toList = l := by
  simp

theorem mask_hi (x : Nat) (hx : x < 18446744073709551616) : x &&& (18446744073709551615 - 65535) = x / 65536 * 65536 := by
  have e : 18446744073709551615 - 65535 = (2 ^ 48 - 1) * 2 ^ 16 := by decide
  rw [e, show (65536 : Nat) = 2 ^ 16 from rfl]
  apply Nat.eq_of_testBit_eq
  intro i
  rw [Nat.testBit_and, Nat.testBit_mul_two_pow, Nat.testBit_mul_two_pow, Nat.testBit_two_pow_sub_one, Nat.testBit_div_two_pow]
  by_cases h : 16 ≤ i
  · by_cases h2 : i < 64
    · simp [h, show i - 16 + 16 = i by omega]; omega
    · have : x.testBit i = false := Nat.testBit_lt_two_pow (Nat.lt_of_lt_of_le hx (by
        have : (2 : Nat) ^ 64 ≤ 2 ^ i := Nat.pow_le_pow_right (by omega) (by omega)
        simpa using this))
      simp [this, show i - 16 + 16 = i by omega]
  · simp [h]

theorem lowBits (t c d : Nat) (h1 : c * 65536 + d ≤ t) (h2 : t ≤ c * 65536 + d) (ht : t < 18446744073709551616) (hd : d < 65536) : bits .and .u64 (t : Int) 65535 = (d : Int) := by
  rw [u64_and _ _ (by omega) (by omega) (by omega) (by omega)]
  have : (t : Int).toNat &&& (65535 : Int).toNat = t % 65536 := nat_mask16 t
  rw [this]; omega
theorem highBits (s a b k : Nat) (h1 : a * 65536 + b ≤ s) (h2 : s ≤ a * 65536 + b) (hs : s < 18446744073709551616) (hb : b < 65536) (k1 : a * 65536 ≤ k) (k2 : k ≤ a * 65536) : bits .andNot .u64 (s : Int) 65535 = (k : Int) := by
  rw [u64_andNot _ _ (by omega) (by omega) (by omega) (by omega)]
  have : (s : Int).toNat &&& (18446744073709551615 - (65535 : Int).toNat) = s / 65536 * 65536 := mask_hi s hs
  rw [this]; omega
theorem orBits (a d k u : Nat) (k1 : a * 65536 ≤ k) (k2 : k ≤ a * 65536) (h1 : a * 65536 + d ≤ u) (h2 : u ≤ a * 65536 + d) (hu : u < 18446744073709551616) (hd : d < 65536) : bits .or .u64 (k : Int) (d : Int) = (u : Int) := by
  have := joinBits a d u h1 h2 hu hd
  rw [← this]
  congr 1
  omega

set_option maxRecDepth 100000 in
set_option maxHeartbeats 1000000 in
theorem law4 (s a b t c d k u : Nat) (hs : s < 18446744073709551616) (h1 : a * 65536 + b ≤ s) (h2 : s ≤ a * 65536 + b) (hb : b < 65536)
    (ht : t < 18446744073709551616) (h3 : c * 65536 + d ≤ t) (h4 : t ≤ c * 65536 + d) (hd : d < 65536)
    (k1 : a * 65536 ≤ k) (k2 : k ≤ a * 65536) (h5 : a * 65536 + d ≤ u) (h6 : u ≤ a * 65536 + d) (w : World)
    (htab : Lib.TabBelow Tryd.prog w.heap.size w powName .u64 Lib.pow10Tab) :
    Calls Tryd.prog 4 #[.int .u64 s, .int .u64 t] w fun e w' => e = .returned (.bool true) ∧ Below w.heap.size w w' := by
  have hu : u < 18446744073709551616 := by omega
  have la := len20 a (by omega)
  have lb := len20 b (by omega)
  have lc := len20 c (by omega)
  have ld := len20 d (by omega)
  have e1 := lowBits t c d h3 h4 ht hd
  have e2 := highBits s a b k h1 h2 hs hb k1 k2
  have e3 := orBits a d k u k1 k2 h5 h6 hu hd
  go_enter Tryd.func4, Tryd.ntmps4
  go_wp2_with fail
  refine (stampString s a b hs h1 h2 hb _ _ (Nat.le_refl _) htab).mono ?_
  rintro e w1 ⟨rfl, b1⟩
  go_wp2_with fail
  refine (stampString t c d ht h3 h4 hd _ _ b1.size (htab.on b1)).mono ?_
  rintro e w2 ⟨rfl, b2⟩
  have b2' := b1.trans (b2.mono b1.size)
  clear b1 b2
  go_wp2_with fail
  refine (stampString u a d hu h5 h6 hd _ _ b2'.size (htab.on b2')).mono ?_
  rintro e w3 ⟨rfl, b3⟩
  have b3' := b2'.trans (b3.mono b2'.size)
  clear b2' b3
  go_wp2_with fail
  refine (splitL (decDigits a) (decDigits b) (not44 a) (not44 b) (by omega) _).mono ?_
  rintro e w2 ⟨rfl, n, rfl⟩
  go_wp2_with fail
  refine (splitL (decDigits c) (decDigits d) (not44 c) (not44 d) (by omega) _).mono ?_
  rintro e w2 ⟨rfl, n2, rfl⟩
  go_wp2_with fail
  refine (digitsL d (by omega) _).mono ?_
  rintro e w2 ⟨rfl, rfl⟩
  go_wp2
  go_ret
  refine ⟨?_, b3'.trans ⟨rfl, rfl, rfl, Nat.le_refl _, fun _ _ => rfl⟩⟩
  rw [joined, toList_mk]
  simp
end Go.Proofs.Qxb6614887aDoor
