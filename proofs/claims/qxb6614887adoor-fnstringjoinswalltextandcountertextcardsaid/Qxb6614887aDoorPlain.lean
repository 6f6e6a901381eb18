import Derived.Test.Qxb6614887aDoorScan
import Derived.Test.Qxb6614887aDoorStamp
namespace Go.Proofs.Qxb6614887aDoor
open Go.RowKit Go.Lib

theorem ofNat48 (d : Nat) (h : d < 10) : (UInt8.ofNat (48 + d)).toNat = 48 + d := by
  rw [UInt8.toNat_ofNat']; omega

theorem dd_step {u : Nat} (h : ¬ u < 10) : decDigits u = decDigits (u / 10) ++ [UInt8.ofNat (48 + u % 10)] := by
  rw [decDigits, dif_neg h]

theorem dd_digit (u : Nat) : ∀ c ∈ decDigits u, 48 ≤ c.toNat ∧ c.toNat ≤ 57 := by
  induction u using Nat.strongRecOn with
  | _ u ih =>
    by_cases h : u < 10
    · rw [decDigits_one h]
      intro c hc
      rw [List.mem_singleton] at hc
      subst hc
      rw [ofNat48 u h]; omega
    · rw [dd_step h]
      intro c hc
      rcases List.mem_append.1 hc with hc | hc
      · exact ih (u / 10) (by omega) c hc
      · rw [List.mem_singleton] at hc
        subst hc
        rw [ofNat48 _ (by omega)]; omega

theorem dd_val (u : Nat) : val (decDigits u) = u := by
  induction u using Nat.strongRecOn with
  | _ u ih =>
    by_cases h : u < 10
    · rw [decDigits_one h]
      show 0 * 10 + ((UInt8.ofNat (48 + u)).toNat - 48) = u
      rw [ofNat48 u h]; omega
    · rw [dd_step h, val_snoc, ih (u / 10) (by omega), ofNat48 _ (by omega)]; omega

theorem dd_head (u : Nat) (h1 : 1 ≤ u) : ∃ c l, decDigits u = c :: l ∧ 49 ≤ c.toNat := by
  induction u using Nat.strongRecOn with
  | _ u ih =>
    by_cases h : u < 10
    · rw [decDigits_one h]
      exact ⟨_, _, rfl, by rw [ofNat48 u h]; omega⟩
    · obtain ⟨c, l, e, hc⟩ := ih (u / 10) (by omega) (by omega)
      rw [dd_step h, e]
      exact ⟨c, _, rfl, hc⟩

theorem dd_len_pos (u : Nat) : 1 ≤ (decDigits u).length := by rw [decDigits_length]; exact nDigits_pos u
theorem dd_len_one (u : Nat) (h : u < 10) : (decDigits u).length = 1 := by rw [decDigits_length, nDigits_small h]
theorem nd_le (k : Nat) : ∀ u, u < 10 ^ (k + 1) → nDigits u ≤ k + 1 := by
  induction k with
  | zero => intro u h; rw [nDigits_small (by simpa using h)]; exact Nat.le_refl _
  | succ k ih =>
    intro u h
    by_cases h' : u < 10
    · rw [nDigits_small h']; omega
    · rw [nDigits_big h']
      have := ih (u / 10) (by rw [Nat.pow_succ] at h; omega)
      omega
theorem dd_len15 (u : Nat) (h : u < 1000000000000000) : (decDigits u).length ≤ 15 := by
  rw [decDigits_length]; exact nd_le 14 u (by simpa using h)

theorem ba_size (l : List UInt8) : (⟨l.toArray⟩ : ByteArray).size = l.length := by simp [ByteArray.size]
theorem ba_at (l : List UInt8) (j : Nat) (h : j < (⟨l.toArray⟩ : ByteArray).size) : (⟨l.toArray⟩ : ByteArray)[j] = l[j]'(by rw [ba_size] at h; exact h) := by
  rfl

theorem digitsL (u : Nat) (hu : u < 1000000000000000) (w : World) :
    Calls Tryd.prog 7 #[.string ⟨(decDigits u).toArray⟩] w fun e w' => e = .returned (.tuple #[.int .u64 u, .bool true]) ∧ w' = w := by
  have hd : ∀ j (h : j < (⟨(decDigits u).toArray⟩ : ByteArray).size), 48 ≤ ((⟨(decDigits u).toArray⟩ : ByteArray)[j].toNat : Int) ∧ ((⟨(decDigits u).toArray⟩ : ByteArray)[j].toNat : Int) ≤ 57 := fun j h => by
    rw [ba_at]
    have := dd_digit u _ (List.getElem_mem (by rw [ba_size] at h; exact h : j < (decDigits u).length))
    omega
  have hz : 1 < (⟨(decDigits u).toArray⟩ : ByteArray).size → ∀ h0 : 0 < (⟨(decDigits u).toArray⟩ : ByteArray).size, (((⟨(decDigits u).toArray⟩ : ByteArray)[0].toNat : Int) == 48) = false := fun h h0 => by
    rw [ba_at]
    have h10 : ¬ u < 10 := fun h' => by rw [ba_size, dd_len_one u h'] at h; omega
    obtain ⟨c, l, e, hc⟩ := dd_head u (by omega)
    have : (decDigits u)[0]'(dd_len_pos u) = c := by simp [e]
    rw [this]
    exact beq_eq_false_iff_ne.2 (by omega)
  refine (digits_any ⟨(decDigits u).toArray⟩ (by rw [ba_size]; exact dd_len_pos u) (by rw [ba_size]; exact dd_len15 u hu) (fun h => hz h (by omega)) hd w).mono ?_
  rintro e w' ⟨rfl, rfl⟩
  refine ⟨?_, rfl⟩
  have : val (⟨(decDigits u).toArray⟩ : ByteArray).data.toList = u := dd_val u
  rw [this]

theorem splitL (x y : List UInt8) (hx : ∀ c ∈ x, c.toNat ≠ 44) (hy : ∀ c ∈ y, c.toNat ≠ 44) (hl : x.length + y.length ≤ 900) (w : World) :
    Calls Tryd.prog 6 #[.string ⟨(x ++ 44 :: y).toArray⟩] w fun e w' => e = .returned (.tuple #[.string ⟨x.toArray⟩, .string ⟨y.toArray⟩, .bool true]) ∧ ∃ n, w' = w.drewN n := by
  have hsz : (⟨(x ++ 44 :: y).toArray⟩ : ByteArray).size = x.length + y.length + 1 := by rw [ba_size]; simp; omega
  have hp : x.length < (⟨(x ++ 44 :: y).toArray⟩ : ByteArray).size := by omega
  refine (split_any ⟨(x ++ 44 :: y).toArray⟩ x.length (by omega) hp ?_ ?_ w).mono ?_
  · rw [ba_at]; simp
  · intro j h hj
    rw [ba_at]
    apply beq_eq_false_iff_ne.2
    rw [List.getElem_append]
    split
    · have := hx _ (List.getElem_mem (by assumption)); omega
    · rename_i h'
      rw [List.getElem_cons]
      split
      · omega
      · have := hy _ (List.getElem_mem (by rw [hsz] at h; omega : j - x.length - 1 < y.length)); omega
  · rintro e w' ⟨rfl, h⟩
    refine ⟨?_, h⟩
    have e1 : (⟨(x ++ 44 :: y).toArray⟩ : ByteArray).extract 0 x.length = ⟨x.toArray⟩ := by
      apply ByteArray.ext; simp
    have e2 : (⟨(x ++ 44 :: y).toArray⟩ : ByteArray).extract (x.length + 1) (⟨(x ++ 44 :: y).toArray⟩ : ByteArray).size = ⟨y.toArray⟩ := by
      apply ByteArray.ext; rw [hsz]; simp
    rw [e1, e2]
end Go.Proofs.Qxb6614887aDoor
