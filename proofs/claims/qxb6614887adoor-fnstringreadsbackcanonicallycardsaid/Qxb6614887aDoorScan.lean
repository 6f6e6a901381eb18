import Derived.Test.Qxb6614887aDoorProg
import Derived.WalkKit
import Derived.WalkSpells
import Derived.BigQuiet
namespace Go.Proofs.Qxb6614887aDoor
open Go.RowKit

/-- The number that a row of decimal digits says. -/
def val (l : List UInt8) : Nat := l.foldl (fun v c => v * 10 + (c.toNat - 48)) 0
theorem val_snoc (l : List UInt8) (c : UInt8) : val (l ++ [c]) = val l * 10 + (c.toNat - 48) := by unfold val; rw [List.foldl_append]; rfl
theorem take_snoc (s : ByteArray) (k : Nat) (h : k < s.size) : s.data.toList.take (k + 1) = s.data.toList.take k ++ [s[k]] := by
  rw [List.take_succ_eq_append_getElem (by simpa using h)]; rfl
theorem val_lt (s : ByteArray) (hd : ∀ j (h : j < s.size), 48 ≤ (s[j].toNat : Int) ∧ (s[j].toNat : Int) ≤ 57) : ∀ k, k ≤ s.size → val (s.data.toList.take k) < 10 ^ k
  | 0, _ => by simp [val]
  | k + 1, h => by
    have ih := val_lt s hd k (by omega)
    have := hd k (by omega)
    rw [take_snoc s k (by omega), val_snoc, Nat.pow_succ]
    omega

theorem pow_le15 (k : Nat) (h : k ≤ 14) : 10 ^ k ≤ 100000000000000 := by
  have : (10 : Nat) ^ k ≤ 10 ^ 14 := Nat.pow_le_pow_right (by omega) h
  simpa using this

set_option maxRecDepth 100000 in
set_option maxHeartbeats 1000000 in
theorem split_any (t : ByteArray) (p : Nat) (hl : t.size ≤ 1000) (hp : p < t.size) (hat : (t[p].toNat : Int) = 44)
    (hno : ∀ j (h : j < t.size), j ≠ p → ((t[j].toNat : Int) == 44) = false) (w : World) :
    Calls Tryd.prog 6 #[.string t] w fun e w' => e = .returned (.tuple #[.string (t.extract 0 p), .string (t.extract (p + 1) t.size), .bool true]) ∧ ∃ n, w' = w.drewN n := by
  have HAT : Hid ((t[p].toNat : Int) = 44) := hat
  have HNO : Hid (∀ j (h : j < t.size), j ≠ p → ((t[j].toNat : Int) == 44) = false) := hno
  clear hat hno
  go_enter Tryd.func6, Tryd.ntmps6
  go_wp2
  go_loop [5, 6] (fun k i => ∃ j : Nat, j ≤ t.size ∧ i = .int .i64 j ∧ k = .int .i64 (if j ≤ p then -1 else (p : Int))) (fun _ i => t.size - (intOf i).toNat)
  case atStart => exact ⟨0, Nat.zero_le _, rfl, rfl⟩
  case round =>
    obtain ⟨j, hj, rfl, rfl⟩ := hrel
    by_cases hlt : j < t.size
    · rcases Nat.lt_trichotomy j p with hjp | hjp | hjp
      · have hc := HNO.out j hlt (by omega)
        rw [if_pos (by omega)]
        go_wp2
        go_round
        case rel => exact ⟨j + 1, by omega, by go_num, by rw [if_pos (by omega)]⟩
        case measure => simp [intOf]; omega
      · subst hjp
        have hc : ((t[j].toNat : Int) == 44) = true := by rw [HAT.out]; rfl
        rw [if_pos (by omega)]
        go_wp2
        go_round
        case rel => exact ⟨j + 1, by omega, by go_num, by rw [if_neg (by omega)]⟩
        case measure => simp [intOf]; omega
      · have hc := HNO.out j hlt (by omega)
        rw [if_neg (by omega)]
        go_wp2
        go_round
        case rel => exact ⟨j + 1, by omega, by go_num, by rw [if_neg (by omega)]⟩
        case measure => simp [intOf]; omega
    · rw [if_neg (by omega)]
      go_wp2
      go_quiet (fail)
      go_wp2
      go_ret3
      exact ⟨rfl, _, rfl⟩

set_option maxRecDepth 100000 in
set_option maxHeartbeats 1000000 in
theorem digits_any (t : ByteArray) (h1 : 1 ≤ t.size) (h15 : t.size ≤ 15) (hz : 1 < t.size → ((t[0].toNat : Int) == 48) = false)
    (hd : ∀ j (h : j < t.size), 48 ≤ (t[j].toNat : Int) ∧ (t[j].toNat : Int) ≤ 57) (w : World) :
    Calls Tryd.prog 7 #[.string t] w fun e w' => e = .returned (.tuple #[.int .u64 (val t.data.toList), .bool true]) ∧ w' = w := by
  have HD : Hid (∀ j (h : j < t.size), 48 ≤ (t[j].toNat : Int) ∧ (t[j].toNat : Int) ≤ 57) := hd
  clear hd
  have h00 : ((t.size : Int) == 0) = false := beq_eq_false_iff_ne.2 (by omega)
  by_cases hone : 1 < t.size
  all_goals
    first | have hz' := hz hone | skip
    clear hz
    go_enter Tryd.func7, Tryd.ntmps7
    go_wp2
    go_loop [4, 5, 6] (fun v i _ => ∃ j : Nat, j ≤ t.size ∧ i = .int .i64 j ∧ v = .int .u64 (val (t.data.toList.take j))) (fun _ i _ => t.size - (intOf i).toNat)
    case atStart => exact ⟨0, Nat.zero_le _, rfl, rfl⟩
    case round =>
      obtain ⟨j, hj, rfl, rfl⟩ := hrel
      by_cases hlt : j < t.size
      · have hc := HD.out j hlt
        have hv := val_lt t HD.out j hj
        have hp := pow_le15 j (by omega)
        have hv' : val (t.data.toList.take j) < 100000000000000 := by omega
        have HS : Hid (val (t.data.toList.take (j + 1)) = val (t.data.toList.take j) * 10 + (t[j].toNat - 48)) := by
          show _ = _; rw [take_snoc t j hlt, val_snoc]
        clear hv hp
        go_wp2
        go_round
        case rel => exact ⟨j + 1, by omega, by go_num, by rw [HS.out]; go_num⟩
        case measure => simp [intOf]; omega
      · go_wp2
        go_ret2
        refine ⟨?_, rfl⟩
        have e : t.data.toList.take j = t.data.toList := List.take_of_length_le (by simp; omega)
        rw [e]
        rfl
end Go.Proofs.Qxb6614887aDoor
