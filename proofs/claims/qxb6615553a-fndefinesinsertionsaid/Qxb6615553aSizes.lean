import Derived.Test.Qxb6615553aFind
namespace Go.Proofs.Qxb6615553a
open Go.RowKit

def BoolEnd (w : World) (e : Ending) (w' : World) : Prop := ∃ r : Bool, e = .returned (.bool r) ∧ w' = w
def BigEnd (n : Nat) (w : World) (e : Ending) (w' : World) : Prop := ∃ r : Bool, e = .returned (.bool r) ∧ (r = false → n ≤ 65536) ∧ w' = w

set_option maxRecDepth 100000 in
set_option maxHeartbeats 2000000 in
theorem bytes_any (a : Option Addr) (n c : Nat) (ss : List ByteArray) (o p q : ByteArray) (at' : Int) (w : World) (h : SRow w a n ss) (hn : n ≤ 140737488351232)
    (hz : ∀ j, (ss.getD j ByteArray.empty).size ≤ 140737488351232) (ho : o.size ≤ 140737488351232) (hp : p.size ≤ 140737488351232) (hq : q.size ≤ 140737488351232) :
    Calls Try.prog 4 #[.slice a n c, .string o, .string p, .string q, .int .i64 at'] w (BoolEnd w) := by
  obtain ⟨hl, hc⟩ := h
  have HC : Hid (0 < n → ∃ b off, a = some ⟨b, off, none⟩ ∧ b < w.heap.size ∧ ∀ j, j < n → w.cell? ⟨b, off + j, none⟩ = some (.string (ss.getD j ByteArray.empty))) := hc
  have HZ : Hid (∀ j, (ss.getD j ByteArray.empty).size ≤ 140737488351232) := hz
  clear hl hc hz
  by_cases hbig : 1048576 < n
  · go_enter Try.func4, Try.ntmps4
    go_wp2
    go_ret
    exact ⟨_, rfl, rfl⟩
  · go_enter Try.func4, Try.ntmps4
    go_wp2
    go_loop [11, 12] (fun z i => ∃ j t : Nat, j ≤ n ∧ i = .int .i64 j ∧ z = .int .i64 t ∧ t ≤ 1048576) (fun _ i => n - (intOf i).toNat)
    case atStart => exact ⟨0, n, Nat.zero_le _, rfl, rfl, by omega⟩
    case round =>
      obtain ⟨j, t, hj, rfl, rfl, ht⟩ := hrel
      by_cases hlt : j < n
      · obtain ⟨b, off, rfl, _, hcell⟩ := HC.out (by omega)
        have hcj := hcell j hlt
        have hzj := HZ.out j
        clear hcell
        obtain ⟨s, hs⟩ : ∃ s, s = ss.getD j ByteArray.empty := ⟨_, rfl⟩
        rw [← hs] at hcj hzj
        clear hs
        go_wp2
        all_goals first
          | (go_ret; exact ⟨_, rfl, rfl⟩)
          | (go_round
             case rel => exact ⟨j + 1, t + s.size, by omega, by go_num, by go_num, by omega⟩
             case measure => simp [intOf]; omega)
      · go_wp2
        all_goals (go_ret; exact ⟨_, rfl, rfl⟩)

set_option maxRecDepth 100000 in
set_option maxHeartbeats 2000000 in
theorem tooBig_any (a : Option Addr) (n c : Nat) (ss : List ByteArray) (st : Nat) (w : World) (h : SRow w a n ss) (hn : n ≤ 140737488351232)
    (hz : ∀ j, (ss.getD j ByteArray.empty).size ≤ 140737488351232) (hst : st ≤ 10000000) :
    Calls Try.prog 5 #[.slice a n c, .int .i64 st] w (BigEnd n w) := by
  obtain ⟨hl, hc⟩ := h
  have HC : Hid (0 < n → ∃ b off, a = some ⟨b, off, none⟩ ∧ b < w.heap.size ∧ ∀ j, j < n → w.cell? ⟨b, off + j, none⟩ = some (.string (ss.getD j ByteArray.empty))) := hc
  have HZ : Hid (∀ j, (ss.getD j ByteArray.empty).size ≤ 140737488351232) := hz
  clear hl hc hz
  by_cases hbig : 1048576 < st
  · go_enter Try.func5, Try.ntmps5
    go_wp2
    go_ret
    exact ⟨true, rfl, (fun h => by cases h), rfl⟩
  · go_enter Try.func5, Try.ntmps5
    go_wp2
    go_loop [5, 6] (fun z i => ∃ j t : Nat, j ≤ n ∧ i = .int .i64 j ∧ z = .int .i64 t ∧ t ≤ 1048576 ∧ j * 16 ≤ t) (fun _ i => n - (intOf i).toNat)
    case atStart => exact ⟨0, st, Nat.zero_le _, rfl, rfl, by omega, by omega⟩
    case round =>
      obtain ⟨j, t, hj, rfl, rfl, ht, hjt⟩ := hrel
      by_cases hlt : j < n
      · obtain ⟨b, off, rfl, _, hcell⟩ := HC.out (by omega)
        have hcj := hcell j hlt
        have hzj := HZ.out j
        clear hcell
        obtain ⟨s, hs⟩ : ∃ s, s = ss.getD j ByteArray.empty := ⟨_, rfl⟩
        rw [← hs] at hcj hzj
        clear hs
        go_wp2
        all_goals first
          | (go_ret; exact ⟨true, rfl, (fun h => by cases h), rfl⟩)
          | (go_round
             case rel => exact ⟨j + 1, t + (16 + s.size), by omega, by go_num, by go_num, by omega, by omega⟩
             case measure => simp [intOf]; omega)
      · go_wp2
        go_ret
        exact ⟨false, rfl, (fun _ => by omega), rfl⟩
end Go.Proofs.Qxb6615553a
