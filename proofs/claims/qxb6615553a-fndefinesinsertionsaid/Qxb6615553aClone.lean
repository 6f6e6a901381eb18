import Derived.Test.Qxb6615553aFind
namespace Go.Proofs.Qxb6615553a
open Go.RowKit

theorem info9 : (Try.prog.info? 9).map (fun i => (i.zero, i.size, i.bytes)) = some (some (.string ByteArray.empty), 1, 16) := by kernel_rfl

/-- A slice of strings comes back: n of them, 'ss'; nothing that was there has turned. -/
def SliceEnd (n : Nat) (ss : List ByteArray) (w : World) (e : Ending) (w' : World) : Prop :=
  ∃ a' c', e = .returned (.slice a' n c') ∧ SRow w' a' n ss ∧ Below w.heap.size w w'

/-- The cells behind k stores. -/
def filled (ss : List ByteArray) (n k : Nat) : List Value := (List.range n).map fun j => if j < k then .string (ss.getD j ByteArray.empty) else .string ByteArray.empty
theorem filled_zero (ss : List ByteArray) (n : Nat) : filled ss n 0 = (madeCells #[Value.string ByteArray.empty] n).toList := by
  rw [toList_madeCells_one]
  simp [filled, List.eq_replicate_iff]
theorem filled_set (ss : List ByteArray) (n k : Nat) : (filled ss n k).set k (.string (ss.getD k ByteArray.empty)) = filled ss n (k + 1) := by
  apply List.ext_getElem
  · simp [filled]
  · intro j h1 h2
    simp only [filled, List.getElem_set, List.getElem_map, List.getElem_range]
    by_cases e : k = j
    · subst e; simp
    · rw [if_neg e]
      by_cases h : j < k
      · rw [if_pos h, if_pos (by omega)]
      · rw [if_neg h, if_neg (by omega)]
theorem filled_at (ss : List ByteArray) (n k j : Nat) (h : j < n) : (filled ss n k)[j]? = some (if j < k then .string (ss.getD j ByteArray.empty) else .string ByteArray.empty) := by
  simp [filled, h]

theorem srow_of_owns {w : World} {B g n cap : Nat} {ss : List ByteArray} {xs : List Value} (h : w.ownsRow B 9 1 (.slice (some ⟨g, 0, none⟩) n cap) n xs) (hl : ss.length = n)
    (hx : ∀ j, j < n → xs[j]? = some (.string (ss.getD j ByteArray.empty))) : SRow w (some ⟨g, 0, none⟩) n ss :=
  ⟨hl, fun _ => ⟨g, 0, rfl, (h.lt g rfl).2, fun j hj => by
    rw [Nat.zero_add, h.cellAt j (by omega), hx j hj]⟩⟩

set_option maxRecDepth 100000 in
set_option maxHeartbeats 2000000 in
theorem clone_any (a : Option Addr) (n c : Nat) (ss : List ByteArray) (w : World) (h : SRow w a n ss) (hn : n ≤ 65536) (hnil : a = none → n = 0 ∧ c = 0) :
    Calls Try.prog 6 #[.slice a n c] w (SliceEnd n ss w) := by
  have HH : Hid (SRow w a n ss) := h
  have HL : Hid (ss.length = n) := h.1
  have HC : Hid (0 < n → ∃ b off, a = some ⟨b, off, none⟩ ∧ b < w.heap.size ∧ ∀ j, j < n → w.cell? ⟨b, off + j, none⟩ = some (.string (ss.getD j ByteArray.empty))) := h.2
  clear h
  have q22 : ∀ (w : World) (a : Option Addr) (n c n' c' : Nat), (binOp .eql 22 (.slice a n c) (.slice none n' c')).run Try.prog w = .ok (.bool a.isNone) w := fun w a n c n' c' => Lib.run_eql_slice_nil w _ _ a n c n' c' Try.underlying22
  cases a with
  | none =>
    obtain ⟨rfl, rfl⟩ := hnil rfl
    clear HC
    go_enter Try.func6, Try.ntmps6
    go_wp2
    go_ret
    exact ⟨none, 0, rfl, HH.out, Below.refl _ _⟩
  | some ad =>
    clear hnil
    obtain ⟨i0, hi, hz0, hz1, hz2⟩ := info_parts info9
    go_enter Try.func6, Try.ntmps6
    go_wp2_with (at_make; refine wpList_make_full _ rfl _ _ 22 rfl w.heap.size 9 i0 (.string ByteArray.empty) 1 Try.underlying22 hi hz0 hz1 _ _ _ _ n rfl rfl rfl rfl ?b2 ?b3 (Nat.le_refl _) ?_)
    case b2 => rw [hz2]; omega
    case b3 => unfold maxLen; omega
    intro w1 hown hgrow
    rw [← filled_zero ss n] at hown
    have hb1 : Below w.heap.size w w1 := (Below.refl _ _).grown hgrow (Nat.le_refl _) (fun k e => by cases e)
    clear hgrow hi hz0 hz1 hz2
    go_wp2
    go_loopw [4] (fun i wr => ∃ k : Nat, k ≤ n ∧ i = .int .i64 k ∧ wr.ownsRow w.heap.size 9 1 (.slice (some ⟨w.heap.size, 0, none⟩) n n) n (filled ss n k) ∧ Below w.heap.size w wr) (fun i _ => n - (intOf i).toNat)
    case atStart => exact ⟨0, Nat.zero_le _, rfl, hown, hb1⟩
    case round =>
      clear hown hb1
      obtain ⟨k, hk, rfl, hown, hb⟩ := hrel
      by_cases hlt : k < n
      · obtain ⟨b, off, e, hbl, hcell⟩ := HC.out (by omega)
        obtain rfl := Option.some.inj e
        clear e
        have hcj : wr.cell? ⟨b, off + k, none⟩ = some (.string (ss.getD k ByteArray.empty)) := (hb.cell (p := ⟨b, off + k, none⟩) hbl).trans (hcell k hlt)
        clear hcell
        obtain ⟨s, hs⟩ : ∃ s, s = ss.getD k ByteArray.empty := ⟨_, rfl⟩
        rw [← hs] at hcj
        have HS : Hid (s = ss.getD k ByteArray.empty) := hs
        clear hs
        have hold : wr.cell? ⟨w.heap.size, k, none⟩ = some (.string ByteArray.empty) := by
          rw [hown.cellAt k (by omega), filled_at ss n k k hlt, if_neg (by omega)]
        have hfr := hown.frozenAt k
        have R1 := (hown.stored k (.string s)).1
        rw [HS.out, filled_set ss n k, ← HS.out] at R1
        have R2 := hb.setCell (p := ⟨w.heap.size, k, none⟩) (Nat.le_refl _) (.string s)
        have HR1 : Hid _ := R1
        have HR2 : Hid _ := R2
        clear R1 R2 hown hb
        go_wp2
        go_roundw
        case rel => exact ⟨k + 1, by omega, by go_num, HR1.out, HR2.out⟩
        case measure => simp [intOf]; omega
      · go_wp2
        go_ret
        have e : k = n := by omega
        subst e
        exact ⟨_, _, rfl, srow_of_owns hown HL.out (fun j hj => by rw [filled_at ss k k j hj, if_pos hj]), hb⟩
end Go.Proofs.Qxb6615553a
