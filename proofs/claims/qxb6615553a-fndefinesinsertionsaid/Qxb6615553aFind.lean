import Derived.Test.Qxb6615553aProg
import Derived.WalkKit
import Derived.WalkSpells
namespace Go.Proofs.Qxb6615553a
open Go.RowKit

/-- A slice of strings in memory: n of them, 'ss'; where there is one, the address is known and the cells lie there. -/
def SRow (w : World) (a : Option Addr) (n : Nat) (ss : List ByteArray) : Prop :=
  ss.length = n ∧ (0 < n → ∃ b off, a = some ⟨b, off, none⟩ ∧ b < w.heap.size ∧ ∀ j, j < n → w.cell? ⟨b, off + j, none⟩ = some (.string (ss.getD j ByteArray.empty)))

theorem SRow.below {w w' : World} {a : Option Addr} {n : Nat} {ss : List ByteArray} (h : SRow w a n ss) (hb : Below w.heap.size w w') : SRow w' a n ss :=
  ⟨h.1, fun hn => by
    obtain ⟨b, off, e, hl, hc⟩ := h.2 hn
    exact ⟨b, off, e, Nat.lt_of_lt_of_le hl hb.size, fun j hj => (hb.cell (p := ⟨b, off + j, none⟩) hl).trans (hc j hj)⟩⟩

/-- Is p among the strings? -/
def inRow (ss : List ByteArray) (p : ByteArray) : Bool := ss.any fun s => p.toList == s.toList

theorem inRow_snoc (ss : List ByteArray) (p s : ByteArray) : inRow (ss ++ [s]) p = (inRow ss p || (p.toList == s.toList)) := by
  simp [inRow, List.any_append]
theorem take_snoc (ss : List ByteArray) (j : Nat) (h : j < ss.length) : ss.take (j + 1) = ss.take j ++ [ss.getD j ByteArray.empty] := by
  rw [List.take_succ_eq_append_getElem h]; simp [List.getD, h]
theorem inRow_found (ss : List ByteArray) (p : ByteArray) (j : Nat) (h : j < ss.length) (e : (p.toList == (ss.getD j ByteArray.empty).toList) = true) : inRow ss p = true := by
  unfold inRow
  rw [List.any_eq_true]
  exact ⟨_, List.getElem_mem h, by simpa [List.getD, h] using e⟩

set_option maxRecDepth 100000 in
set_option maxHeartbeats 1000000 in
theorem index_any (a : Option Addr) (n c : Nat) (ss : List ByteArray) (p : ByteArray) (w : World) (h : SRow w a n ss) (hn : n ≤ 1000000000) :
    Calls Try.prog 14 #[.slice a n c, .string p] w fun e w' => ∃ i : Int, e = .returned (.int .i64 i) ∧ decide (0 ≤ i) = inRow ss p ∧ w' = w := by
  obtain ⟨hl, hc⟩ := h
  have HL : Hid (ss.length = n) := hl
  have HC : Hid (0 < n → ∃ b off, a = some ⟨b, off, none⟩ ∧ b < w.heap.size ∧ ∀ j, j < n → w.cell? ⟨b, off + j, none⟩ = some (.string (ss.getD j ByteArray.empty))) := hc
  clear hl hc
  go_enter Try.func14, Try.ntmps14
  go_wp2
  go_loop [5, 8] (fun _ i => ∃ j : Nat, j ≤ n ∧ i = .int .i64 j ∧ Hid (inRow (ss.take j) p = false)) (fun _ i => n - (intOf i).toNat)
  case atStart => exact ⟨0, Nat.zero_le _, rfl, rfl⟩
  case round =>
    obtain ⟨j, hj, rfl, HF⟩ := hrel
    by_cases hlt : j < n
    · obtain ⟨b, off, rfl, _, hcell⟩ := HC.out (by omega)
      have hcj := hcell j hlt
      clear hcell
      obtain ⟨s, hs⟩ : ∃ s, s = ss.getD j ByteArray.empty := ⟨_, rfl⟩
      rw [← hs] at hcj
      have HS : Hid (s = ss.getD j ByteArray.empty) := hs
      clear hs
      by_cases hq : (p.toList == s.toList) = true
      · go_wp2
        go_ret
        refine ⟨j, rfl, ?_, rfl⟩
        rw [inRow_found ss p j (by rw [HL.out]; exact hlt) (by rw [← HS.out]; exact hq)]
        exact decide_eq_true (by omega)
      · have hq' : (p.toList == s.toList) = false := by simpa using hq
        clear hq
        go_wp2
        go_round
        case rel => exact ⟨j + 1, by omega, by go_num, by show _ = _; rw [take_snoc ss j (by rw [HL.out]; exact hlt), inRow_snoc, HF.out, ← HS.out, hq']; rfl⟩
        case measure => simp [intOf]; omega
    · go_wp2
      go_ret
      refine ⟨-1, rfl, ?_, rfl⟩
      have := HF.out
      rw [List.take_of_length_le (by rw [HL.out]; omega)] at this
      rw [this]; rfl

set_option maxRecDepth 100000 in
theorem contains_any (a : Option Addr) (n c : Nat) (ss : List ByteArray) (p : ByteArray) (w : World) (h : SRow w a n ss) (hn : n ≤ 1000000000) :
    Calls Try.prog 12 #[.slice a n c, .string p] w fun e w' => e = .returned (.bool (inRow ss p)) ∧ w' = w := by
  have HH : Hid (SRow w a n ss) := h
  clear h
  go_enter Try.func12, Try.ntmps12
  go_wp2_with fail
  refine (index_any a n c ss p _ HH.out hn).mono ?_
  rintro e w' ⟨i, rfl, hi, rfl⟩
  have HI : Hid (decide (0 ≤ i) = inRow ss p) := hi
  clear hi
  go_wp2
  go_ret
  refine ⟨?_, rfl⟩
  rw [← HI.out]
  rfl

/-- Does p begin with o? -/
def hasPre (p o : ByteArray) : Bool := if o.size ≤ p.size then ((p.extract 0 o.size).toList == o.toList) else false

set_option maxRecDepth 100000 in
theorem prefix_any (p o : ByteArray) (w : World) (_hp : p.size ≤ maxLen) (_ho : o.size ≤ maxLen) :
    Calls Try.prog 13 #[.string p, .string o] w fun e w' => e = .returned (.bool (hasPre p o)) ∧ w' = w := by
  unfold maxLen at _hp _ho
  by_cases hle : o.size ≤ p.size
  · go_enter Try.func13, Try.ntmps13
    go_wp2
    go_ret
    refine ⟨?_, rfl⟩
    unfold hasPre
    rw [if_pos hle]
    rfl
  · go_enter Try.func13, Try.ntmps13
    go_wp2
    go_ret
    refine ⟨?_, rfl⟩
    unfold hasPre
    rw [if_neg hle]
    rfl

/-- What 'defines' answers. -/
def dfn (ss : List ByteArray) (o p : ByteArray) : Bool := inRow ss p || (!o.toList.isEmpty && hasPre p o)

set_option maxRecDepth 100000 in
set_option maxHeartbeats 1000000 in
theorem defines_any (B : Nat) (a : Option Addr) (n c : Nat) (ss : List ByteArray) (o p : ByteArray) (w : World) (h : SRow w a n ss) (hn : n ≤ 1000000000) (hp : p.size ≤ maxLen) (ho : o.size ≤ maxLen)
    (h2 : w.cell? ⟨B, 2, none⟩ = some (.slice a n c)) (h3 : w.cell? ⟨B, 3, none⟩ = some (.string o)) :
    Calls Try.prog 11 #[.pointer (some ⟨B, 0, none⟩), .string p] w fun e w' => e = .returned (.bool (dfn ss o p)) ∧ w' = w := by
  have HH : Hid (SRow w a n ss) := h
  clear h
  by_cases hi : inRow ss p = true
  · have HI : Hid (inRow ss p = true) := hi
    go_enter Try.func11, Try.ntmps11
    go_wp2_with fail
    refine (contains_any a n c ss p _ HH.out hn).mono ?_
    rintro e w' ⟨rfl, rfl⟩
    rw [hi]
    go_wp2
    go_ret
    refine ⟨?_, rfl⟩
    unfold dfn
    rw [HI.out]
    rfl
  · have hi' : inRow ss p = false := by simpa using hi
    clear hi
    have HI : Hid (inRow ss p = false) := hi'
    by_cases he : o.toList.isEmpty = true
    · have HE : Hid (o.toList.isEmpty = true) := he
      go_enter Try.func11, Try.ntmps11
      go_wp2_with fail
      refine (contains_any a n c ss p _ HH.out hn).mono ?_
      rintro e w' ⟨rfl, rfl⟩
      rw [hi']
      go_wp2_with fail
      go_ret
      refine ⟨?_, rfl⟩
      unfold dfn
      rw [HI.out, HE.out]
      rfl
    · have he' : o.toList.isEmpty = false := by simpa using he
      clear he
      have HE : Hid (o.toList.isEmpty = false) := he'
      go_enter Try.func11, Try.ntmps11
      go_wp2_with fail
      refine (contains_any a n c ss p _ HH.out hn).mono ?_
      rintro e w' ⟨rfl, rfl⟩
      rw [hi']
      go_wp2_with fail
      refine (prefix_any p o _ hp ho).mono ?_
      rintro e w' ⟨rfl, rfl⟩
      go_wp2
      go_ret
      refine ⟨?_, rfl⟩
      unfold dfn
      rw [HI.out, HE.out]
      rfl

set_option maxRecDepth 100000 in
theorem scope_any (a : Option Addr) (n c : Nat) (o : ByteArray) (w : World) :
    Calls Try.prog 10 #[.slice a n c, .string o] w fun e w' => e = .returned (.pointer (some ⟨w.heap.size, 0, none⟩)) ∧ w' = w.alloc (.cells #[.slice none 0 0, .string ByteArray.empty, .slice a n c, .string o, .map none] 34) := by
  go_enter Try.func10, Try.ntmps10
  go_wp2
  go_ret
  exact ⟨rfl, rfl⟩

set_option maxRecDepth 100000 in
theorem zzdef_any (a : Option Addr) (n c : Nat) (ss : List ByteArray) (o p : ByteArray) (w : World) (h : SRow w a n ss) (hn : n ≤ 1000000000) (hp : p.size ≤ maxLen) (ho : o.size ≤ maxLen) :
    Calls Try.prog 7 #[.slice a n c, .string o, .string p] w fun e w' => e = .returned (.bool (dfn ss o p)) ∧ Below w.heap.size w w' := by
  have hb := (Below.refl w.heap.size w).alloc (Nat.le_refl _) (.cells #[.slice none 0 0, .string ByteArray.empty, .slice a n c, .string o, .map none] 34)
  have HH : Hid (SRow (w.alloc (.cells #[.slice none 0 0, .string ByteArray.empty, .slice a n c, .string o, .map none] 34)) a n ss) := h.below hb
  have HB : Hid (Below w.heap.size w (w.alloc (.cells #[.slice none 0 0, .string ByteArray.empty, .slice a n c, .string o, .map none] 34))) := hb
  have C2 : (w.alloc (.cells #[.slice none 0 0, .string ByteArray.empty, .slice a n c, .string o, .map none] 34)).cell? ⟨w.heap.size, 2, none⟩ = some (.slice a n c) := by rw [World.cell?_alloc_new]; rfl
  have C3 : (w.alloc (.cells #[.slice none 0 0, .string ByteArray.empty, .slice a n c, .string o, .map none] 34)).cell? ⟨w.heap.size, 3, none⟩ = some (.string o) := by rw [World.cell?_alloc_new]; rfl
  have H2 : Hid _ := C2
  have H3 : Hid _ := C3
  clear h hb C2 C3
  go_enter Try.func7, Try.ntmps7
  go_wp2_with fail
  refine (scope_any a n c o _).mono ?_
  rintro e w' ⟨rfl, rfl⟩
  go_wp2_with fail
  have D : Calls Try.prog 9 #[.pointer (some ⟨w.heap.size, 0, none⟩), .string p] (w.alloc (.cells #[.slice none 0 0, .string ByteArray.empty, .slice a n c, .string o, .map none] 34)) fun e w' => e = .returned (.bool (dfn ss o p)) ∧ w' = (w.alloc (.cells #[.slice none 0 0, .string ByteArray.empty, .slice a n c, .string o, .map none] 34)) := by
    go_enter Try.func9, Try.ntmps9
    go_wp2_with fail
    refine (defines_any w.heap.size a n c ss o p _ HH.out hn hp ho H2.out H3.out).mono ?_
    rintro e w' ⟨rfl, rfl⟩
    go_wp2
    go_ret
    exact ⟨rfl, rfl⟩
  refine D.mono ?_
  rintro e w' ⟨rfl, rfl⟩
  go_wp2
  go_ret
  exact ⟨rfl, HB.out⟩
end Go.Proofs.Qxb6615553a
