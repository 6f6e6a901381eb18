import Derived.Test.Qxb6615553aClone
namespace Go.Proofs.Qxb6615553a
open Go.RowKit

def strV (l : List ByteArray) : List Value := l.map Value.string
/-- What lies in the new row: the first m, then x, then those from m on up to k. -/
def insL (ss : List ByteArray) (m : Nat) (x : ByteArray) (k : Nat) : List ByteArray := ss.take m ++ x :: (ss.take k).drop m

theorem strV_snoc (ss : List ByteArray) (k : Nat) (h : k < ss.length) : strV (ss.take k) ++ [.string (ss.getD k ByteArray.empty)] = strV (ss.take (k + 1)) := by
  rw [take_snoc ss k h]; simp [strV]
theorem insL_start (ss : List ByteArray) (m : Nat) (x : ByteArray) : strV (ss.take m) ++ [.string x] = strV (insL ss m x m) := by
  simp [strV, insL]
theorem insL_snoc (ss : List ByteArray) (m : Nat) (x : ByteArray) (k : Nat) (hm : m ≤ k) (h : k < ss.length) : strV (insL ss m x k) ++ [.string (ss.getD k ByteArray.empty)] = strV (insL ss m x (k + 1)) := by
  unfold insL
  rw [take_snoc ss k h, List.drop_append_of_le_length (by simp; omega)]
  simp [strV]
theorem insL_end (ss : List ByteArray) (m : Nat) (x : ByteArray) (k : Nat) (h : ss.length ≤ k) : insL ss m x k = ss.take m ++ x :: ss.drop m := by
  unfold insL; rw [List.take_of_length_le h]
theorem insL_len (ss : List ByteArray) (m : Nat) (x : ByteArray) (h : m ≤ ss.length) : (ss.take m ++ x :: ss.drop m).length = ss.length + 1 := by
  simp; omega
theorem strV_at (l : List ByteArray) (j : Nat) (h : j < l.length) : (strV l)[j]? = some (.string (l.getD j ByteArray.empty)) := by
  simp [strV, List.getD, h]

/-- What one append within the capacity does to the relation's two limbs. -/
theorem push_one {w wr w1 : World} {B k cap : Nat} {xs : List Value} {u : Value} {o : Obj} (hB : B = w.heap.size) (hb : Below B w wr)
    (h1 : w1.ownsRow B 9 1 (.slice (some ⟨B, 0, none⟩) (k + 1) cap) (k + 1) (xs ++ [u])) (hg : (wr.alloc o).grownBy w1 (some B)) :
    w1.ownsRow B 9 1 (.slice (some ⟨B, 0, none⟩) (k + 1) cap) (k + 1) (xs ++ [u]) ∧ Below B w w1 := by
  subst hB
  exact ⟨h1, (hb.alloc hb.size o).grown hg (by simp; have := hb.size; omega) (fun j e => by cases e; exact Nat.le_refl _)⟩

theorem one_new (wr : World) (s : ByteArray) : ∀ (j : Nat) (u : Value), [Value.string s][j]? = some u → (wr.alloc (Obj.cells #[Value.string s] 9)).cell? ((⟨wr.heap.size, 0, none⟩ : Addr).add j) = some u := by
  intro j u hj
  match j, hj with
  | 0, hj => simp at hj; subst hj; simp [Addr.add]

set_option maxRecDepth 100000 in
set_option maxHeartbeats 4000000 in
theorem insert_any (a : Option Addr) (n c m : Nat) (ss : List ByteArray) (x : ByteArray) (w : World) (h : SRow w a n ss) (hn : n ≤ 65536) (hm : m ≤ n) :
    Calls Try.prog 8 #[.slice a n c, .int .i64 m, .string x] w (SliceEnd (n + 1) (ss.take m ++ x :: ss.drop m) w) := by
  have HL : Hid (ss.length = n) := h.1
  have HC : Hid (0 < n → ∃ b off, a = some ⟨b, off, none⟩ ∧ b < w.heap.size ∧ ∀ j, j < n → w.cell? ⟨b, off + j, none⟩ = some (.string (ss.getD j ByteArray.empty))) := h.2
  clear h
  obtain ⟨i0, hi, hz0, hz1, hz2⟩ := info_parts info9
  have HI : Hid (Try.prog.info? 9 = some i0) := hi
  have HZ1 : Hid (i0.size = 1) := hz1
  go_enter Try.func8, Try.ntmps8
  go_wp2_with (at_make; refine wpList_make_own _ rfl _ _ 22 rfl w.heap.size 9 i0 (.string ByteArray.empty) 1 Try.underlying22 hi hz0 hz1 _ _ _ (n + 1) rfl rfl (by omega) ?b2 ?b3 (Nat.le_refl _) ?_)
  case b2 => rw [hz2]; omega
  case b3 => unfold maxLen; omega
  intro w1 hown hgrow
  have hb1 : Below w.heap.size w w1 := (Below.refl _ _).grown hgrow (Nat.le_refl _) (fun k e => by cases e)
  clear hgrow hi hz0 hz1 hz2
  go_wp2
  go_loopw [7, 8] (fun v i wr => ∃ k : Nat, k ≤ m ∧ i = .int .i64 k ∧ v = .slice (some ⟨w.heap.size, 0, none⟩) k (n + 1) ∧ wr.ownsRow w.heap.size 9 1 (.slice (some ⟨w.heap.size, 0, none⟩) k (n + 1)) k (strV (ss.take k)) ∧ Below w.heap.size w wr) (fun _ i _ => m - (intOf i).toNat)
  case atStart => exact ⟨0, Nat.zero_le _, rfl, rfl, hown, hb1⟩
  case round =>
    clear hown hb1
    obtain ⟨k, hk, rfl, rfl, hown, hb⟩ := hrel
    by_cases hlt : k < m
    · obtain ⟨b, off, rfl, hbl, hcell⟩ := HC.out (by omega)
      have hcj : wr.cell? ⟨b, off + k, none⟩ = some (.string (ss.getD k ByteArray.empty)) := (hb.cell (p := ⟨b, off + k, none⟩) hbl).trans (hcell k (by omega))
      clear hcell
      obtain ⟨s, hs⟩ : ∃ s, s = ss.getD k ByteArray.empty := ⟨_, rfl⟩
      rw [← hs] at hcj
      have HS : Hid (s = ss.getD k ByteArray.empty) := hs
      clear hs
      go_wp2_with (at_builtin; refine wpList_append_fits _ rfl _ _ 22 rfl w.heap.size 9 i0 1 Try.underlying22 HI.out HZ1.out w.heap.size k (n + 1) _ rfl (hown.alloc _) ⟨wr.heap.size, 0, none⟩ 1 1 [.string s] rfl rfl ?c1 ?c2 ?c3 ?_)
      case c1 => exact one_new wr s
      case c2 => intro u hu; simp at hu; subst hu; rfl
      case c3 => omega
      intro w1 h1 hg
      have R := push_one rfl hb h1 hg
      rw [HS.out, strV_snoc ss k (by rw [HL.out]; omega)] at R
      have HR : Hid _ := R
      clear R h1 hg hown hb
      go_wp2
      go_roundw
      case rel => exact ⟨k + 1, by omega, by go_num, rfl, HR.out.1, HR.out.2⟩
      case measure => simp [intOf]; omega
    · obtain rfl : k = m := by omega
      clear hlt
      go_wp2_with (at_builtin; refine wpList_append_fits _ rfl _ _ 22 rfl w.heap.size 9 i0 1 Try.underlying22 HI.out HZ1.out w.heap.size k (n + 1) _ rfl (hown.alloc _) ⟨wr.heap.size, 0, none⟩ 1 1 [.string x] rfl rfl ?d1 ?d2 ?d3 ?_)
      case d1 => exact one_new wr x
      case d2 => intro u hu; simp at hu; subst hu; rfl
      case d3 => omega
      intro w1 h1 hg
      have R := push_one rfl hb h1 hg
      rw [insL_start ss k x] at R
      have HR : Hid _ := R
      clear R h1 hg hown hb
      go_wp2
      go_loopw [7, 9] (fun v i wr => ∃ j : Nat, k ≤ j ∧ j ≤ n ∧ i = .int .i64 j ∧ v = .slice (some ⟨w.heap.size, 0, none⟩) (j + 1) (n + 1) ∧ wr.ownsRow w.heap.size 9 1 (.slice (some ⟨w.heap.size, 0, none⟩) (j + 1) (n + 1)) (j + 1) (strV (insL ss k x j)) ∧ Below w.heap.size w wr) (fun _ i _ => n - (intOf i).toNat)
      case atStart => exact ⟨k, Nat.le_refl _, hm, rfl, rfl, HR.out.1, HR.out.2⟩
      case round =>
        clear HR
        obtain ⟨j, hkj, hj, rfl, rfl, hown, hb⟩ := hrel
        by_cases hlt : j < n
        · obtain ⟨b, off, rfl, hbl, hcell⟩ := HC.out (by omega)
          have hcj : wr.cell? ⟨b, off + j, none⟩ = some (.string (ss.getD j ByteArray.empty)) := (hb.cell (p := ⟨b, off + j, none⟩) hbl).trans (hcell j hlt)
          clear hcell
          obtain ⟨s, hs⟩ : ∃ s, s = ss.getD j ByteArray.empty := ⟨_, rfl⟩
          rw [← hs] at hcj
          have HS : Hid (s = ss.getD j ByteArray.empty) := hs
          clear hs
          go_wp2_with (at_builtin; refine wpList_append_fits _ rfl _ _ 22 rfl w.heap.size 9 i0 1 Try.underlying22 HI.out HZ1.out w.heap.size (j + 1) (n + 1) _ rfl (hown.alloc _) ⟨wr.heap.size, 0, none⟩ 1 1 [.string s] rfl rfl ?f1 ?f2 ?f3 ?_)
          case f1 => exact one_new wr s
          case f2 => intro u hu; simp at hu; subst hu; rfl
          case f3 => omega
          intro w2 h2 hg
          have R := push_one rfl hb h2 hg
          rw [HS.out, insL_snoc ss k x j hkj (by rw [HL.out]; omega)] at R
          have HR : Hid _ := R
          clear R h2 hg hown hb
          go_wp2
          go_roundw
          case rel => exact ⟨j + 1, by omega, by omega, by go_num, rfl, HR.out.1, HR.out.2⟩
          case measure => simp [intOf]; omega
        · obtain rfl : j = n := by omega
          go_wp2
          go_ret
          rw [insL_end ss k x j (by rw [HL.out]; omega)] at hown
          have hlen := insL_len ss k x (by rw [HL.out]; omega)
          rw [HL.out] at hlen
          exact ⟨_, _, rfl, srow_of_owns hown hlen (fun i hi => strV_at _ i (by rw [hlen]; exact hi)), hb⟩
end Go.Proofs.Qxb6615553a
