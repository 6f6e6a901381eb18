import Derived.Test.Qxb6615553aInsert
import Derived.Test.Qxb6615553aSizes
namespace Go.Proofs.Qxb6615553a
open Go.RowKit

theorem inRow_ins (ss : List ByteArray) (m : Nat) (x p : ByteArray) : inRow (ss.take m ++ x :: ss.drop m) p = (inRow ss p || (p.toList == x.toList)) := by
  have e : inRow ss p = (inRow (ss.take m) p || inRow (ss.drop m) p) := by
    unfold inRow
    rw [← List.any_append, List.take_append_drop]
  rw [e]
  unfold inRow
  rw [List.any_append, List.any_cons]
  cases (List.any (ss.take m) fun s => p.toList == s.toList) <;> cases (List.any (ss.drop m) fun s => p.toList == s.toList) <;> cases (p.toList == x.toList) <;> rfl
theorem dfn_ins (ss : List ByteArray) (m : Nat) (x o p : ByteArray) : dfn (ss.take m ++ x :: ss.drop m) o p = (dfn ss o p || (p.toList == x.toList)) := by
  unfold dfn
  rw [inRow_ins]
  cases inRow ss p <;> cases (p.toList == x.toList) <;> cases (!o.toList.isEmpty && hasPre p o) <;> rfl
theorem dfn_self (ss : List ByteArray) (m : Nat) (o p : ByteArray) : dfn (ss.take m ++ p :: ss.drop m) o p = true := by
  rw [dfn_ins]; simp
theorem dfn_other (ss : List ByteArray) (m : Nat) (o p q : ByteArray) : dfn (ss.take m ++ q :: ss.drop m) o p = (dfn ss o p || (q.toList == p.toList)) := by
  rw [dfn_ins]
  congr 1
  exact BEq.comm
theorem extract_self (o p : ByteArray) : (o ++ p).extract 0 o.size = o := by
  apply ByteArray.ext
  simp
theorem dfn_open (ss : List ByteArray) (o p : ByteArray) (h : o.toList.isEmpty = false) : dfn ss o (o ++ p) = true := by
  unfold dfn hasPre
  rw [h, extract_self, if_pos (by simp)]
  simp

theorem tooBig_int (a : Option Addr) (n c : Nat) (ss : List ByteArray) (S : Int) (w : World) (h : SRow w a n ss) (hn : n ≤ 140737488351232)
    (hz : ∀ j, (ss.getD j ByteArray.empty).size ≤ 140737488351232) (h0 : 0 ≤ S) (h1 : S ≤ 10000000) :
    Calls Try.prog 5 #[.slice a n c, .int .i64 S] w (BigEnd n w) := by
  obtain ⟨st, rfl⟩ : ∃ st : Nat, S = st := ⟨S.toNat, by omega⟩
  exact tooBig_any a n c ss st w h hn hz (by omega)
theorem insert_int (a : Option Addr) (n c m : Nat) (M : Int) (hM : M = m) (ss : List ByteArray) (x : ByteArray) (w : World) (h : SRow w a n ss) (hn : n ≤ 65536) (hm : m ≤ n) :
    Calls Try.prog 8 #[.slice a n c, .int .i64 M, .string x] w (SliceEnd (n + 1) (ss.take m ++ x :: ss.drop m) w) := by
  subst hM
  exact insert_any a n c m ss x w h hn hm

def LawEnd (w : World) (e : Ending) (w' : World) : Prop := e = .returned (.bool true) ∧ Below w.heap.size w w'

set_option maxRecDepth 100000 in
set_option maxHeartbeats 4000000 in
theorem law_any (a : Option Addr) (n c : Nat) (ss : List ByteArray) (o p q : ByteArray) (at' : Int) (w : World) (h : SRow w a n ss) (hnil : a = none → n = 0 ∧ c = 0) (hn : n ≤ 140737488351232)
    (hz : ∀ j, (ss.getD j ByteArray.empty).size ≤ 140737488351232) (ho : o.size ≤ 140737488351232) (hp : p.size ≤ 140737488351232) (hq : q.size ≤ 140737488351232) :
    Calls Try.prog 3 #[.slice a n c, .string o, .string p, .string q, .int .i64 at'] w (LawEnd w) := by
  have HH : Hid (SRow w a n ss) := h
  have HN : Hid (a = none → n = 0 ∧ c = 0) := hnil
  have HZ : Hid (∀ j, (ss.getD j ByteArray.empty).size ≤ 140737488351232) := hz
  clear h hnil hz
  by_cases hbig : 1048576 < o.size ∨ 1048576 < p.size ∨ 1048576 < q.size
  · rcases (show 1048576 < o.size ∨ (o.size ≤ 1048576 ∧ 1048576 < p.size) ∨ (o.size ≤ 1048576 ∧ p.size ≤ 1048576 ∧ 1048576 < q.size) from by omega) with hb | hb | hb
    all_goals
      clear hbig
      go_enter Try.func3, Try.ntmps3
      go_wp2_with fail
      refine (bytes_any a n c ss o p q at' _ HH.out hn HZ.out ho hp hq).mono ?_
      rintro e w1 ⟨r, rfl, hw⟩
      subst w1
      cases r
      all_goals
        go_wp2
        go_ret
        exact ⟨rfl, Below.refl _ _⟩
  · obtain ⟨ho2, hp2, hq2⟩ : o.size ≤ 1048576 ∧ p.size ≤ 1048576 ∧ q.size ≤ 1048576 := by omega
    clear hbig
    go_enter Try.func3, Try.ntmps3
    go_wp2_with fail
    refine (bytes_any a n c ss o p q at' _ HH.out hn HZ.out ho hp hq).mono ?_
    rintro e w1 ⟨r, rfl, hw⟩
    subst w1
    cases r with
    | false =>
      go_wp2
      go_ret
      exact ⟨rfl, Below.refl _ _⟩
    | true =>
      go_wp2_with fail
      refine (tooBig_int a n c ss _ _ HH.out hn HZ.out (by omega) (by omega)).mono ?_
      rintro e w2 ⟨r, rfl, hr, hw⟩
      subst w2
      cases r with
      | true =>
        clear hr
        go_wp2
        go_ret
        exact ⟨rfl, Below.refl _ _⟩
      | false =>
        have hn2 := hr rfl
        clear hr
        go_wp2_with fail
        refine (clone_any a n c ss _ HH.out hn2 HN.out).mono ?_
        rintro e w1 ⟨a1, c1, rfl, hrow, hb1⟩
        have HR : Hid (SRow w1 a1 n ss) := hrow
        have HB : Hid (Below w.heap.size w w1) := hb1
        clear hrow hb1 HH HN HZ
        obtain ⟨m, hm⟩ : ∃ m : Nat, m = min at'.toNat n := ⟨_, rfl⟩
        have hmn : m ≤ n := by omega
        have HM : Hid (m = min at'.toNat n) := hm
        clear hm
        go_wp2_with fail
        all_goals
          refine (zzdef_any a1 n c1 ss o p _ HR.out (by omega) (by unfold maxLen; omega) (by unfold maxLen; omega)).mono ?_
          rintro e w2 ⟨rfl, hb2⟩
          have HR2 : Hid (SRow w2 a1 n ss) := SRow.below HR.out hb2
          have HB2 : Hid (Below w.heap.size w w2) := Below.trans HB.out (Below.mono hb2 (Below.size HB.out))
          clear hb2
          go_wp2_with fail
          refine (insert_int a1 n c1 m _ (by rw [HM.out]; omega) ss p _ HR2.out hn2 hmn).mono ?_
          rintro e w3 ⟨a3, c3, rfl, hrow3, hb3⟩
          have HR3 : Hid (SRow w3 a1 n ss) := SRow.below HR2.out hb3
          have HI3 : Hid (SRow w3 a3 (n + 1) (ss.take m ++ p :: ss.drop m)) := hrow3
          have HB3 : Hid (Below w.heap.size w w3) := Below.trans HB2.out (Below.mono hb3 (Below.size HB2.out))
          clear hb3 hrow3
          go_wp2_with fail
          refine (zzdef_any a3 (n + 1) c3 _ o p _ HI3.out (by omega) (by unfold maxLen; omega) (by unfold maxLen; omega)).mono ?_
          rintro e w4 ⟨rfl, hb4⟩
          rw [dfn_self]
          have HR4 : Hid (SRow w4 a1 n ss) := SRow.below HR3.out hb4
          have HB4 : Hid (Below w.heap.size w w4) := Below.trans HB3.out (Below.mono hb4 (Below.size HB3.out))
          clear hb4
          go_wp2_with fail
          refine (insert_int a1 n c1 m _ (by rw [HM.out]; omega) ss q _ HR4.out hn2 hmn).mono ?_
          rintro e w5 ⟨a5, c5, rfl, hrow5, hb5⟩
          have HR5 : Hid (SRow w5 a1 n ss) := SRow.below HR4.out hb5
          have HI5 : Hid (SRow w5 a5 (n + 1) (ss.take m ++ q :: ss.drop m)) := hrow5
          have HB5 : Hid (Below w.heap.size w w5) := Below.trans HB4.out (Below.mono hb5 (Below.size HB4.out))
          clear hb5 hrow5
          go_wp2_with fail
          refine (zzdef_any a5 (n + 1) c5 _ o p _ HI5.out (by omega) (by unfold maxLen; omega) (by unfold maxLen; omega)).mono ?_
          rintro e w6 ⟨rfl, hb6⟩
          rw [dfn_other]
          have HR6 : Hid (SRow w6 a1 n ss) := SRow.below HR5.out hb6
          have HB6 : Hid (Below w.heap.size w w6) := Below.trans HB5.out (Below.mono hb6 (Below.size HB5.out))
          clear hb6 HR HB HR2 HB2 HR3 HB3 HI3 HR4 HB4 HR5 HB5 HI5
          generalize dfn ss o p = dB
          cases dB
          all_goals
            cases heq : (q.toList == p.toList)
            all_goals
              cases hem : o.toList.isEmpty
              all_goals
                go_wp2_with fail
                first
                  | (go_ret; exact ⟨rfl, HB6.out⟩)
                  | (refine (zzdef_any a1 n c1 ss o (o ++ p) _ HR6.out (by omega) (by unfold maxLen; simp; omega) (by unfold maxLen; omega)).mono ?_
                     rintro e w7 ⟨rfl, hb7⟩
                     rw [dfn_open ss o p hem]
                     have HB7 : Hid (Below w.heap.size w w7) := Below.trans HB6.out (Below.mono hb7 (Below.size HB6.out))
                     clear hb7
                     go_wp2
                     go_ret
                     exact ⟨rfl, HB7.out⟩)
end Go.Proofs.Qxb6615553a
