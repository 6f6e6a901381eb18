import Derived.Test.Qxb6615553aRows
import Derived.Test.Qxb6615553aLaw
import Derived.ProofKit
import Derived.OpenShut
import Derived.ShutString
import Derived.SizedLaws
import Derived.SliceStrings
namespace Go.Proofs.Qxb6615553a.fnDefinesInsertion
open Go.ChangeShapes Go.WideShapes Go.ChangeAt Go.RowKit
open Go.ChangeMaps (open_string shut_string)

theorem own : ownKnob Try.prog.godebug = none := by kernel_rfl
theorem laidOut : laidOutB Try.prog = true := by kernel_rfl
theorem cells9 : Try.prog.cellsOf 9 = 1 := by kernel_rfl
theorem bytes9 : Try.prog.bytesOf 9 = 16 := by kernel_rfl

theorem len_bytes (s : ByteArray) : s.data.toList.length = s.size := Array.length_toList

/-- Each string of a listed slice is within the reach. -/
theorem weight_mem {H : Type} (P : Program) (e : TypeId) : ∀ (l : List ByteArray) (s : ByteArray), s ∈ l → s.data.toList.length ∈ DataW.weightsAll P e (strs (H := H) l)
  | x :: l, s, h => by
    simp only [strs, List.map_cons, DataW.weightsAll, DataW.weights, List.mem_append, List.mem_singleton]
    rcases List.mem_cons.1 h with rfl | h
    · exact .inl rfl
    · exact .inr (weight_mem P e l s h)

theorem sized_elem {H : Type} {P : Program} {ts : List TypeId} {ds : List (DataW H)} (h : (DataW.weightsEach P ts ds).all (· ≤ reachBytes) = true) {j : Nat} {t e : TypeId} {l l2 : List ByteArray} (ht : ts[j]? = some t) (hd : ds[j]? = some (.slice (strs l) (strs l2))) (hu : P.underlying t = some (.slice e))
    (i : Nat) : (l.getD i ByteArray.empty).size ≤ reachBytes := by
  by_cases hi : i < l.length
  · have hm : l.getD i ByteArray.empty ∈ l := by
      have : l.getD i ByteArray.empty = l[i] := by simp [List.getD, hi]
      rw [this]; exact List.getElem_mem hi
    have := List.all_eq_true.1 h _ (DataW.weights_mem_each ht hd (l.getD i ByteArray.empty).data.toList.length (by
      simp only [DataW.weights, hu]
      exact List.mem_cons_of_mem _ (List.mem_append_left _ (weight_mem P e l _ hm))))
    rw [len_bytes] at this
    exact of_decide_eq_true this
  · have : l.getD i ByteArray.empty = ByteArray.empty := by simp [List.getD, hi]
    rw [this]
    exact Nat.zero_le _

set_option maxRecDepth 100000 in
theorem lifted (os : Os) (started : os.Started) (H : Type) (enc : TypeId × Value → H) :
    ReturnsInHanded {} Try.checked os 3 .any (Rows.fnDefinesInsertionSpec.pre6 enc Try.prog Try.f3 Rows.fnDefinesInsertionRow.domain false) (Rows.fnDefinesInsertionSpec.post enc Try.prog Try.f3 false true false false) := by
  refine returnsInHanded_of_change_sized (C := Try.checked) own started (by kernel_rfl) Try.func3
    (ChangeSpec.witness6 (enc := enc) (C := Try.checked) false ⟨#[], #[.slice none 0 0, .string ByteArray.empty, .string ByteArray.empty, .string ByteArray.empty, .int .i64 0], []⟩ 8 (by kernel_rfl) (by kernel_rfl) (by kernel_rfl) (by kernel_rfl)) ?_
  intro W base args ds gs before hval0 hW _ hsz0 _
  have hsz : (DataW.weightsEach Try.prog (Try.f3.params.toList ++ Rows.fnDefinesInsertionSpec.plain.varTypes Try.prog) (ds ++ gs)).all (· ≤ reachBytes) = true := hsz0
  clear hsz0
  have hval : ∀ (j : Nat) t v, Try.f3.params[j]? = some t → args[j]? = some v → Value.okWide Try.prog W .any base t v := hval0
  have hW' := hW
  obtain ⟨p, q, hA0, hV, rfl, hfz, hnd⟩ := hW
  have hA : DataW.TrodAll enc Try.prog W 0 (fun _ => true) true Try.f3.params.toList args.toList ds p := hA0
  rw [Try.params3] at hA hval hsz
  obtain ⟨v0, vs0, d0, ds0, p0, q0, hargs, rfl, rfl, h0, r0⟩ := trodAll_cons hA
  obtain ⟨v1, vs1, d1, ds1, p1, q1, rfl, rfl, rfl, h1, r1⟩ := trodAll_cons r0
  obtain ⟨v2, vs2, d2, ds2, p2, q2, rfl, rfl, rfl, h2, r2⟩ := trodAll_cons r1
  obtain ⟨v3, vs3, d3, ds3, p3, q3, rfl, rfl, rfl, h3, r3⟩ := trodAll_cons r2
  obtain ⟨v4, vs4, d4, ds4, p4, q4, rfl, rfl, rfl, h4, r4⟩ := trodAll_cons r3
  obtain ⟨rfl, rfl, rfl⟩ := trodAll_nil r4
  obtain rfl : args = #[v0, v1, v2, v3, v4] := by cases args; simp_all
  obtain ⟨rfl, rfl⟩ := trodVars_none hV
  obtain ⟨a0, len, cap, rfl⟩ := okWide_slice Try.underlying22 (hval 0 22 v0 rfl rfl)
  have k0 := h0
  have lt0 : ∀ x ∈ p0, x.block < W.heap.size := by obtain ⟨m, hm⟩ := k0; exact DataW.trod_lt m _ _ _ hm
  obtain ⟨s1, rfl, rfl, rfl, w1⟩ := open_string Try.underlying9 (hval 1 9 v1 rfl rfl) h1
  obtain ⟨s2, rfl, rfl, rfl, w2⟩ := open_string Try.underlying9 (hval 2 9 v2 rfl rfl) h2
  obtain ⟨s3, rfl, rfl, rfl, w3⟩ := open_string Try.underlying9 (hval 3 9 v3 rfl rfl) h3
  obtain ⟨a4, rfl, rfl, rfl, w4⟩ := open_int Try.underlying3 (hval 4 3 v4 rfl rfl) h4
  have z1 : s1.size ≤ 140737488351232 := by
    have := sized_string hsz (j := 1) (t := 9) rfl rfl
    rw [len_bytes] at this
    unfold reachBytes at this
    omega
  have z2 : s2.size ≤ 140737488351232 := by
    have := sized_string hsz (j := 2) (t := 9) rfl rfl
    rw [len_bytes] at this
    unfold reachBytes at this
    omega
  have z3 : s3.size ≤ 140737488351232 := by
    have := sized_string hsz (j := 3) (t := 9) rfl rfl
    rw [len_bytes] at this
    unfold reachBytes at this
    omega
  obtain ⟨ss, hrow, hnil, hn, hz⟩ : ∃ ss : List ByteArray, SRow W a0 len ss ∧ (a0 = none → len = 0 ∧ cap = 0) ∧ len ≤ 140737488351232 ∧ ∀ j, (ss.getD j ByteArray.empty).size ≤ 140737488351232 := by
    obtain ⟨fuel, hf⟩ := h0
    rcases open_strings Try.underlying22 Try.underlying9 cells9 hf with ⟨hcs, hx⟩ | ⟨a, len', cap', ss, hcs, _, hl, hm, hz, hx, hcell, hws⟩
    · simp [Value.cells] at hcs
      obtain ⟨rfl, rfl, rfl⟩ := hcs
      exact ⟨[], ⟨rfl, fun h => absurd h (by omega)⟩, fun _ => ⟨rfl, rfl⟩, by omega, fun j => by simp⟩
    · simp [Value.cells] at hcs
      obtain ⟨rfl, rfl, rfl⟩ := hcs
      simp only [Prod.mk.injEq] at hx
      obtain ⟨rfl, rfl⟩ := hx
      simp only [if_true] at hz
      have hreach : len * 16 ≤ 140737488351232 := by
        have := sized_slice hsz (j := 0) (t := 22) (e := 9) rfl rfl Try.underlying22
        rw [bytes9] at this
        simp only [strs, List.length_map, List.length_take, List.length_drop, reachBytes] at this
        omega
      refine ⟨ss.take len, ⟨by simp; omega, fun hpos => ?_⟩, (fun h => by cases h), by omega, fun j => ?_⟩
      · obtain ⟨b, off, spot⟩ := a
        have hspot : spot = none := by simpa [Addr.add] using World.cell?_spot (hcell 0 (by omega))
        subst hspot
        have hbW : b < W.heap.size := lt0 (.cell b off) (MemPlace.mem_row.2 ⟨0, by omega, by simp⟩)
        refine ⟨b, off, rfl, hbW, fun j hj => ?_⟩
        have := hcell j (by omega)
        rw [add_plain] at this
        rw [this]
        simp [List.getD, hj]
      · have := sized_elem hsz (j := 0) (t := 22) (e := 9) rfl rfl Try.underlying22 j
        unfold reachBytes at this
        omega
  clear hA0 hval0
  simp only [List.append_nil] at hW'
  refine (law_any a0 len cap ss s1 s2 s3 a4 W hrow hnil hn hz z1 z2 z3).mono fun e W' ⟨he, bel⟩ => ?_
  subst he
  exact ⟨_, rfl, _, _, _, [], _, [], hW', trodAll_mk1 (shut_bool Try.underlying4 _), (trodAll_cons_mk (Below.trod laidOut (by kernel_rfl) (of_decide_eq_true (by kernel_rfl)) k0 bel lt0) (trodAll_cons_mk (shut_string Try.underlying9 w1) (trodAll_cons_mk (shut_string Try.underlying9 w2) (trodAll_cons_mk (shut_string Try.underlying9 w3) (trodAll_cons_mk (shut_int Try.underlying3 w4) trodAll_mk0))))), rfl, bel.frame _, fun h => by cases h⟩

theorem over : Rows.FnDefinesInsertionSaid :=
  OpenClaim.holds_of_wide 3 Try.f3 rfl rfl rfl rfl rfl rfl rfl ⟨rfl, rfl, rfl, rfl, rfl⟩ rfl rfl rfl rfl rfl (by kernel_rfl) Try.func3 (by kernel_rfl)
    (of_decide_eq_true (by kernel_rfl)) (by unfold Func.isWrapper; first | (rw [if_pos (by decide +kernel)]; kernel_rfl) | (rw [if_neg (by decide +kernel)]; exact ⟨rfl, rfl⟩))
    (fun os started H enc _ => lifted os started H enc)
end Go.Proofs.Qxb6615553a.fnDefinesInsertion

namespace Go.Proofs.Qxb6615553a
theorem fnDefinesInsertion_proved : Rows.FnDefinesInsertionSaid :=
  fnDefinesInsertion.over
end Go.Proofs.Qxb6615553a
