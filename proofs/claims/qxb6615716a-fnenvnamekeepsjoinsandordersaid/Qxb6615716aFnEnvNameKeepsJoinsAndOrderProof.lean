import Derived.Test.Qxb6615716aRows
import Derived.WalkKit
import Derived.ProofKit
import Derived.OpenShut
import Derived.ShutString
import Derived.WalkLawsBesides
namespace Go.Proofs.Qxb6615716a.fnEnvNameKeepsJoinsAndOrder
open Go.ChangeShapes Go.WideShapes Go.ChangeAt Go.RowKit
open Go.ChangeMaps (open_string shut_string)
set_option linter.unusedVariables false      -- a walk need not use every 'w<i>' (that an integer argument fits its kind)

theorem own : ownKnob Try.prog.godebug = none := by kernel_rfl

theorem tl_data (s : ByteArray) : s.toList = s.data.toList := by
  obtain ⟨⟨l⟩⟩ := s
  simp

theorem env_tl (s : ByteArray) : ((⟨#[101, 110, 118, 46]⟩ : ByteArray) ++ s).toList = 101 :: 110 :: 118 :: 46 :: s.toList := by
  rw [tl_data, tl_data, ByteArray.data_append, Array.toList_append]
  rfl

theorem env_eq (a b : ByteArray) : (((⟨#[101, 110, 118, 46]⟩ : ByteArray) ++ a).toList == ((⟨#[101, 110, 118, 46]⟩ : ByteArray) ++ b).toList) = (a.toList == b.toList) := by
  rw [env_tl, env_tl]
  simp

theorem env_less (a b : ByteArray) : Op.bytesLess ((⟨#[101, 110, 118, 46]⟩ : ByteArray) ++ a).toList ((⟨#[101, 110, 118, 46]⟩ : ByteArray) ++ b).toList = Op.bytesLess a.toList b.toList := by
  rw [env_tl, env_tl]
  simp [Op.bytesLess]

theorem env_ne (a : ByteArray) : (((⟨#[101, 110, 118, 46]⟩ : ByteArray) ++ a).toList == a.toList) = false := by
  rw [env_tl]
  apply beq_eq_false_iff_ne.2
  intro h
  have := congrArg List.length h
  simp only [List.length_cons] at this
  omega

theorem walk (a0 : ByteArray) (a1 : ByteArray) (w0 : a0.size ≤ maxLen) (w1 : a1.size ≤ maxLen) (w : World) :
    Calls Try.prog 4 #[.string a0, .string a1] w fun e w' => e = .returned (.bool true) ∧ Grown w w' := by
  unfold maxLen at w0 w1
  go_enter Try.func4, Try.ntmps4
  go_wp2
  all_goals go_ret
  all_goals first
    | exact absurd (env_less a0 a1) (by assumption)
    | exact absurd (env_eq a0 a1) (by assumption)
    | (refine ⟨?_, Grown.refl _⟩; rfl)
    | (refine ⟨?_, Grown.refl _⟩; rw [env_ne a0]; rfl)

/-! ### THE ROW's STEP: WRITTEN OUT: LEAVE IT -/
set_option maxRecDepth 100000 in
theorem lifted (os : Os) (started : os.Started) (H : Type) (enc : TypeId × Value → H) :
    ReturnsInHanded {} Try.checked os 4 .any (Rows.fnEnvNameKeepsJoinsAndOrderSpec.pre6 enc Try.prog Try.f4 Rows.fnEnvNameKeepsJoinsAndOrderRow.domain false) (Rows.fnEnvNameKeepsJoinsAndOrderSpec.post enc Try.prog Try.f4 false true false false) := by
  refine returnsInHanded_of_change (C := Try.checked) own started (by kernel_rfl) Try.func4
    (ChangeSpec.witness6 (enc := enc) (C := Try.checked) false ⟨#[], #[.string ByteArray.empty, .string ByteArray.empty], []⟩ 8 (by kernel_rfl) (by kernel_rfl) (by kernel_rfl) (by kernel_rfl)) ?_
  intro W base args ds gs before hval0 hW hcnd _
  have hval : ∀ (j : Nat) t v, Try.f4.params[j]? = some t → args[j]? = some v → Value.okWide Try.prog W .any base t v := hval0
  have hW' := hW
  obtain ⟨p, q, hA0, hV, rfl, hfz, hnd⟩ := hW
  have hA : DataW.TrodAll enc Try.prog W 0 (fun _ => true) true Try.f4.params.toList args.toList ds p := hA0
  rw [Try.params4] at hA hval
  obtain ⟨v0, vs0, d0, ds0, p0, q0, hargs, rfl, rfl, h0, r0⟩ := trodAll_cons hA
  obtain ⟨v1, vs1, d1, ds1, p1, q1, rfl, rfl, rfl, h1, r1⟩ := trodAll_cons r0
  obtain ⟨rfl, rfl, rfl⟩ := trodAll_nil r1
  obtain rfl : args = #[v0, v1] := by cases args; simp_all
  obtain ⟨rfl, rfl⟩ := trodVars_none hV
  obtain ⟨a0, rfl, rfl, rfl, w0⟩ := open_string Try.underlying9 (hval 0 9 v0 rfl rfl) h0
  obtain ⟨a1, rfl, rfl, rfl, w1⟩ := open_string Try.underlying9 (hval 1 9 v1 rfl rfl) h1
  clear hA0 hval0
  simp only [List.append_nil] at hW'
  refine (walk a0 a1 w0 w1 W).mono fun e W' ⟨he, hg⟩ => ?_
  subst he
  exact ⟨_, rfl, post_of_same (pa := []) (pv := []) hW' (fun _ _ _ => (trodAll_cons_mk (shut_bool Try.underlying4 _) trodAll_mk0)) (fun sp _ => (trodAll_cons_mk (shut_string Try.underlying9 w0) (trodAll_cons_mk (shut_string Try.underlying9 w1) trodAll_mk0))) (fun _ _ => rfl) rfl
    (hg.frame _) hg.2.1 (ok_one (by kernel_rfl) rfl (okWide_bool_mk Try.underlying4 _))⟩

theorem over : Rows.fnEnvNameKeepsJoinsAndOrderRow.holds Try.pinned (OpenSpec.ofChange Rows.fnEnvNameKeepsJoinsAndOrderSpec) :=
  OpenClaim.holds_of_wide 4 Try.f4 rfl rfl rfl rfl rfl rfl rfl ⟨rfl, rfl, rfl, rfl, rfl⟩ rfl rfl rfl rfl rfl (by kernel_rfl) Try.func4 (by kernel_rfl)
    (of_decide_eq_true (by kernel_rfl)) (by unfold Func.isWrapper; first | (rw [if_pos (by decide +kernel)]; kernel_rfl) | (rw [if_neg (by decide +kernel)]; exact ⟨rfl, rfl⟩))
    (fun os started H enc _ => lifted os started H enc)

theorem proved : Rows.FnEnvNameKeepsJoinsAndOrderSaid :=
  over
end Go.Proofs.Qxb6615716a.fnEnvNameKeepsJoinsAndOrder

namespace Go.Proofs.Qxb6615716a
theorem fnEnvNameKeepsJoinsAndOrder_proved : Rows.FnEnvNameKeepsJoinsAndOrderSaid :=
  fnEnvNameKeepsJoinsAndOrder.proved
end Go.Proofs.Qxb6615716a
