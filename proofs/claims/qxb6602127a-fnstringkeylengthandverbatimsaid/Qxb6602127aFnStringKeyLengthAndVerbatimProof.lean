/-
  The proof of one statement of this seat. The frame is the guide's template for this function; the walk is ours.
-/
import Derived.Test.Qxb6602127aRows
import Derived.WalkKit
import Derived.ProofKit
import Derived.OpenShut
import Derived.ShutString
import Derived.Test.Qxb6602127aKey
import Derived.Test.Qxb6602127aVerb
import Derived.ChangeOld
import Derived.Below
namespace Go.Proofs.Qxb6602127a.fnStringKeyLengthAndVerbatim
open Go.ChangeShapes Go.WideShapes Go.ChangeAt Go.RowKit
open Go.ChangeMaps (open_string shut_string)
set_option linter.unusedVariables false      -- a walk need not use every 'w<i>' (that an integer argument fits its kind)

theorem own : ownKnob Try.prog.godebug = none := by kernel_rfl

theorem key_size (a : ByteArray) : a.size + 4 ≤ (keyStr a).size ∧ (keyStr a).size ≤ 2 * a.size + 4 := by
  have h := Plain.esc_len a.data.toList
  have h2 := Plain.key_len a.data.toList
  have e1 : a.data.toList.length = a.size := by simp
  have e2 : (keyStr a).size = (Plain.key a.data.toList).length := by simp [keyStr, ByteArray.size]
  omega

theorem verb (a : ByteArray) : ((keyStr a).toList == ((⟨#[91, 34]⟩ : ByteArray) ++ a ++ (⟨#[34, 93]⟩ : ByteArray)).toList) = Plain.plain a.data.toList := by
  rw [← Plain.verbatim, ByteArray.toList_eq, ByteArray.toList_eq, ByteArray.data_append, ByteArray.data_append, Array.toList_append, Array.toList_append]
  rfl

theorem ret_bool {a b : Bool} (h : a = b) : Ending.returned (.bool a) = .returned (.bool b) := by rw [h]

theorem walk (a0 : ByteArray) (w0 : a0.size ≤ maxLen) (w : World) :
    Calls Try.prog 5 #[.string a0] w fun e w' => e = .returned (.bool true) ∧ Below w.heap.size w w' := by
  by_cases h : a0.size ≤ 1048576
  · obtain ⟨hz1, hz2⟩ := key_size a0
    have HD : Hid (((keyStr a0).toList == ((⟨#[91, 34]⟩ : ByteArray) ++ a0 ++ (⟨#[34, 93]⟩ : ByteArray)).toList) = Plain.plain a0.data.toList) := verb a0
    have hk := key_any a0 w h
    generalize keyStr a0 = K at *
    have HK : Hid (Calls Try.prog 7 #[.string a0] w fun e w' => e = .returned (.string K) ∧ Below w.heap.size w w') := hk
    clear hk
    go_enter Try.func5, Try.ntmps5
    go_wp2_with (first | (go_at_call 7; refine HK.out.mono ?_; rintro e w1 ⟨rfl, hb⟩) | (go_at_call 11; go_in))
    refine (V.plain_any a0 _ h).mono ?_
    rintro e w2 ⟨rfl, rfl⟩
    go_wp2_with fail
    go_ret
    exact ⟨ret_bool (by rw [HD.out]; exact beq_self_eq_true _), hb⟩
  · go_enter Try.func5, Try.ntmps5
    go_wp2
    go_ret
    exact ⟨rfl, Below.refl _ _⟩

/-! ### the row's step -/
set_option maxRecDepth 100000 in
theorem lifted (os : Os) (started : os.Started) (H : Type) (enc : TypeId × Value → H) :
    ReturnsInHanded {} Try.checked os 5 .any (Rows.fnStringKeyLengthAndVerbatimSpec.pre6 enc Try.prog Try.f5 Rows.fnStringKeyLengthAndVerbatimRow.domain false) (Rows.fnStringKeyLengthAndVerbatimSpec.post enc Try.prog Try.f5 false true false false) := by
  refine returnsInHanded_of_change (C := Try.checked) own started (by kernel_rfl) Try.func5
    (ChangeSpec.witness6 (enc := enc) (C := Try.checked) false ⟨#[], #[.string ByteArray.empty], []⟩ 8 (by kernel_rfl) (by kernel_rfl) (by kernel_rfl) (by kernel_rfl)) ?_
  intro W base args ds gs before hval0 hW hcnd _
  have hval : ∀ (j : Nat) t v, Try.f5.params[j]? = some t → args[j]? = some v → Value.okWide Try.prog W .any base t v := hval0
  have hW' := hW
  obtain ⟨p, q, hA0, hV, rfl, hfz, hnd⟩ := hW
  have hA : DataW.TrodAll enc Try.prog W 0 (fun _ => true) true Try.f5.params.toList args.toList ds p := hA0
  rw [Try.params5] at hA hval
  obtain ⟨v0, vs0, d0, ds0, p0, q0, hargs, rfl, rfl, h0, r0⟩ := trodAll_cons hA
  obtain ⟨rfl, rfl, rfl⟩ := trodAll_nil r0
  obtain rfl : args = #[v0] := by cases args; simp_all
  obtain ⟨rfl, rfl⟩ := trodVars_none hV
  obtain ⟨a0, rfl, rfl, rfl, w0⟩ := open_string Try.underlying9 (hval 0 9 v0 rfl rfl) h0
  clear hA0 hval0
  refine (walk a0 w0 W).mono fun e W' ⟨he, bel⟩ => ?_
  subst he
  exact ⟨_, rfl, _, _, _, [], _, [], hW', (trodAll_cons_mk (shut_bool Try.underlying4 _) trodAll_mk0), (trodAll_cons_mk (shut_string Try.underlying9 w0) trodAll_mk0), rfl, bel.frame _, fun h => by cases h⟩

theorem over : Rows.fnStringKeyLengthAndVerbatimRow.holds Try.pinned (OpenSpec.ofChange Rows.fnStringKeyLengthAndVerbatimSpec) :=
  OpenClaim.holds_of_wide 5 Try.f5 rfl rfl rfl rfl rfl rfl rfl ⟨rfl, rfl, rfl, rfl, rfl⟩ rfl rfl rfl rfl rfl (by kernel_rfl) Try.func5 (by kernel_rfl)
    (of_decide_eq_true (by kernel_rfl)) (by unfold Func.isWrapper; first | (rw [if_pos (by decide +kernel)]; kernel_rfl) | (rw [if_neg (by decide +kernel)]; exact ⟨rfl, rfl⟩))
    (fun os started H enc _ => lifted os started H enc)

/-- the statement -/
theorem proved : Rows.FnStringKeyLengthAndVerbatimSaid :=
  over
end Go.Proofs.Qxb6602127a.fnStringKeyLengthAndVerbatim
