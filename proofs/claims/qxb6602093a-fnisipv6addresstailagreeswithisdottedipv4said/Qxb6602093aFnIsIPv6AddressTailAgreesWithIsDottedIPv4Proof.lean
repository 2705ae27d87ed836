/-
  The proof of one statement of this seat. The frame is the guide's template for this function; the walk is ours.
-/
import Derived.Test.Qxb6602093aRows
import Derived.WalkKit
import Derived.ProofKit
import Derived.OpenShut
import Derived.ShutString
import Derived.Test.Qxb6602093aWalkE
import Derived.ChangeOld
import Derived.Below
namespace Go.Proofs.Qxb6602093a.fnIsIPv6AddressTailAgreesWithIsDottedIPv4
open Go.ChangeShapes Go.WideShapes Go.ChangeAt Go.RowKit
open Go.ChangeMaps (open_string shut_string)
set_option linter.unusedVariables false      -- a walk need not use every 'w<i>' (that an integer argument fits its kind)

theorem own : ownKnob Try.prog.godebug = none := by kernel_rfl

theorem zzV6 (a : ByteArray) (w : World) (h : a.size ≤ 1048576) (hd : Plain.hasDot a.data.toList = true) :
    Calls Try.prog 10 #[.string ((⟨#[49, 58, 50, 58, 51, 58, 52, 58, 53, 58, 54, 58]⟩ : ByteArray) ++ a)] w fun e w' => e = .returned (.bool (Plain.dotted a.data.toList)) ∧ w' = w := by
  have hz : ((⟨#[49, 58, 50, 58, 51, 58, 52, 58, 53, 58, 54, 58]⟩ : ByteArray) ++ a).size = 12 + a.size := by rw [ByteArray.size_append]; rfl
  have hl : ((⟨#[49, 58, 50, 58, 51, 58, 52, 58, 53, 58, 54, 58]⟩ : ByteArray) ++ a).data.toList = Plain.pre ++ a.data.toList := by
    rw [ByteArray.data_append, Array.toList_append]; rfl
  have h0 : ((⟨#[49, 58, 50, 58, 51, 58, 52, 58, 53, 58, 54, 58]⟩ : ByteArray) ++ a)[0]'(by omega) = 49 := by
    rw [ByteArray.getElem_append_left (by decide)]; rfl
  have hv := Plain.ipv6_tail a.data.toList hd
  unfold Plain.ipv6 at hv
  rw [if_neg (by simp [Plain.pre]), if_neg (by simp [Plain.pre]), ← hl] at hv
  have c := isIPv6_any ((⟨#[49, 58, 50, 58, 51, 58, 52, 58, 53, 58, 54, 58]⟩ : ByteArray) ++ a) w (by omega) (by omega) (by rw [h0]; decide)
  rw [hv] at c
  clear hz hl h0 hv
  generalize (⟨#[49, 58, 50, 58, 51, 58, 52, 58, 53, 58, 54, 58]⟩ : ByteArray) ++ a = t at *
  have C : Hid (Calls Try.prog 23 #[.string t] w fun e w' => e = .returned (.bool (Plain.dotted a.data.toList)) ∧ w' = w) := c
  clear c
  go_enter Try.func10, Try.ntmps10
  go_wp2_with (go_at_call 23; refine C.out.mono ?_; rintro e w' ⟨rfl, rfl⟩)
  go_ret
  exact ⟨rfl, rfl⟩

theorem zzDotted (s : ByteArray) (w : World) (hs : s.size ≤ maxLen) :
    Calls Try.prog 18 #[.string s] w fun e w' => e = .returned (.bool (Plain.dotted s.data.toList)) ∧ w' = w := by
  go_enter Try.func18, Try.ntmps18
  go_wp2_with (go_at_call 25; refine (isDotted_any s _ hs).mono ?_; rintro e w' ⟨rfl, rfl⟩)
  go_ret
  exact ⟨rfl, rfl⟩

theorem walk (a0 : ByteArray) (w0 : a0.size ≤ maxLen) (w : World) :
    Calls Try.prog 6 #[.string a0] w fun e w' => e = .returned (.bool true) ∧ Below w.heap.size w w' := by
  by_cases h : a0.size ≤ 1048576
  · cases hd : Plain.hasDot a0.data.toList with
    | true =>
      have HD : Hid (Plain.hasDot a0.data.toList = true) := hd
      clear hd
      go_enter Try.func6, Try.ntmps6
      go_wp2_with (first | (go_at_call 17; refine (hasDot_any a0 _ h).mono ?_; rw [HD.out]; rintro e w' ⟨rfl, rfl⟩) | (go_at_call 16; go_in))
      refine (zzV6 a0 _ h HD.out).mono ?_
      rintro e w' ⟨rfl, rfl⟩
      go_wp2_with (go_at_call 18; refine (zzDotted a0 _ w0).mono ?_; rintro e w' ⟨rfl, rfl⟩)
      go_ret
      exact ⟨ret_bool (by simp), Below.refl _ _⟩
    | false =>
      have HD : Hid (Plain.hasDot a0.data.toList = false) := hd
      clear hd
      go_enter Try.func6, Try.ntmps6
      go_wp2_with (first | (go_at_call 17; refine (hasDot_any a0 _ h).mono ?_; rw [HD.out]; rintro e w' ⟨rfl, rfl⟩) | (go_at_call 16; go_in))
      go_ret
      exact ⟨rfl, Below.refl _ _⟩
  · go_enter Try.func6, Try.ntmps6
    go_wp2
    go_ret
    exact ⟨rfl, Below.refl _ _⟩

/-! ### the row's step -/
set_option maxRecDepth 100000 in
theorem lifted (os : Os) (started : os.Started) (H : Type) (enc : TypeId × Value → H) :
    ReturnsInHanded {} Try.checked os 6 .any (Rows.fnIsIPv6AddressTailAgreesWithIsDottedIPv4Spec.pre6 enc Try.prog Try.f6 Rows.fnIsIPv6AddressTailAgreesWithIsDottedIPv4Row.domain false) (Rows.fnIsIPv6AddressTailAgreesWithIsDottedIPv4Spec.post enc Try.prog Try.f6 false true false false) := by
  refine returnsInHanded_of_change (C := Try.checked) own started (by kernel_rfl) Try.func6
    (ChangeSpec.witness6 (enc := enc) (C := Try.checked) false ⟨#[], #[.string ByteArray.empty], []⟩ 8 (by kernel_rfl) (by kernel_rfl) (by kernel_rfl) (by kernel_rfl)) ?_
  intro W base args ds gs before hval0 hW hcnd _
  have hval : ∀ (j : Nat) t v, Try.f6.params[j]? = some t → args[j]? = some v → Value.okWide Try.prog W .any base t v := hval0
  have hW' := hW
  obtain ⟨p, q, hA0, hV, rfl, hfz, hnd⟩ := hW
  have hA : DataW.TrodAll enc Try.prog W 0 (fun _ => true) true Try.f6.params.toList args.toList ds p := hA0
  rw [Try.params6] at hA hval
  obtain ⟨v0, vs0, d0, ds0, p0, q0, hargs, rfl, rfl, h0, r0⟩ := trodAll_cons hA
  obtain ⟨rfl, rfl, rfl⟩ := trodAll_nil r0
  obtain rfl : args = #[v0] := by cases args; simp_all
  obtain ⟨rfl, rfl⟩ := trodVars_none hV
  obtain ⟨a0, rfl, rfl, rfl, w0⟩ := open_string Try.underlying9 (hval 0 9 v0 rfl rfl) h0
  clear hA0 hval0
  refine (walk a0 w0 W).mono fun e W' ⟨he, bel⟩ => ?_
  subst he
  exact ⟨_, rfl, _, _, _, [], _, [], hW', (trodAll_cons_mk (shut_bool Try.underlying4 _) trodAll_mk0), (trodAll_cons_mk (shut_string Try.underlying9 w0) trodAll_mk0), rfl, bel.frame _, fun h => by cases h⟩

theorem over : Rows.fnIsIPv6AddressTailAgreesWithIsDottedIPv4Row.holds Try.pinned (OpenSpec.ofChange Rows.fnIsIPv6AddressTailAgreesWithIsDottedIPv4Spec) :=
  OpenClaim.holds_of_wide 6 Try.f6 rfl rfl rfl rfl rfl rfl rfl ⟨rfl, rfl, rfl, rfl, rfl⟩ rfl rfl rfl rfl rfl (by kernel_rfl) Try.func6 (by kernel_rfl)
    (of_decide_eq_true (by kernel_rfl)) (by unfold Func.isWrapper; first | (rw [if_pos (by decide +kernel)]; kernel_rfl) | (rw [if_neg (by decide +kernel)]; exact ⟨rfl, rfl⟩))
    (fun os started H enc _ => lifted os started H enc)

/-- the statement -/
theorem proved : Rows.FnIsIPv6AddressTailAgreesWithIsDottedIPv4Said :=
  over
end Go.Proofs.Qxb6602093a.fnIsIPv6AddressTailAgreesWithIsDottedIPv4
