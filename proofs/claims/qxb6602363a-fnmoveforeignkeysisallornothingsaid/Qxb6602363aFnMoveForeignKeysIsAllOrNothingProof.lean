/-
  The proof of one statement of this seat. The frame is the guide's template for a law that takes slices, turned to this function; the walk is ours.
-/
import Derived.Test.Qxb6602363aRows
import Derived.WalkKit
import Derived.ProofKit
import Derived.OpenShut
import Derived.ShutString
import Derived.ChangeOld
import Derived.Below
import Derived.Test.Qxb6602363aOpen
import Derived.Test.Qxb6602363aLaw3t
import Derived.Test.Qxb6602363aLaw3f
namespace Go.Proofs.Qxb6602363a.fnMoveForeignKeysIsAllOrNothing
open Go.ChangeShapes Go.WideShapes Go.ChangeAt Go.RowKit
set_option linter.unusedVariables false

theorem own : ownKnob Try.prog.godebug = none := by kernel_rfl
theorem laidOut : laidOutB Try.prog = true := by kernel_rfl

theorem walk {v0 v1 v2 v3 v4 v5 v6 v7 : Value} {n0 n1 n2 n3 n4 n5 n6 n7 : Nat} {z0 z1 : Nat → Int} {L2 L3 : Nat → Nat} {Z2 Z3 : Nat → Nat → Int} {ic ip cof pof : Nat → Bool} (tf : Bool) (w : World)
    (h0 : Sl w v0 n0 (ints z0)) (h1 : Sl w v1 n1 (ints z1)) (h2 : Ints2 w v2 n2 L2 Z2) (h3 : Ints2 w v3 n3 L3 Z3) (h4 : Sl w v4 n4 (bools ic)) (h5 : Sl w v5 n5 (bools ip)) (h6 : Sl w v6 n6 (bools cof)) (h7 : Sl w v7 n7 (bools pof)) :
    Calls Try.prog 3 #[v0, v1, .bool tf, v2, v3, v4, v5, v6, v7] w fun e w' => e = .returned (.bool true) ∧ Below w.heap.size w w' := by
  cases tf with
  | true => exact law3t v0 v1 v2 v3 v4 v5 v6 v7 n0 n1 n2 n3 n4 n5 n6 n7 z0 z1 L2 L3 Z2 Z3 ic ip cof pof w h0 h1 h2 h3 h4 h5 h6 h7
  | false => exact law3f v0 v1 v2 v3 v4 v5 v6 v7 n0 n1 n2 n3 n4 n5 n6 n7 z0 z1 L2 L3 Z2 Z3 ic ip cof pof w h0 h1 h2 h3 h4 h5 h6 h7

set_option maxRecDepth 100000 in
theorem lifted (os : Os) (started : os.Started) (H : Type) (enc : TypeId × Value → H) :
    ReturnsInHanded {} Try.checked os 3 .any (Rows.fnMoveForeignKeysIsAllOrNothingSpec.pre6 enc Try.prog Try.f3 Rows.fnMoveForeignKeysIsAllOrNothingRow.domain false) (Rows.fnMoveForeignKeysIsAllOrNothingSpec.post enc Try.prog Try.f3 false true false false) := by
  refine returnsInHanded_of_change (C := Try.checked) own started (by kernel_rfl) Try.func3
    (ChangeSpec.witness6 (enc := enc) (C := Try.checked) false ⟨#[], #[.slice none 0 0, .slice none 0 0, .bool false, .slice none 0 0, .slice none 0 0, .slice none 0 0, .slice none 0 0, .slice none 0 0, .slice none 0 0], []⟩ 8 (by kernel_rfl) (by kernel_rfl) (by kernel_rfl) (by kernel_rfl)) ?_
  intro W base args ds gs before hval0 hW hcnd _
  have hval : ∀ (j : Nat) t v, Try.f3.params[j]? = some t → args[j]? = some v → Value.okWide Try.prog W .any base t v := hval0
  have hW' := hW
  obtain ⟨p, q, hA0, hV, rfl, hfz, hnd⟩ := hW
  have hA : DataW.TrodAll enc Try.prog W 0 (fun _ => true) true Try.f3.params.toList args.toList ds p := hA0
  rw [Try.params3] at hA hval
  obtain ⟨v0, vs0, d0, ds0, p0, q0, hargs, rfl, rfl, h0, r0⟩ := trodAll_cons hA
  obtain ⟨v1, vs1, d1, ds1, p1, q1, rfl, rfl, rfl, h1, r1⟩ := trodAll_cons r0
  obtain ⟨v2, vs2, d2, ds2, p2, q2, rfl, rfl, rfl, h2, r2⟩ := trodAll_cons r1
  obtain ⟨v3, vs3, d3, ds3, p3, q3, rfl, rfl, rfl, h3, r3⟩ := trodAll_cons r2
  obtain ⟨v4, vs4, d4, ds4, p4, q4, rfl, rfl, rfl, h4, r4⟩ := trodAll_cons r3
  obtain ⟨v5, vs5, d5, ds5, p5, q5, rfl, rfl, rfl, h5, r5⟩ := trodAll_cons r4
  obtain ⟨v6, vs6, d6, ds6, p6, q6, rfl, rfl, rfl, h6, r6⟩ := trodAll_cons r5
  obtain ⟨v7, vs7, d7, ds7, p7, q7, rfl, rfl, rfl, h7, r7⟩ := trodAll_cons r6
  obtain ⟨v8, vs8, d8, ds8, p8, q8, rfl, rfl, rfl, h8, r8⟩ := trodAll_cons r7
  obtain ⟨rfl, rfl, rfl⟩ := trodAll_nil r8
  obtain rfl : args = #[v0, v1, v2, v3, v4, v5, v6, v7, v8] := by cases args; simp_all
  obtain ⟨rfl, rfl⟩ := trodVars_none hV
  obtain ⟨a0, len0, cap0, rfl⟩ := okWide_slice Try.underlying22 (hval 0 22 v0 rfl rfl)
  have k0 := h0
  have lt0 : ∀ x ∈ p0, x.block < W.heap.size := by obtain ⟨m, hm⟩ := k0; exact DataW.trod_lt m _ _ _ hm
  obtain ⟨Z0, s0⟩ : ∃ z, Sl W (.slice a0 len0 cap0) len0 (ints z) := by obtain ⟨m, hm⟩ := h0; exact opened_ints hm
  obtain ⟨a1, len1, cap1, rfl⟩ := okWide_slice Try.underlying22 (hval 1 22 v1 rfl rfl)
  have k1 := h1
  have lt1 : ∀ x ∈ p1, x.block < W.heap.size := by obtain ⟨m, hm⟩ := k1; exact DataW.trod_lt m _ _ _ hm
  obtain ⟨Z1, s1⟩ : ∃ z, Sl W (.slice a1 len1 cap1) len1 (ints z) := by obtain ⟨m, hm⟩ := h1; exact opened_ints hm
  obtain ⟨tf, rfl, rfl, rfl⟩ := open_bool Try.underlying4 (hval 2 4 v2 rfl rfl) h2
  obtain ⟨a3, len3, cap3, rfl⟩ := okWide_slice Try.underlying23 (hval 3 23 v3 rfl rfl)
  have k3 := h3
  have lt3 : ∀ x ∈ p3, x.block < W.heap.size := by obtain ⟨m, hm⟩ := k3; exact DataW.trod_lt m _ _ _ hm
  obtain ⟨L3, Z3, s3⟩ : ∃ L Z, Ints2 W (.slice a3 len3 cap3) len3 L Z := by obtain ⟨m, hm⟩ := h3; exact opened_rows hm
  obtain ⟨a4, len4, cap4, rfl⟩ := okWide_slice Try.underlying23 (hval 4 23 v4 rfl rfl)
  have k4 := h4
  have lt4 : ∀ x ∈ p4, x.block < W.heap.size := by obtain ⟨m, hm⟩ := k4; exact DataW.trod_lt m _ _ _ hm
  obtain ⟨L4, Z4, s4⟩ : ∃ L Z, Ints2 W (.slice a4 len4 cap4) len4 L Z := by obtain ⟨m, hm⟩ := h4; exact opened_rows hm
  obtain ⟨a5, len5, cap5, rfl⟩ := okWide_slice Try.underlying24 (hval 5 24 v5 rfl rfl)
  have k5 := h5
  have lt5 : ∀ x ∈ p5, x.block < W.heap.size := by obtain ⟨m, hm⟩ := k5; exact DataW.trod_lt m _ _ _ hm
  obtain ⟨Z5, s5⟩ : ∃ z, Sl W (.slice a5 len5 cap5) len5 (bools z) := by obtain ⟨m, hm⟩ := h5; exact opened_bools hm
  obtain ⟨a6, len6, cap6, rfl⟩ := okWide_slice Try.underlying24 (hval 6 24 v6 rfl rfl)
  have k6 := h6
  have lt6 : ∀ x ∈ p6, x.block < W.heap.size := by obtain ⟨m, hm⟩ := k6; exact DataW.trod_lt m _ _ _ hm
  obtain ⟨Z6, s6⟩ : ∃ z, Sl W (.slice a6 len6 cap6) len6 (bools z) := by obtain ⟨m, hm⟩ := h6; exact opened_bools hm
  obtain ⟨a7, len7, cap7, rfl⟩ := okWide_slice Try.underlying24 (hval 7 24 v7 rfl rfl)
  have k7 := h7
  have lt7 : ∀ x ∈ p7, x.block < W.heap.size := by obtain ⟨m, hm⟩ := k7; exact DataW.trod_lt m _ _ _ hm
  obtain ⟨Z7, s7⟩ : ∃ z, Sl W (.slice a7 len7 cap7) len7 (bools z) := by obtain ⟨m, hm⟩ := h7; exact opened_bools hm
  obtain ⟨a8, len8, cap8, rfl⟩ := okWide_slice Try.underlying24 (hval 8 24 v8 rfl rfl)
  have k8 := h8
  have lt8 : ∀ x ∈ p8, x.block < W.heap.size := by obtain ⟨m, hm⟩ := k8; exact DataW.trod_lt m _ _ _ hm
  obtain ⟨Z8, s8⟩ : ∃ z, Sl W (.slice a8 len8 cap8) len8 (bools z) := by obtain ⟨m, hm⟩ := h8; exact opened_bools hm
  clear hA0 hval0
  refine (walk tf W s0 s1 s3 s4 s5 s6 s7 s8).mono fun e W' ⟨he, bel⟩ => ?_
  subst he
  exact ⟨_, rfl, _, _, _, [], _, [], hW', trodAll_mk1 (shut_bool Try.underlying4 _), (trodAll_cons_mk (Below.trod laidOut (by kernel_rfl) (of_decide_eq_true (by kernel_rfl)) k0 bel lt0) (trodAll_cons_mk (Below.trod laidOut (by kernel_rfl) (of_decide_eq_true (by kernel_rfl)) k1 bel lt1) (trodAll_cons_mk (shut_bool Try.underlying4 _) (trodAll_cons_mk (Below.trod laidOut (by kernel_rfl) (of_decide_eq_true (by kernel_rfl)) k3 bel lt3) (trodAll_cons_mk (Below.trod laidOut (by kernel_rfl) (of_decide_eq_true (by kernel_rfl)) k4 bel lt4) (trodAll_cons_mk (Below.trod laidOut (by kernel_rfl) (of_decide_eq_true (by kernel_rfl)) k5 bel lt5) (trodAll_cons_mk (Below.trod laidOut (by kernel_rfl) (of_decide_eq_true (by kernel_rfl)) k6 bel lt6) (trodAll_cons_mk (Below.trod laidOut (by kernel_rfl) (of_decide_eq_true (by kernel_rfl)) k7 bel lt7) (trodAll_cons_mk (Below.trod laidOut (by kernel_rfl) (of_decide_eq_true (by kernel_rfl)) k8 bel lt8) trodAll_mk0))))))))), rfl, bel.frame _, fun h => by cases h⟩

theorem over : Rows.fnMoveForeignKeysIsAllOrNothingRow.holds Try.pinned (OpenSpec.ofChange Rows.fnMoveForeignKeysIsAllOrNothingSpec) :=
  OpenClaim.holds_of_wide 3 Try.f3 rfl rfl rfl rfl rfl rfl rfl ⟨rfl, rfl, rfl, rfl, rfl⟩ rfl rfl rfl rfl rfl (by kernel_rfl) Try.func3 (by kernel_rfl)
    (of_decide_eq_true (by kernel_rfl)) (by unfold Func.isWrapper; first | (rw [if_pos (by decide +kernel)]; kernel_rfl) | (rw [if_neg (by decide +kernel)]; exact ⟨rfl, rfl⟩))
    (fun os started H enc _ => lifted os started H enc)

/-- the statement -/
theorem proved : Rows.FnMoveForeignKeysIsAllOrNothingSaid :=
  over
end Go.Proofs.Qxb6602363a.fnMoveForeignKeysIsAllOrNothing
