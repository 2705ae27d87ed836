import Derived.Test.Qxb6602363aClone2
import Derived.WalkKit
import Derived.ProofKit
import Derived.OpenShut
import Derived.Deep.Matrix
import Derived.Deep.Grids
namespace Go.Proofs.Qxb6602363a
open Go.ChangeShapes Go.WideShapes Go.ChangeAt Go.RowKit Go.Deep
set_option linter.unusedVariables false

theorem sl_of {W : World} {a : Option Addr} {x : Addr} {len cap : Nat} {g : Nat → Value} (ha : a = some x) (hl : len ≤ cap) (hm : cap ≤ maxLen) (h : ∀ i, i < cap → W.cell? (x.add i) = some (g i)) : Sl W (.slice a len cap) len g := by
  subst ha
  refine ⟨some x, cap, rfl, hl, hm, (fun e => by cases e), ?_⟩
  by_cases h0 : len = 0
  · exact Or.inl h0
  · right
    have h1 := World.cell?_spot (h 0 (by omega))
    obtain ⟨b, off, sp⟩ := x
    have hs : sp = none := by
      cases sp with
      | none => rfl
      | some s => simp [Addr.add] at h1
    subst hs
    exact ⟨b, off, rfl, fun j hj => by rw [← add_plain]; exact h j (by omega)⟩

theorem sl_nil (W : World) (g : Nat → Value) : Sl W (.slice none 0 0) 0 g := ⟨none, 0, rfl, Nat.le_refl _, Nat.zero_le _, fun _ => rfl, Or.inl rfl⟩

section
variable {H : Type} {enc : TypeId × Value → H} {W : World} {a : Option Addr} {len cap : Nat} {x : DataW H × List MemPlace}

theorem opened_ints {fuel : Nat} (h : DataW.trod enc Try.prog W 0 (fun _ => true) true fuel 22 [.slice a len cap] = some x) : ∃ z, Sl W (.slice a len cap) len (ints z) := by
  rcases open_ints Try.underlying22 Try.underlying3 (by kernel_rfl) h with ⟨hcs, _⟩ | ⟨y, l, c, zs, hcs, _, hl, hm, hz, _, hcell, hwz⟩
  · simp only [List.cons.injEq, and_true, Value.slice.injEq] at hcs
    obtain ⟨rfl, rfl, rfl⟩ := hcs
    exact ⟨fun _ => 0, sl_nil _ _⟩
  · simp only [List.cons.injEq, and_true, Value.slice.injEq] at hcs
    obtain ⟨h1, rfl, rfl⟩ := hcs
    simp only [if_true] at hz
    exact ⟨fun i => zs.getD i 0, sl_of h1 hl hm (fun i hi => hcell i (by omega))⟩

theorem opened_bools {fuel : Nat} (h : DataW.trod enc Try.prog W 0 (fun _ => true) true fuel 24 [.slice a len cap] = some x) : ∃ z, Sl W (.slice a len cap) len (bools z) := by
  rcases open_bools Try.underlying24 Try.underlying4 (by kernel_rfl) h with ⟨hcs, _⟩ | ⟨y, l, c, B, hcs, _, hl, hm, _, hcell⟩
  · simp only [List.cons.injEq, and_true, Value.slice.injEq] at hcs
    obtain ⟨rfl, rfl, rfl⟩ := hcs
    exact ⟨fun _ => false, sl_nil _ _⟩
  · simp only [List.cons.injEq, and_true, Value.slice.injEq] at hcs
    obtain ⟨h1, rfl, rfl⟩ := hcs
    exact ⟨B, sl_of h1 hl hm hcell⟩

theorem opened_rows {fuel : Nat} (h : DataW.trod enc Try.prog W 0 (fun _ => true) true fuel 23 [.slice a len cap] = some x) : ∃ L Z, Ints2 W (.slice a len cap) len L Z := by
  rcases open_int_rows Try.underlying23 Try.underlying22 Try.underlying3 (by kernel_rfl) (by kernel_rfl) h with ⟨hcs, _⟩ | ⟨y, l, c, A, L, C, Z, hcs, _, hl, hm, _, hcell⟩
  · simp only [List.cons.injEq, and_true, Value.slice.injEq] at hcs
    obtain ⟨rfl, rfl, rfl⟩ := hcs
    exact ⟨fun _ => 0, fun _ _ => 0, fun _ => .slice none 0 0, sl_nil _ _, fun j hj => absurd hj (by omega)⟩
  · simp only [List.cons.injEq, and_true, Value.slice.injEq] at hcs
    obtain ⟨h1, rfl, rfl⟩ := hcs
    refine ⟨L, fun r i => (Z r).getD i 0, fun r => .slice (A r) (L r) (C r), sl_of h1 hl hm (fun i hi => (hcell i hi).1), fun j hj => ?_⟩
    obtain ⟨_, e1, e2, e3, _, e5, e6⟩ := hcell j (by omega)
    show Sl W (.slice (A j) (L j) (C j)) (L j) (ints fun i => (Z j).getD i 0)
    cases hA : A j with
    | none =>
      have h0 := e5 hA
      have h2 : L j = 0 := by omega
      rw [h0, h2]; exact sl_nil _ _
    | some a' =>
      exact sl_of rfl e1 e2 (e6 a' hA).2

end
end Go.Proofs.Qxb6602363a
