import Derived.Test.Qxb6602363aBase
import Derived.Deep.OwnRows
import Derived.Lib.SliceRun
namespace Go.Proofs.Qxb6602363a
open Go.RowKit
set_option linter.unusedVariables false

/-- a slice whose cells lie in blocks from lo on -/
def SlF (lo : Nat) (w : World) (v : Value) (n : Nat) (g : Nat → Value) : Prop :=
  ∃ a cap, v = .slice a n cap ∧ n ≤ cap ∧ cap ≤ maxLen ∧ (a = none → cap = 0) ∧ (n = 0 ∨ ∃ b off, lo ≤ b ∧ a = some ⟨b, off, none⟩ ∧ ∀ j, j < n → w.cell? ⟨b, off + j, none⟩ = some (g j))

theorem SlF.sl {lo : Nat} {w : World} {v : Value} {n : Nat} {g : Nat → Value} (h : SlF lo w v n g) : Sl w v n g := by
  obtain ⟨a, cap, h1, h2, h3, h4, h5⟩ := h
  refine ⟨a, cap, h1, h2, h3, h4, ?_⟩
  rcases h5 with h | ⟨b, off, _, h6, h7⟩
  · exact Or.inl h
  · exact Or.inr ⟨b, off, h6, h7⟩

theorem SlF.below {lo : Nat} {w w' : World} {v : Value} {n : Nat} {g : Nat → Value} (h : SlF lo w v n g) (hb : Below w.heap.size w w') : SlF lo w' v n g := by
  obtain ⟨a, cap, h1, h2, h3, h4, h5⟩ := h
  refine ⟨a, cap, h1, h2, h3, h4, ?_⟩
  rcases h5 with h | ⟨b, off, h0, h6, h7⟩
  · exact Or.inl h
  · refine Or.inr ⟨b, off, h0, h6, fun j hj => ?_⟩
    have hl := World.block_lt_of_cell? w ⟨b, off + j, none⟩ (h7 j hj)
    rw [hb.cell (p := ⟨b, off + j, none⟩) hl]; exact h7 j hj

theorem Sl.below {w w' : World} {v : Value} {n : Nat} {g : Nat → Value} (h : Sl w v n g) (hb : Below w.heap.size w w') : Sl w' v n g := by
  obtain ⟨a, cap, h1, h2, h3, h4, h5⟩ := h
  refine ⟨a, cap, h1, h2, h3, h4, ?_⟩
  rcases h5 with h | ⟨b, off, h6, h7⟩
  · exact Or.inl h
  · refine Or.inr ⟨b, off, h6, fun j hj => ?_⟩
    have hl := World.block_lt_of_cell? w ⟨b, off + j, none⟩ (h7 j hj)
    rw [hb.cell (p := ⟨b, off + j, none⟩) hl]; exact h7 j hj

theorem SlF.set {lo : Nat} {w : World} {v : Value} {n : Nat} {g : Nat → Value} (h : SlF lo w v n g) (ob k : Nat) (x : Value) (hlo : ob < lo) : SlF lo (w.setCell ⟨ob, k, none⟩ x) v n g := by
  obtain ⟨a, cap, h1, h2, h3, h4, h5⟩ := h
  refine ⟨a, cap, h1, h2, h3, h4, ?_⟩
  rcases h5 with h | ⟨b, off, h0, h6, h7⟩
  · exact Or.inl h
  · refine Or.inr ⟨b, off, h0, h6, fun j hj => ?_⟩
    rw [← h7 j hj]
    exact World.cell?_of_block (w := w) (Below.heap_setCell w _ x b (by simp; omega))

theorem SlF.mono {lo lo' : Nat} {w : World} {v : Value} {n : Nat} {g : Nat → Value} (h : SlF lo w v n g) (hl : lo' ≤ lo) : SlF lo' w v n g := by
  obtain ⟨a, cap, h1, h2, h3, h4, h5⟩ := h
  refine ⟨a, cap, h1, h2, h3, h4, ?_⟩
  rcases h5 with h | ⟨b, off, h0, h6, h7⟩
  · exact Or.inl h
  · exact Or.inr ⟨b, off, by omega, h6, h7⟩

theorem info3 : (Try.prog.info? 3).map (fun i => (i.zero, i.size, i.bytes)) = some (some (.int .i64 0), 1, 8) := by kernel_rfl
theorem info4 : (Try.prog.info? 4).map (fun i => (i.zero, i.size, i.bytes)) = some (some (.bool false), 1, 1) := by kernel_rfl
theorem info22 : (Try.prog.info? 22).map (fun i => (i.zero, i.size, i.bytes)) = some (some (.slice none 0 0), 1, 24) := by kernel_rfl

theorem set_get (A : Array Value) (k : Nat) (x : Value) (g : Nat → Value) (hk : k < A.size) (h : ∀ j, j < k → A[j]? = some (g j)) (hx : x = g k) : ∀ j, j < k + 1 → (A.setIfInBounds k x)[j]? = some (g j) := by
  intro j hj
  rw [Array.getElem?_setIfInBounds]
  by_cases e : k = j
  · subst e; rw [if_pos rfl, if_pos hk, hx]
  · rw [if_neg e]; exact h j (by omega)

set_option maxHeartbeats 1000000 in
theorem cloneInts (v : Value) (n : Nat) (z : Nat → Int) (w : World) (h : Sl w v n (ints z)) (hn : n ≤ 1048576) :
    Calls Try.prog 7 #[v] w fun e w' => ∃ v', e = .returned v' ∧ SlF w.heap.size w' v' n (ints z) ∧ Below w.heap.size w w' := by
  obtain ⟨a, cap, rfl, h1, h2, h4, h3⟩ := h
  have hnil := fun w => Lib.run_eql_slice_nil (P := Try.prog) w 22 3 a n cap 0 0 Try.underlying22
  have hmk := run_make_row' (P := Try.prog) 22 3 (.int .i64 0) 8 Try.underlying22 info3 rfl .i64 .i64 n (by omega) (by omega)
  cases a with
  | none =>
    have hc := h4 rfl
    subst hc
    obtain rfl : n = 0 := by omega
    clear h4 h3 hmk
    go_enter Try.func7, Try.ntmps7
    go_wp2_with fail
    go_ret
    exact ⟨_, rfl, ⟨none, 0, rfl, Nat.le_refl _, Nat.zero_le _, fun _ => rfl, Or.inl rfl⟩, Below.refl _ _⟩
  | some ad =>
    unfold maxLen at h2
    by_cases h0 : n = 0
    · subst h0
      rw [show ((0 : Nat) : Int) = 0 from rfl] at hmk
      clear h3 h4
      go_enter Try.func7, Try.ntmps7
      go_wp2_with fail
      refine wp_loop_rounds 1 ?_
      rw [rounds_succ]
      go_wp2
      go_ret
      exact ⟨_, rfl, ⟨_, _, rfl, Nat.le_refl _, Nat.zero_le _, (fun h => by cases h), Or.inl rfl⟩, (Below.refl _ _).alloc (Nat.le_refl _) _⟩
    · obtain ⟨b, off, hab, hcell⟩ := h3.resolve_left h0
      obtain rfl : ad = ⟨b, off, none⟩ := by injection hab
      have hbl : b < w.heap.size := World.block_lt_of_cell? w ⟨b, off + 0, none⟩ (hcell 0 (by omega))
      clear h3 h4 hab
      go_enter Try.func7, Try.ntmps7
      go_wp2_with fail
      go_loopw [4] (fun i wr => ∃ (k : Nat) (A : Array Value), k ≤ n ∧ i = .int .i64 k ∧ A.size = n ∧ wr = w.alloc (.cells A 3) ∧ Hid (∀ j, j < k → A[j]? = some (ints z j))) (fun i _ => n - (intOf i).toNat)
      case atStart => exact ⟨0, _, by omega, rfl, size_madeCells _ _, rfl, fun j hj => absurd hj (by omega)⟩
      case round =>
        obtain ⟨k, A, hk, rfl, hA, rfl, HA⟩ := hrel
        by_cases hlt : k < n
        · have hx := hcell k hlt
          unfold ints at hx
          obtain ⟨y, hy⟩ : ∃ y, A[k]? = some y := ⟨_, Array.getElem?_eq_getElem (by omega)⟩
          have HA' := hide hA
          clear hA hcell
          go_wp2_with fail
          go_roundw
          case rel => exact ⟨k + 1, _, by omega, by go_num, (Array.size_setIfInBounds ..).trans HA'.out, rfl, set_get A k _ (ints z) (by have := HA'.out; omega) HA.out rfl⟩
          case measure => simp [intOf]; omega
        · have HA' := hide hA
          clear hA hcell
          go_wp2_with fail
          go_ret
          refine ⟨_, rfl, ⟨_, n, rfl, Nat.le_refl _, by unfold maxLen; omega, (fun h => by cases h), Or.inr ⟨w.heap.size, 0, Nat.le_refl _, rfl, fun j hj => ?_⟩⟩, (Below.refl _ _).alloc (Nat.le_refl _) _⟩
          rw [World.cell?_alloc_new, Nat.zero_add]
          exact HA.out j (by omega)

set_option maxHeartbeats 1000000 in
theorem cloneBools (v : Value) (n : Nat) (z : Nat → Bool) (w : World) (h : Sl w v n (bools z)) (hn : n ≤ 1048576) :
    Calls Try.prog 9 #[v] w fun e w' => ∃ v', e = .returned v' ∧ SlF w.heap.size w' v' n (bools z) ∧ Below w.heap.size w w' := by
  obtain ⟨a, cap, rfl, h1, h2, h4, h3⟩ := h
  have hnil := fun w => Lib.run_eql_slice_nil (P := Try.prog) w 24 4 a n cap 0 0 Try.underlying24
  have hmk := run_make_row' (P := Try.prog) 24 4 (.bool false) 1 Try.underlying24 info4 rfl .i64 .i64 n (by omega) (by omega)
  cases a with
  | none =>
    have hc := h4 rfl
    subst hc
    obtain rfl : n = 0 := by omega
    clear h4 h3 hmk
    go_enter Try.func9, Try.ntmps9
    go_wp2_with fail
    go_ret
    exact ⟨_, rfl, ⟨none, 0, rfl, Nat.le_refl _, Nat.zero_le _, fun _ => rfl, Or.inl rfl⟩, Below.refl _ _⟩
  | some ad =>
    unfold maxLen at h2
    by_cases h0 : n = 0
    · subst h0
      rw [show ((0 : Nat) : Int) = 0 from rfl] at hmk
      clear h3 h4
      go_enter Try.func9, Try.ntmps9
      go_wp2_with fail
      refine wp_loop_rounds 1 ?_
      rw [rounds_succ]
      go_wp2
      go_ret
      exact ⟨_, rfl, ⟨_, _, rfl, Nat.le_refl _, Nat.zero_le _, (fun h => by cases h), Or.inl rfl⟩, (Below.refl _ _).alloc (Nat.le_refl _) _⟩
    · obtain ⟨b, off, hab, hcell⟩ := h3.resolve_left h0
      obtain rfl : ad = ⟨b, off, none⟩ := by injection hab
      have hbl : b < w.heap.size := World.block_lt_of_cell? w ⟨b, off + 0, none⟩ (hcell 0 (by omega))
      clear h3 h4 hab
      go_enter Try.func9, Try.ntmps9
      go_wp2_with fail
      go_loopw [4] (fun i wr => ∃ (k : Nat) (A : Array Value), k ≤ n ∧ i = .int .i64 k ∧ A.size = n ∧ wr = w.alloc (.cells A 4) ∧ Hid (∀ j, j < k → A[j]? = some (bools z j))) (fun i _ => n - (intOf i).toNat)
      case atStart => exact ⟨0, _, by omega, rfl, size_madeCells _ _, rfl, fun j hj => absurd hj (by omega)⟩
      case round =>
        obtain ⟨k, A, hk, rfl, hA, rfl, HA⟩ := hrel
        by_cases hlt : k < n
        · have hx := hcell k hlt
          unfold bools at hx
          obtain ⟨y, hy⟩ : ∃ y, A[k]? = some y := ⟨_, Array.getElem?_eq_getElem (by omega)⟩
          have HA' := hide hA
          clear hA hcell
          go_wp2_with fail
          go_roundw
          case rel => exact ⟨k + 1, _, by omega, by go_num, (Array.size_setIfInBounds ..).trans HA'.out, rfl, set_get A k _ (bools z) (by have := HA'.out; omega) HA.out rfl⟩
          case measure => simp [intOf]; omega
        · have HA' := hide hA
          clear hA hcell
          go_wp2_with fail
          go_ret
          refine ⟨_, rfl, ⟨_, n, rfl, Nat.le_refl _, by unfold maxLen; omega, (fun h => by cases h), Or.inr ⟨w.heap.size, 0, Nat.le_refl _, rfl, fun j hj => ?_⟩⟩, (Below.refl _ _).alloc (Nat.le_refl _) _⟩
          rw [World.cell?_alloc_new, Nat.zero_add]
          exact HA.out j (by omega)

end Go.Proofs.Qxb6602363a
