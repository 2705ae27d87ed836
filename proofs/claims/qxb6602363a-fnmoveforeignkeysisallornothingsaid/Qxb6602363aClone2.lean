import Derived.Test.Qxb6602363aClone
import Derived.Lib.Builder
namespace Go.Proofs.Qxb6602363a
open Go.RowKit
set_option linter.unusedVariables false

/-- a slice of slices of integers, readable in w -/
def Ints2 (w : World) (v : Value) (n : Nat) (L : Nat → Nat) (Z : Nat → Nat → Int) : Prop :=
  ∃ vv : Nat → Value, Sl w v n vv ∧ ∀ j, j < n → Sl w (vv j) (L j) (ints (Z j))

def Ints2F (lo : Nat) (w : World) (v : Value) (n : Nat) (L : Nat → Nat) (Z : Nat → Nat → Int) : Prop :=
  ∃ vv : Nat → Value, SlF lo w v n vv ∧ ∀ j, j < n → SlF lo w (vv j) (L j) (ints (Z j))

theorem Ints2F.ints2 {lo : Nat} {w : World} {v : Value} {n : Nat} {L : Nat → Nat} {Z : Nat → Nat → Int} (h : Ints2F lo w v n L Z) : Ints2 w v n L Z := by
  obtain ⟨vv, h1, h2⟩ := h; exact ⟨vv, h1.sl, fun j hj => (h2 j hj).sl⟩

theorem Ints2F.below {lo : Nat} {w w' : World} {v : Value} {n : Nat} {L : Nat → Nat} {Z : Nat → Nat → Int} (h : Ints2F lo w v n L Z) (hb : Below w.heap.size w w') : Ints2F lo w' v n L Z := by
  obtain ⟨vv, h1, h2⟩ := h; exact ⟨vv, h1.below hb, fun j hj => (h2 j hj).below hb⟩

theorem Ints2.below {w w' : World} {v : Value} {n : Nat} {L : Nat → Nat} {Z : Nat → Nat → Int} (h : Ints2 w v n L Z) (hb : Below w.heap.size w w') : Ints2 w' v n L Z := by
  obtain ⟨vv, h1, h2⟩ := h; exact ⟨vv, h1.below hb, fun j hj => (h2 j hj).below hb⟩

/-- where the loop of zzCloneIntss stands at k -/
def C2 (w : World) (n : Nat) (L : Nat → Nat) (Z : Nat → Nat → Int) (k : Nat) (wr : World) : Prop :=
  ∃ (A : Array Value) (vv : Nat → Value), A.size = n ∧ wr.heap[w.heap.size]? = some (.cells A 22 (0, 0)) ∧ Below w.heap.size w wr ∧ ∀ j, j < k → A[j]? = some (vv j) ∧ SlF (w.heap.size + 1) wr (vv j) (L j) (ints (Z j))

theorem block_setCell (w : World) (ob k : Nat) (x : Value) (A : Array Value) (T : TypeId) (h : w.heap[ob]? = some (.cells A T (0, 0))) : (w.setCell ⟨ob, k, none⟩ x).heap[ob]? = some (.cells (A.setIfInBounds k x) T (0, 0)) := by
  simp [World.setCell, Array.getElem?_modify, h]

theorem lt_of_heap {w : World} {b : Nat} {o : Obj} (h : w.heap[b]? = some o) : b < w.heap.size := by
  rcases Nat.lt_or_ge b w.heap.size with h' | h'
  · exact h'
  · simp [Array.getElem?_eq_none h'] at h

theorem c2_step (w : World) (n : Nat) (L : Nat → Nat) (Z : Nat → Nat → Int) (k : Nat) (wr w1 : World) (v1 : Value) (hk : k < n) (h : C2 w n L Z k wr) (hb : Below wr.heap.size wr w1) (h1 : SlF wr.heap.size w1 v1 (L k) (ints (Z k))) :
    C2 w n L Z (k + 1) (w1.setCell ⟨w.heap.size, k, none⟩ v1) := by
  obtain ⟨A, vv, hA, hbk, hbel, hall⟩ := h
  have hlt := lt_of_heap hbk
  have hbk1 : w1.heap[w.heap.size]? = some (.cells A 22 (0, 0)) := by rw [hb.block _ hlt]; exact hbk
  refine ⟨A.setIfInBounds k v1, fun j => if j = k then v1 else vv j, ?_, block_setCell w1 _ k v1 A 22 hbk1, ?_, ?_⟩
  · rw [Array.size_setIfInBounds, hA]
  · exact (hbel.trans (hb.mono (by omega))).setCell (Nat.le_refl _) _
  · intro j hj
    dsimp only
    by_cases e : j = k
    · subst e
      rw [if_pos rfl]
      refine ⟨by rw [Array.getElem?_setIfInBounds, if_pos rfl, if_pos (by omega)], ?_⟩
      exact (h1.mono (by omega)).set _ _ _ (by omega)
    · rw [if_neg e]
      obtain ⟨g1, g2⟩ := hall j (by omega)
      refine ⟨by rw [Array.getElem?_setIfInBounds, if_neg (by omega)]; exact g1, ?_⟩
      exact (g2.below hb).set _ _ _ (by omega)

theorem SlF.form {lo : Nat} {w : World} {v : Value} {n : Nat} {g : Nat → Value} (h : SlF lo w v n g) : ∃ a cap, v = .slice a n cap := by
  obtain ⟨a, cap, h1, _⟩ := h; exact ⟨a, cap, h1⟩
theorem Sl.form {w : World} {v : Value} {n : Nat} {g : Nat → Value} (h : Sl w v n g) : ∃ a cap, v = .slice a n cap := by
  obtain ⟨a, cap, h1, _⟩ := h; exact ⟨a, cap, h1⟩

set_option maxHeartbeats 1000000 in
theorem cloneIntss (v : Value) (n : Nat) (L : Nat → Nat) (Z : Nat → Nat → Int) (w : World) (h : Ints2 w v n L Z) (hn : n ≤ 1048576) (hL : ∀ j, j < n → L j ≤ 1048576) :
    Calls Try.prog 8 #[v] w fun e w' => ∃ v', e = .returned v' ∧ Ints2F w.heap.size w' v' n L Z ∧ Below w.heap.size w w' := by
  obtain ⟨vv, ⟨a, cap, rfl, h1, h2, h4, h3⟩, hvv⟩ := h
  have hnil := fun w => Lib.run_eql_slice_nil (P := Try.prog) w 23 22 a n cap 0 0 Try.underlying23
  have hmk := run_make_row' (P := Try.prog) 23 22 (.slice none 0 0) 24 Try.underlying23 info22 rfl .i64 .i64 n (by omega) (by omega)
  cases a with
  | none =>
    have hc := h4 rfl
    subst hc
    obtain rfl : n = 0 := by omega
    clear h4 h3 hmk hvv hL
    go_enter Try.func8, Try.ntmps8
    go_wp2_with fail
    go_ret
    exact ⟨_, rfl, ⟨vv, ⟨none, 0, rfl, Nat.le_refl _, Nat.zero_le _, fun _ => rfl, Or.inl rfl⟩, fun j hj => absurd hj (by omega)⟩, Below.refl _ _⟩
  | some ad =>
    unfold maxLen at h2
    by_cases h0 : n = 0
    · subst h0
      rw [show ((0 : Nat) : Int) = 0 from rfl] at hmk
      clear h3 h4 hvv hL
      go_enter Try.func8, Try.ntmps8
      go_wp2_with fail
      refine wp_loop_rounds 1 ?_
      rw [rounds_succ]
      go_wp2
      go_ret
      exact ⟨_, rfl, ⟨vv, ⟨_, _, rfl, Nat.le_refl _, Nat.zero_le _, (fun h => by cases h), Or.inl rfl⟩, fun j hj => absurd hj (by omega)⟩, (Below.refl _ _).alloc (Nat.le_refl _) _⟩
    · obtain ⟨b, off, hab, hcell⟩ := h3.resolve_left h0
      obtain rfl : ad = ⟨b, off, none⟩ := by injection hab
      have hbl : b < w.heap.size := World.block_lt_of_cell? w ⟨b, off + 0, none⟩ (hcell 0 (by omega))
      have H0 : Hid (C2 w n L Z 0 (w.alloc (.cells (madeCells #[.slice none 0 0] n) 22))) :=
        ⟨_, vv, size_madeCells _ _, heap_alloc_new w _, (Below.refl _ _).alloc (Nat.le_refl _) _, fun j hj => absurd hj (by omega)⟩
      have HC := hide hcell
      have HV := hide hvv
      have HL := hide hL
      clear h3 h4 hab hcell hvv hL
      go_enter Try.func8, Try.ntmps8
      go_wp2_with fail
      go_loopw [4] (fun i wr => ∃ k : Nat, k ≤ n ∧ i = .int .i64 k ∧ Hid (C2 w n L Z k wr)) (fun i _ => n - (intOf i).toNat)
      case atStart => exact ⟨0, by omega, rfl, H0⟩
      case round =>
        obtain ⟨k, hk, rfl, HK⟩ := hrel
        obtain ⟨A, vv', hA, hbk, hbel, hall⟩ := HK.out
        have hltb := lt_of_heap hbk
        clear H0 hmk hnil
        by_cases hlt : k < n
        · obtain ⟨va, vc, hvk⟩ := (HV.out k hlt).form
          have hx : wr.cell? ⟨b, off + k, none⟩ = some (.slice va (L k) vc) := by
            rw [hbel.cell (p := ⟨b, off + k, none⟩) hbl, HC.out k hlt, hvk]
          have hcl := cloneInts (.slice va (L k) vc) (L k) (Z k) wr (by rw [← hvk]; exact (HV.out k hlt).below hbel) (HL.out k hlt)
          have HCL := hide hcl
          clear hcl hall hvk hbel
          have HB := hide hbk
          clear hbk
          go_wp2_with fail
          refine HCL.out.mono ?_
          rintro e w1 ⟨v1, rfl, hs1, hb1⟩
          have HS := c2_step w n L Z k wr w1 v1 hlt HK.out hb1 hs1
          obtain ⟨a1, cp1, rfl⟩ := hs1.form
          have hbk1 : w1.heap[w.heap.size]? = some (.cells A 22 (0, 0)) := by rw [hb1.block _ hltb]; exact HB.out
          have hc1 : w1.cell? ⟨w.heap.size, k, none⟩ = A[k]? := Lib.cell_of_heap hbk1 k
          have hf1 : w1.frozen? ⟨w.heap.size, k, none⟩ = false := Lib.frozen_of_heap hbk1 k
          obtain ⟨y, hy⟩ : ∃ y, A[k]? = some y := ⟨_, Array.getElem?_eq_getElem (by omega)⟩
          rw [hy] at hc1
          have HS' := hide HS
          clear HS hbk1 hs1 hb1 hy HCL HB
          go_wp2_with fail
          go_roundw
          case rel => exact ⟨k + 1, by omega, by go_num, HS'⟩
          case measure => simp [intOf]; omega
        · obtain rfl : k = n := by omega
          have HA := hide hall
          have HB := hide hbk
          have HL2 := hide hbel
          clear hall hbk hbel
          go_wp2_with fail
          go_ret
          refine ⟨_, rfl, ⟨vv', ⟨_, k, rfl, Nat.le_refl _, by unfold maxLen; omega, (fun h => by cases h), Or.inr ⟨w.heap.size, 0, Nat.le_refl _, rfl, fun j hj => ?_⟩⟩, fun j hj => ((HA.out j hj).2).mono (by omega)⟩, HL2.out⟩
          rw [Lib.cell_of_heap HB.out, Nat.zero_add]
          exact (HA.out j hj).1

end Go.Proofs.Qxb6602363a
