import Derived.Test.Qxb6602363aClone2
namespace Go.Proofs.Qxb6602363a
open Go.RowKit
set_option linter.unusedVariables false
set_option linter.unusedSimpArgs false

/-- what zzMoveInputFits has seen where it answers true -/
structure Fit (n0 n1 n2 n3 n4 n5 n6 n7 : Nat) (L2 L3 : Nat → Nat) : Prop where
  f0 : n0 ≤ 65536
  f1 : n1 ≤ 65536
  f2 : n2 ≤ 65536
  e3 : n3 = n2
  e4 : n4 = n2
  e5 : n5 = n2
  e6 : n6 = n2
  e7 : n7 = n2
  l2 : ∀ j, j < n2 → L2 j ≤ 131072
  l3 : ∀ j, j < n3 → L3 j ≤ 131072

def FitPost (n0 n1 n2 n3 n4 n5 n6 n7 : Nat) (L2 L3 : Nat → Nat) (w : World) (e : Ending) (w' : World) : Prop :=
  ∃ b, e = .returned (.bool b) ∧ w' = w ∧ (b = true → Fit n0 n1 n2 n3 n4 n5 n6 n7 L2 L3)

def Upto (L : Nat → Nat) (z k : Nat) : Prop := z ≤ 4456448 ∧ (z ≤ 1048576 → ∀ j, j < k → L j ≤ 131072)

theorem Upto.big {L : Nat → Nat} {z k : Nat} (h : Upto L z k) : Upto L 2097152 (k + 1) := ⟨by omega, fun h => absurd h (by omega)⟩
theorem Upto.more {L : Nat → Nat} {z k : Nat} (h : Upto L z k) (hz : z ≤ 1048576) (hl : L k ≤ 131072) : Upto L (z + 8 * L k) (k + 1) :=
  ⟨by omega, fun _ j hj => by
    by_cases e : j = k
    · subst e; exact hl
    · exact h.2 hz j (by omega)⟩

set_option maxRecDepth 100000 in
set_option maxHeartbeats 16000000 in
theorem fits_any (v0 v1 v2 v3 v4 v5 v6 v7 : Value) (n0 n1 n2 n3 n4 n5 n6 n7 : Nat) (g0 g1 g4 g5 g6 g7 : Nat → Value) (L2 L3 : Nat → Nat) (Z2 Z3 : Nat → Nat → Int) (w : World)
    (h0 : Sl w v0 n0 g0) (h1 : Sl w v1 n1 g1) (h2 : Ints2 w v2 n2 L2 Z2) (h3 : Ints2 w v3 n3 L3 Z3) (h4 : Sl w v4 n4 g4) (h5 : Sl w v5 n5 g5) (h6 : Sl w v6 n6 g6) (h7 : Sl w v7 n7 g7) :
    Calls Try.prog 6 #[v0, v1, v2, v3, v4, v5, v6, v7] w (FitPost n0 n1 n2 n3 n4 n5 n6 n7 L2 L3 w) := by
  obtain ⟨a0, c0, rfl, x0, y0, z0, r0⟩ := h0
  clear z0 r0
  obtain ⟨a1, c1, rfl, x1, y1, z1, r1⟩ := h1
  clear z1 r1
  obtain ⟨a4, c4, rfl, x4, y4, z4, r4⟩ := h4
  clear z4 r4
  obtain ⟨a5, c5, rfl, x5, y5, z5, r5⟩ := h5
  clear z5 r5
  obtain ⟨a6, c6, rfl, x6, y6, z6, r6⟩ := h6
  clear z6 r6
  obtain ⟨a7, c7, rfl, x7, y7, z7, r7⟩ := h7
  clear z7 r7
  obtain ⟨s2, ⟨a2, c2, rfl, x2, y2, z2, p2⟩, d2⟩ := h2
  have P2 := hide p2
  have D2 := hide d2
  clear p2 d2 z2
  obtain ⟨s3, ⟨a3, c3, rfl, x3, y3, z3, p3⟩, d3⟩ := h3
  have P3 := hide p3
  have D3 := hide d3
  clear p3 d3 z3
  unfold maxLen at y0 y1 y2 y3 y4 y5 y6 y7
  go_enter Try.func6, Try.ntmps6
  by_cases m0 : n0 ≤ 65536
  case neg => 
    go_wp2_with fail
    go_ret
    exact ⟨_, rfl, rfl, fun h => by cases h⟩
  by_cases m1 : n1 ≤ 65536
  case neg => 
    go_wp2_with fail
    go_ret
    exact ⟨_, rfl, rfl, fun h => by cases h⟩
  by_cases m2 : n2 ≤ 65536
  case neg => 
    go_wp2_with fail
    go_ret
    exact ⟨_, rfl, rfl, fun h => by cases h⟩
  by_cases m3 : n3 ≤ 65536
  case neg => 
    go_wp2_with fail
    go_ret
    exact ⟨_, rfl, rfl, fun h => by cases h⟩
  by_cases m4 : n4 ≤ 65536
  case neg => 
    go_wp2_with fail
    go_ret
    exact ⟨_, rfl, rfl, fun h => by cases h⟩
  by_cases m5 : n5 ≤ 65536
  case neg => 
    go_wp2_with fail
    go_ret
    exact ⟨_, rfl, rfl, fun h => by cases h⟩
  by_cases m6 : n6 ≤ 65536
  case neg => 
    go_wp2_with fail
    go_ret
    exact ⟨_, rfl, rfl, fun h => by cases h⟩
  by_cases m7 : n7 ≤ 65536
  case neg => 
    go_wp2_with fail
    go_ret
    exact ⟨_, rfl, rfl, fun h => by cases h⟩
  go_wp2_with fail
  go_loopw [17, 18] (fun z i wr => ∃ y k : Nat, k ≤ n2 ∧ Hid (Upto L2 y k) ∧ z = .int .i64 y ∧ i = .int .i64 k ∧ wr = w) (fun _ i _ => n2 - (intOf i).toNat)
  case atStart => exact ⟨8 * n0 + 8 * n1 + 24 * n2 + 24 * n3 + n4 + n5 + n6 + n7, 0, by omega, ⟨by omega, fun _ j hj => absurd hj (by omega)⟩, by go_num, rfl, by first | rfl | trivial⟩
  case round =>
    obtain ⟨y, k, hk, HU, rfl, rfl, hw⟩ := hrel
    have hw2 := hw.symm
    subst hw2
    clear hw
    have hy := HU.out.1
    by_cases hend : k < n2 ∧ y ≤ 1048576
    · obtain ⟨hlt, hz⟩ := hend
      obtain ⟨b, o, rfl, q⟩ := P2.out.resolve_left (by omega)
      obtain ⟨va, vm, hva, e1, e2, _, _⟩ := D2.out k hlt
      have q1 := q k hlt
      rw [hva] at q1
      unfold maxLen at e2
      have HUM := hide (fun hl => HU.out.more hz hl)
      have HUB := hide (HU.out.big)
      clear q hva HU
      generalize hl : L2 k = l at *
      clear hl
      by_cases hl : l ≤ 131072
      · have HM := hide (HUM.out hl)
        go_wp2_with fail
        go_roundw
        case rel => exact ⟨y + 8 * l, k + 1, by omega, HM, by go_num, by go_num, by first | rfl | trivial⟩
        case measure => simp [intOf]; omega
      · go_wp2_with fail
        go_roundw
        case rel => exact ⟨2097152, k + 1, by omega, HUB, by go_num, by go_num, by first | rfl | trivial⟩
        case measure => simp [intOf]; omega
    · by_cases hz : y ≤ 1048576
      · obtain rfl : k = n2 := by omega
        have HL2 := hide (HU.out.2 hz)
        clear HU hend P2 D2
        go_wp2_with fail
        go_loopw [17, 19] (fun z i wr => ∃ y k : Nat, k ≤ n3 ∧ Hid (Upto L3 y k) ∧ z = .int .i64 y ∧ i = .int .i64 k ∧ wr = w) (fun _ i _ => n3 - (intOf i).toNat)
        case atStart => exact ⟨y, 0, by omega, ⟨by omega, fun _ j hj => absurd hj (by omega)⟩, by go_num, rfl, by first | rfl | trivial⟩
        case round =>
          clear hz hy
          obtain ⟨y, i, hi, HU, rfl, rfl, hw⟩ := hrel
          have hw2 := hw.symm
          subst hw2
          clear hw
          have hy := HU.out.1
          by_cases hend : i < n3 ∧ y ≤ 1048576
          · obtain ⟨hlt, hz⟩ := hend
            obtain ⟨b, o, rfl, q⟩ := P3.out.resolve_left (by omega)
            obtain ⟨va, vm, hva, e1, e2, _, _⟩ := D3.out i hlt
            have q1 := q i hlt
            rw [hva] at q1
            unfold maxLen at e2
            have HUM := hide (fun hl => HU.out.more hz hl)
            have HUB := hide (HU.out.big)
            clear q hva HU
            generalize hl : L3 i = l at *
            clear hl
            by_cases hl : l ≤ 131072
            · have HM := hide (HUM.out hl)
              go_wp2_with fail
              go_roundw
              case rel => exact ⟨y + 8 * l, i + 1, by omega, HM, by go_num, by go_num, by first | rfl | trivial⟩
              case measure => simp [intOf]; omega
            · go_wp2_with fail
              go_roundw
              case rel => exact ⟨2097152, i + 1, by omega, HUB, by go_num, by go_num, by first | rfl | trivial⟩
              case measure => simp [intOf]; omega
          · by_cases hz : y ≤ 1048576
            · obtain rfl : i = n3 := by omega
              have HL3 := hide (HU.out.2 hz)
              clear HU hend P3 D3
              by_cases t3 : i = k
              case neg =>
                have t3' : ((i : Int) == (k : Int)) = false := by simp; omega
                go_wp2_with fail
                go_ret
                exact ⟨_, rfl, rfl, fun h => by cases h⟩
              subst t3
              by_cases t4 : n4 = i
              case neg =>
                have t4' : ((n4 : Int) == (i : Int)) = false := by simp; omega
                go_wp2_with fail
                go_ret
                exact ⟨_, rfl, rfl, fun h => by cases h⟩
              subst t4
              by_cases t5 : n5 = n4
              case neg =>
                have t5' : ((n5 : Int) == (n4 : Int)) = false := by simp; omega
                go_wp2_with fail
                go_ret
                exact ⟨_, rfl, rfl, fun h => by cases h⟩
              subst t5
              by_cases t6 : n6 = n5
              case neg =>
                have t6' : ((n6 : Int) == (n5 : Int)) = false := by simp; omega
                go_wp2_with fail
                go_ret
                exact ⟨_, rfl, rfl, fun h => by cases h⟩
              subst t6
              by_cases t7 : n7 = n6
              case neg =>
                have t7' : ((n7 : Int) == (n6 : Int)) = false := by simp; omega
                go_wp2_with fail
                go_ret
                exact ⟨_, rfl, rfl, fun h => by cases h⟩
              subst t7
              have t8 : ((n7 : Int) == (n7 : Int)) = true := by simp
              go_wp2_with fail
              go_ret
              exact ⟨_, rfl, rfl, fun _ => ⟨m0, m1, by assumption, rfl, rfl, rfl, rfl, rfl, HL2.out, HL3.out⟩⟩
            · go_wp2_with fail
              all_goals (go_ret; exact ⟨_, rfl, rfl, fun h => by cases h⟩)
      · clear hend HU
        by_cases hlt : k < n2
        · go_wp2_with fail
          refine wp_loop_rounds 1 ?_
          rw [rounds_succ]
          go_wp2_with fail
          all_goals (go_ret; exact ⟨_, rfl, rfl, fun h => by cases h⟩)
        · go_wp2_with fail
          refine wp_loop_rounds 1 ?_
          rw [rounds_succ]
          go_wp2_with fail
          all_goals (go_ret; exact ⟨_, rfl, rfl, fun h => by cases h⟩)

end Go.Proofs.Qxb6602363a
