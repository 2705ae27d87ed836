import Derived.Test.Qxb6602363aClone2
namespace Go.Proofs.Qxb6602363a
open Go.RowKit
set_option linter.unusedVariables false
set_option linter.unusedSimpArgs false

set_option maxRecDepth 100000 in
set_option maxHeartbeats 16000000 in
theorem bytes5 (tb : Bool) (v0 v1 v2 v3 v4 v5 v6 v7 : Value) (n0 n1 n2 n3 n4 n5 n6 n7 : Nat) (g0 g1 g4 g5 g6 g7 : Nat → Value) (L2 L3 : Nat → Nat) (Z2 Z3 : Nat → Nat → Int) (w : World)
    (h0 : Sl w v0 n0 g0) (h1 : Sl w v1 n1 g1) (h2 : Ints2 w v2 n2 L2 Z2) (h3 : Ints2 w v3 n3 L3 Z3) (h4 : Sl w v4 n4 g4) (h5 : Sl w v5 n5 g5) (h6 : Sl w v6 n6 g6) (h7 : Sl w v7 n7 g7) :
    Calls Try.prog 5 #[v0, v1, .bool tb, v2, v3, v4, v5, v6, v7] w fun e w' => (∃ b, e = .returned (.bool b)) ∧ w' = w := by
  obtain ⟨a0, c0, rfl, x0, y0, _, _⟩ := h0
  obtain ⟨a1, c1, rfl, x1, y1, _, _⟩ := h1
  obtain ⟨a4, c4, rfl, x4, y4, _, _⟩ := h4
  obtain ⟨a5, c5, rfl, x5, y5, _, _⟩ := h5
  obtain ⟨a6, c6, rfl, x6, y6, _, _⟩ := h6
  obtain ⟨a7, c7, rfl, x7, y7, _, _⟩ := h7
  obtain ⟨s2, ⟨a2, c2, rfl, x2, y2, z2, p2⟩, d2⟩ := h2
  have P2 := hide p2
  have D2 := hide d2
  clear p2 d2 z2
  obtain ⟨s3, ⟨a3, c3, rfl, x3, y3, z3, p3⟩, d3⟩ := h3
  have P3 := hide p3
  have D3 := hide d3
  clear p3 d3 z3
  unfold maxLen at y0 y1 y2 y3 y4 y5 y6 y7
  go_enter Try.func5, Try.ntmps5
  rcases Nat.lt_or_ge 1048576 (n0) with hx | hx
  · go_wp2_with fail
    go_ret
    exact ⟨⟨_, rfl⟩, rfl⟩
  have hx1 := hx
  clear hx
  rcases Nat.lt_or_ge 1048576 (n1) with hx | hx
  · go_wp2_with fail
    go_ret
    exact ⟨⟨_, rfl⟩, rfl⟩
  have hx2 := hx
  clear hx
  rcases Nat.lt_or_ge 1048576 (n0 + n1) with hx | hx
  · go_wp2_with fail
    go_ret
    exact ⟨⟨_, rfl⟩, rfl⟩
  have hx3 := hx
  clear hx
  rcases Nat.lt_or_ge 1048576 (n2) with hx | hx
  · go_wp2_with fail
    go_ret
    exact ⟨⟨_, rfl⟩, rfl⟩
  have hx4 := hx
  clear hx
  rcases Nat.lt_or_ge 1048576 (n0 + n1 + n2) with hx | hx
  · go_wp2_with fail
    go_ret
    exact ⟨⟨_, rfl⟩, rfl⟩
  have hx5 := hx
  clear hx
  go_wp2_with fail
  go_loopw [19, 20] (fun z i wr => ∃ y k : Nat, k ≤ n2 ∧ y ≤ 1048576 ∧ z = .int .i64 y ∧ i = .int .i64 k ∧ wr = w) (fun _ i _ => n2 - (intOf i).toNat)
  case atStart => exact ⟨n0 + n1 + n2, 0, by omega, by omega, by go_num, rfl, by first | rfl | trivial⟩
  case round =>
    obtain ⟨y, k, hk, hy, rfl, rfl, hw⟩ := hrel
    have hw2 := hw.symm
    subst hw2
    clear hw
    by_cases hlt : k < n2
    · obtain ⟨b, o, rfl, q⟩ := P2.out.resolve_left (by omega)
      obtain ⟨va, vm, hva, e1, e2, _, _⟩ := D2.out k hlt
      have q1 := q k hlt
      rw [hva] at q1
      unfold maxLen at e2
      clear q hva
      generalize L2 k = l at *
      rcases Nat.lt_or_ge 1048576 (l) with hx | hx
      · go_wp2_with fail
        go_ret
        exact ⟨⟨_, rfl⟩, rfl⟩
      have hx6 := hx
      clear hx
      rcases Nat.lt_or_ge 1048576 (y + l) with hx | hx
      · go_wp2_with fail
        go_ret
        exact ⟨⟨_, rfl⟩, rfl⟩
      have hx7 := hx
      clear hx
      go_wp2_with fail
      go_roundw
      case rel => exact ⟨y + l, k + 1, by omega, by omega, by go_num, by go_num, by first | rfl | trivial⟩
      case measure => simp [intOf]; omega
    · obtain rfl : k = n2 := by omega
      rcases Nat.lt_or_ge 1048576 (n3) with hx | hx
      · go_wp2_with fail
        go_ret
        exact ⟨⟨_, rfl⟩, rfl⟩
      have hx8 := hx
      clear hx
      rcases Nat.lt_or_ge 1048576 (y + n3) with hx | hx
      · go_wp2_with fail
        go_ret
        exact ⟨⟨_, rfl⟩, rfl⟩
      have hx9 := hx
      clear hx
      go_wp2_with fail
      go_loopw [19, 21] (fun z i wr => ∃ y k : Nat, k ≤ n3 ∧ y ≤ 1048576 ∧ z = .int .i64 y ∧ i = .int .i64 k ∧ wr = w) (fun _ i _ => n3 - (intOf i).toNat)
      case atStart => exact ⟨y + n3, 0, by omega, by omega, by go_num, rfl, by first | rfl | trivial⟩
      case round =>
        obtain ⟨y, k, hk, hy, rfl, rfl, hw⟩ := hrel
        have hw2 := hw.symm
        subst hw2
        clear hw
        by_cases hlt : k < n3
        · obtain ⟨b, o, rfl, q⟩ := P3.out.resolve_left (by omega)
          obtain ⟨va, vm, hva, e1, e2, _, _⟩ := D3.out k hlt
          have q1 := q k hlt
          rw [hva] at q1
          unfold maxLen at e2
          clear q hva
          generalize L3 k = l at *
          rcases Nat.lt_or_ge 1048576 (l) with hx | hx
          · go_wp2_with fail
            go_ret
            exact ⟨⟨_, rfl⟩, rfl⟩
          have hx10 := hx
          clear hx
          rcases Nat.lt_or_ge 1048576 (y + l) with hx | hx
          · go_wp2_with fail
            go_ret
            exact ⟨⟨_, rfl⟩, rfl⟩
          have hx11 := hx
          clear hx
          go_wp2_with fail
          go_roundw
          case rel => exact ⟨y + l, k + 1, by omega, by omega, by go_num, by go_num, by first | rfl | trivial⟩
          case measure => simp [intOf]; omega
        · obtain rfl : k = n3 := by omega
          rcases Nat.lt_or_ge 1048576 (n4) with hx | hx
          · go_wp2_with fail
            go_ret
            exact ⟨⟨_, rfl⟩, rfl⟩
          have hx12 := hx
          clear hx
          rcases Nat.lt_or_ge 1048576 (y + n4) with hx | hx
          · go_wp2_with fail
            go_ret
            exact ⟨⟨_, rfl⟩, rfl⟩
          have hx13 := hx
          clear hx
          rcases Nat.lt_or_ge 1048576 (n5) with hx | hx
          · go_wp2_with fail
            go_ret
            exact ⟨⟨_, rfl⟩, rfl⟩
          have hx14 := hx
          clear hx
          rcases Nat.lt_or_ge 1048576 (y + n4 + n5) with hx | hx
          · go_wp2_with fail
            go_ret
            exact ⟨⟨_, rfl⟩, rfl⟩
          have hx15 := hx
          clear hx
          rcases Nat.lt_or_ge 1048576 (n6) with hx | hx
          · go_wp2_with fail
            go_ret
            exact ⟨⟨_, rfl⟩, rfl⟩
          have hx16 := hx
          clear hx
          rcases Nat.lt_or_ge 1048576 (y + n4 + n5 + n6) with hx | hx
          · go_wp2_with fail
            go_ret
            exact ⟨⟨_, rfl⟩, rfl⟩
          have hx17 := hx
          clear hx
          rcases Nat.lt_or_ge 1048576 (n7) with hx | hx
          · go_wp2_with fail
            go_ret
            exact ⟨⟨_, rfl⟩, rfl⟩
          have hx18 := hx
          clear hx
          rcases Nat.lt_or_ge 1048576 (y + n4 + n5 + n6 + n7) with hx | hx
          · go_wp2_with fail
            go_ret
            exact ⟨⟨_, rfl⟩, rfl⟩
          have hx19 := hx
          clear hx
          go_wp2_with fail
          go_ret
          exact ⟨⟨_, rfl⟩, rfl⟩

set_option maxRecDepth 100000 in
set_option maxHeartbeats 16000000 in
theorem bytes16 (v0 v1 v2 v3 v4 v5 v6 v7 : Value) (n0 n1 n2 n3 n4 n5 n6 n7 : Nat) (g0 g1 g4 g5 g6 g7 : Nat → Value) (L2 L3 : Nat → Nat) (Z2 Z3 : Nat → Nat → Int) (w : World)
    (h0 : Sl w v0 n0 g0) (h1 : Sl w v1 n1 g1) (h2 : Ints2 w v2 n2 L2 Z2) (h3 : Ints2 w v3 n3 L3 Z3) (h4 : Sl w v4 n4 g4) (h5 : Sl w v5 n5 g5) (h6 : Sl w v6 n6 g6) (h7 : Sl w v7 n7 g7) :
    Calls Try.prog 16 #[v0, v1, v2, v3, v4, v5, v6, v7] w fun e w' => (∃ b, e = .returned (.bool b)) ∧ w' = w := by
  obtain ⟨a0, c0, rfl, x0, y0, _, _⟩ := h0
  obtain ⟨a1, c1, rfl, x1, y1, _, _⟩ := h1
  obtain ⟨a4, c4, rfl, x4, y4, _, _⟩ := h4
  obtain ⟨a5, c5, rfl, x5, y5, _, _⟩ := h5
  obtain ⟨a6, c6, rfl, x6, y6, _, _⟩ := h6
  obtain ⟨a7, c7, rfl, x7, y7, _, _⟩ := h7
  obtain ⟨s2, ⟨a2, c2, rfl, x2, y2, z2, p2⟩, d2⟩ := h2
  have P2 := hide p2
  have D2 := hide d2
  clear p2 d2 z2
  obtain ⟨s3, ⟨a3, c3, rfl, x3, y3, z3, p3⟩, d3⟩ := h3
  have P3 := hide p3
  have D3 := hide d3
  clear p3 d3 z3
  unfold maxLen at y0 y1 y2 y3 y4 y5 y6 y7
  go_enter Try.func16, Try.ntmps16
  rcases Nat.lt_or_ge 1048576 (n0) with hx | hx
  · go_wp2_with fail
    go_ret
    exact ⟨⟨_, rfl⟩, rfl⟩
  have hx1 := hx
  clear hx
  rcases Nat.lt_or_ge 1048576 (n1) with hx | hx
  · go_wp2_with fail
    go_ret
    exact ⟨⟨_, rfl⟩, rfl⟩
  have hx2 := hx
  clear hx
  rcases Nat.lt_or_ge 1048576 (n0 + n1) with hx | hx
  · go_wp2_with fail
    go_ret
    exact ⟨⟨_, rfl⟩, rfl⟩
  have hx3 := hx
  clear hx
  rcases Nat.lt_or_ge 1048576 (n2) with hx | hx
  · go_wp2_with fail
    go_ret
    exact ⟨⟨_, rfl⟩, rfl⟩
  have hx4 := hx
  clear hx
  rcases Nat.lt_or_ge 1048576 (n0 + n1 + n2) with hx | hx
  · go_wp2_with fail
    go_ret
    exact ⟨⟨_, rfl⟩, rfl⟩
  have hx5 := hx
  clear hx
  go_wp2_with fail
  go_loopw [17, 18] (fun z i wr => ∃ y k : Nat, k ≤ n2 ∧ y ≤ 1048576 ∧ z = .int .i64 y ∧ i = .int .i64 k ∧ wr = w) (fun _ i _ => n2 - (intOf i).toNat)
  case atStart => exact ⟨n0 + n1 + n2, 0, by omega, by omega, by go_num, rfl, by first | rfl | trivial⟩
  case round =>
    obtain ⟨y, k, hk, hy, rfl, rfl, hw⟩ := hrel
    have hw2 := hw.symm
    subst hw2
    clear hw
    by_cases hlt : k < n2
    · obtain ⟨b, o, rfl, q⟩ := P2.out.resolve_left (by omega)
      obtain ⟨va, vm, hva, e1, e2, _, _⟩ := D2.out k hlt
      have q1 := q k hlt
      rw [hva] at q1
      unfold maxLen at e2
      clear q hva
      generalize L2 k = l at *
      rcases Nat.lt_or_ge 1048576 (l) with hx | hx
      · go_wp2_with fail
        go_ret
        exact ⟨⟨_, rfl⟩, rfl⟩
      have hx6 := hx
      clear hx
      rcases Nat.lt_or_ge 1048576 (y + l) with hx | hx
      · go_wp2_with fail
        go_ret
        exact ⟨⟨_, rfl⟩, rfl⟩
      have hx7 := hx
      clear hx
      go_wp2_with fail
      go_roundw
      case rel => exact ⟨y + l, k + 1, by omega, by omega, by go_num, by go_num, by first | rfl | trivial⟩
      case measure => simp [intOf]; omega
    · obtain rfl : k = n2 := by omega
      rcases Nat.lt_or_ge 1048576 (n3) with hx | hx
      · go_wp2_with fail
        go_ret
        exact ⟨⟨_, rfl⟩, rfl⟩
      have hx8 := hx
      clear hx
      rcases Nat.lt_or_ge 1048576 (y + n3) with hx | hx
      · go_wp2_with fail
        go_ret
        exact ⟨⟨_, rfl⟩, rfl⟩
      have hx9 := hx
      clear hx
      go_wp2_with fail
      go_loopw [17, 19] (fun z i wr => ∃ y k : Nat, k ≤ n3 ∧ y ≤ 1048576 ∧ z = .int .i64 y ∧ i = .int .i64 k ∧ wr = w) (fun _ i _ => n3 - (intOf i).toNat)
      case atStart => exact ⟨y + n3, 0, by omega, by omega, by go_num, rfl, by first | rfl | trivial⟩
      case round =>
        obtain ⟨y, k, hk, hy, rfl, rfl, hw⟩ := hrel
        have hw2 := hw.symm
        subst hw2
        clear hw
        by_cases hlt : k < n3
        · obtain ⟨b, o, rfl, q⟩ := P3.out.resolve_left (by omega)
          obtain ⟨va, vm, hva, e1, e2, _, _⟩ := D3.out k hlt
          have q1 := q k hlt
          rw [hva] at q1
          unfold maxLen at e2
          clear q hva
          generalize L3 k = l at *
          rcases Nat.lt_or_ge 1048576 (l) with hx | hx
          · go_wp2_with fail
            go_ret
            exact ⟨⟨_, rfl⟩, rfl⟩
          have hx10 := hx
          clear hx
          rcases Nat.lt_or_ge 1048576 (y + l) with hx | hx
          · go_wp2_with fail
            go_ret
            exact ⟨⟨_, rfl⟩, rfl⟩
          have hx11 := hx
          clear hx
          go_wp2_with fail
          go_roundw
          case rel => exact ⟨y + l, k + 1, by omega, by omega, by go_num, by go_num, by first | rfl | trivial⟩
          case measure => simp [intOf]; omega
        · obtain rfl : k = n3 := by omega
          rcases Nat.lt_or_ge 1048576 (n4) with hx | hx
          · go_wp2_with fail
            go_ret
            exact ⟨⟨_, rfl⟩, rfl⟩
          have hx12 := hx
          clear hx
          rcases Nat.lt_or_ge 1048576 (y + n4) with hx | hx
          · go_wp2_with fail
            go_ret
            exact ⟨⟨_, rfl⟩, rfl⟩
          have hx13 := hx
          clear hx
          rcases Nat.lt_or_ge 1048576 (n5) with hx | hx
          · go_wp2_with fail
            go_ret
            exact ⟨⟨_, rfl⟩, rfl⟩
          have hx14 := hx
          clear hx
          rcases Nat.lt_or_ge 1048576 (y + n4 + n5) with hx | hx
          · go_wp2_with fail
            go_ret
            exact ⟨⟨_, rfl⟩, rfl⟩
          have hx15 := hx
          clear hx
          rcases Nat.lt_or_ge 1048576 (n6) with hx | hx
          · go_wp2_with fail
            go_ret
            exact ⟨⟨_, rfl⟩, rfl⟩
          have hx16 := hx
          clear hx
          rcases Nat.lt_or_ge 1048576 (y + n4 + n5 + n6) with hx | hx
          · go_wp2_with fail
            go_ret
            exact ⟨⟨_, rfl⟩, rfl⟩
          have hx17 := hx
          clear hx
          rcases Nat.lt_or_ge 1048576 (n7) with hx | hx
          · go_wp2_with fail
            go_ret
            exact ⟨⟨_, rfl⟩, rfl⟩
          have hx18 := hx
          clear hx
          rcases Nat.lt_or_ge 1048576 (y + n4 + n5 + n6 + n7) with hx | hx
          · go_wp2_with fail
            go_ret
            exact ⟨⟨_, rfl⟩, rfl⟩
          have hx19 := hx
          clear hx
          go_wp2_with fail
          go_ret
          exact ⟨⟨_, rfl⟩, rfl⟩

end Go.Proofs.Qxb6602363a
