import Derived.Test.Qxb6602363aPrep
namespace Go.Proofs.Qxb6602363a
open Go.RowKit
set_option linter.unusedVariables false
set_option linter.unusedSimpArgs false

set_option maxRecDepth 100000 in
set_option maxHeartbeats 32000000 in
theorem law3t (v0 v1 v2 v3 v4 v5 v6 v7 : Value) (n0 n1 n2 n3 n4 n5 n6 n7 : Nat) (z0 z1 : Nat → Int) (L2 L3 : Nat → Nat) (Z2 Z3 : Nat → Nat → Int) (ic ip cof pof : Nat → Bool) (w : World)
    (h0 : Sl w v0 n0 (ints z0)) (h1 : Sl w v1 n1 (ints z1)) (h2 : Ints2 w v2 n2 L2 Z2) (h3 : Ints2 w v3 n3 L3 Z3) (h4 : Sl w v4 n4 (bools ic)) (h5 : Sl w v5 n5 (bools ip)) (h6 : Sl w v6 n6 (bools cof)) (h7 : Sl w v7 n7 (bools pof)) :
    Calls Try.prog 3 #[v0, v1, .bool true, v2, v3, v4, v5, v6, v7] w fun e w' => e = .returned (.bool true) ∧ Below w.heap.size w w' := by
  have HBY := hide (bytes5 true v0 v1 v2 v3 v4 v5 v6 v7 n0 n1 n2 n3 n4 n5 n6 n7 _ _ _ _ _ _ L2 L3 Z2 Z3 w h0 h1 h2 h3 h4 h5 h6 h7)
  have HFI := hide (fits_any v0 v1 v2 v3 v4 v5 v6 v7 n0 n1 n2 n3 n4 n5 n6 n7 _ _ _ _ _ _ L2 L3 Z2 Z3 w h0 h1 h2 h3 h4 h5 h6 h7)
  have H0 := hide h0
  have H1 := hide h1
  have H2 := hide h2
  have H3 := hide h3
  have H4 := hide h4
  have H5 := hide h5
  have H6 := hide h6
  have H7 := hide h7
  clear h0 h1 h2 h3 h4 h5 h6 h7
  go_enter Try.func3, Try.ntmps3
  go_wp2_with fail
  refine HBY.out.mono ?_
  clear HBY
  rintro e w' ⟨⟨b, rfl⟩, hw⟩
  have hw2 := hw.symm
  subst hw2
  clear hw
  cases b with
  | false =>
    go_wp2_with fail
    go_ret
    exact ⟨rfl, Below.refl _ _⟩
  | true =>
  go_wp2_with fail
  refine HFI.out.mono ?_
  clear HFI
  rintro e w' ⟨b, rfl, hw, hfit⟩
  have hw2 := hw.symm
  subst hw2
  clear hw
  cases b with
  | false =>
    clear hfit
    go_wp2_with fail
    go_ret
    exact ⟨rfl, Below.refl _ _⟩
  | true =>
  obtain ⟨f0, f1, f2, e3, e4, e5, e6, e7, l2, l3⟩ := hfit rfl
  have e3' := e3.symm
  have e4' := e4.symm
  have e5' := e5.symm
  have e6' := e6.symm
  have e7' := e7.symm
  clear e3 e4 e5 e6 e7 hfit
  subst e3' e4' e5' e6' e7'
  have HL2 := hide (fun j hj => Nat.le_trans (l2 j hj) (by decide : 131072 ≤ 1048576))
  have HL3 := hide (fun j hj => Nat.le_trans (l3 j hj) (by decide : 131072 ≤ 1048576))
  clear l2 l3
  have B0 : Hid (Below w.heap.size w w) := Below.refl _ _
  go_wp2_with fail
  refine (cloneInts v0 n0 z0 w (H0.out.below B0.out) (by omega)).mono ?_
  rintro e w1 ⟨u0', rfl, s, b⟩
  obtain ⟨a0, c0, rfl⟩ := s.sl.form
  have S0 := hide s.sl
  have B1 := hide (Below.next B0.out b)
  have Q1 := hide b
  clear s b H0
  go_wp2_with fail
  refine (cloneInts v1 n1 z1 w1 (H1.out.below B1.out) (by omega)).mono ?_
  rintro e w2 ⟨u1', rfl, s, b⟩
  obtain ⟨a1, c1, rfl⟩ := s.sl.form
  have S1 := hide s.sl
  have B2 := hide (Below.next B1.out b)
  have Q2 := hide b
  clear s b H1
  go_wp2_with fail
  refine (cloneIntss v2 n2 L2 Z2 w2 (H2.out.below B2.out) (by omega) HL2.out).mono ?_
  rintro e w3 ⟨u2', rfl, s, b⟩
  obtain ⟨cv, s, d⟩ := s
  have D2 := hide (fun j hj => (d j hj).sl)
  clear d
  obtain ⟨a2, c2, rfl⟩ := s.sl.form
  have S2 := hide s.sl
  have B3 := hide (Below.next B2.out b)
  have Q3 := hide b
  clear s b H2
  go_wp2_with fail
  refine (cloneIntss v3 n2 L3 Z3 w3 (H3.out.below B3.out) (by omega) HL3.out).mono ?_
  rintro e w4 ⟨u3', rfl, s, b⟩
  obtain ⟨rv, s, d⟩ := s
  have D3 := hide (fun j hj => (d j hj).sl)
  clear d
  obtain ⟨a3, c3, rfl⟩ := s.sl.form
  have S3 := hide s.sl
  have B4 := hide (Below.next B3.out b)
  have Q4 := hide b
  clear s b H3
  go_wp2_with fail
  refine (cloneBools v4 n2 ic w4 (H4.out.below B4.out) (by omega)).mono ?_
  rintro e w5 ⟨u4', rfl, s, b⟩
  obtain ⟨a4, c4, rfl⟩ := s.sl.form
  have S4 := hide s.sl
  have B5 := hide (Below.next B4.out b)
  have Q5 := hide b
  clear s b H4
  go_wp2_with fail
  refine (cloneBools v5 n2 ip w5 (H5.out.below B5.out) (by omega)).mono ?_
  rintro e w6 ⟨u5', rfl, s, b⟩
  obtain ⟨a5, c5, rfl⟩ := s.sl.form
  have S5 := hide s.sl
  have B6 := hide (Below.next B5.out b)
  have Q6 := hide b
  clear s b H5
  go_wp2_with fail
  refine (cloneBools v6 n2 cof w6 (H6.out.below B6.out) (by omega)).mono ?_
  rintro e w7 ⟨u6', rfl, s, b⟩
  obtain ⟨a6, c6, rfl⟩ := s.sl.form
  have S6 := hide s.sl
  have B7 := hide (Below.next B6.out b)
  have Q7 := hide b
  clear s b H6
  go_wp2_with fail
  refine (cloneBools v7 n2 pof w7 (H7.out.below B7.out) (by omega)).mono ?_
  rintro e w8 ⟨u7', rfl, s, b⟩
  obtain ⟨a7, c7, rfl⟩ := s.sl.form
  have S7 := hide s.sl
  have B8 := hide (Below.next B7.out b)
  have Q8 := hide b
  clear s b H7
  clear B1 B2 B3 B4 B5 B6 B7
  go_wp2_with fail
  refine (newIdx a0 n0 c0 w8).mono ?_
  rintro e w9 ⟨F, rfl, IF⟩
  have JF := hide IF
  clear IF
  go_wp2_with fail
  refine (newIdx a0 n0 c0 w9).mono ?_
  rintro e z ⟨O, rfl, IX⟩
  have JO := hide IX
  clear IX
  have R9 : Hid (Below w9.heap.size w9 z) := JO.out.2.1
  have R8 : Hid (Below w8.heap.size w8 z) := Below.next JF.out.2.1 R9.out
  have R7 : Hid (Below w7.heap.size w7 z) := Below.next Q8.out R8.out
  have R6 : Hid (Below w6.heap.size w6 z) := Below.next Q7.out R7.out
  have R5 : Hid (Below w5.heap.size w5 z) := Below.next Q6.out R6.out
  have R4 : Hid (Below w4.heap.size w4 z) := Below.next Q5.out R5.out
  have R3 : Hid (Below w3.heap.size w3 z) := Below.next Q4.out R4.out
  have R2 : Hid (Below w2.heap.size w2 z) := Below.next Q3.out R3.out
  have R1 : Hid (Below w1.heap.size w1 z) := Below.next Q2.out R2.out
  have HP : Hid (Pre w z F O n0 n1 n2 (.slice a0 n0 c0) (.slice a1 n1 c1) (.slice a2 n2 c2) (.slice a3 n2 c3) (.slice a4 n2 c4) (.slice a5 n2 c5) (.slice a6 n2 c6) (.slice a7 n2 c7) z0 z1 cv rv L2 L3 Z2 Z3 ic ip cof pof) :=
    ⟨Below.next B8.out R8.out, by have h1 := JF.out.2.2.1; have h2 := JF.out.2.2.2; have h3 := JO.out.2.2.1; omega, heap_below R9.out JF.out.1, JO.out.1, S0.out.below R1.out, S1.out.below R2.out, S2.out.below R3.out, fun j hj => (D2.out j hj).below R3.out, S3.out.below R4.out, fun j hj => (D3.out j hj).below R4.out, S4.out.below R5.out, S5.out.below R6.out, S6.out.below R7.out, S7.out.below R8.out, f2⟩
  have HT : Hid (z.heap[F]? = some (.cells (icells (.slice a0 n0 c0)) 44 (0, 0))) := HP.out.iF
  clear R1 R2 R3 R4 R5 R6 R7 R8 R9 Q1 Q2 Q3 Q4 Q5 Q6 Q7 Q8 S0 S1 S2 S3 S4 S5 S6 S7 D2 D3 JF JO HL2 HL3 B0 B8
  go_wp2_with fail
  refine HP.out.build.mono ?_
  rintro e wb ⟨kv, tb, kb, t2, t3, rfl, hS⟩
  obtain ⟨ka, kc, rfl⟩ := hS.row.form
  have HS := hide hS
  clear hS
  go_wp2_with fail
  refine (HP.out.move HS.out HT.out HP.out.s0).mono ?_
  rintro e wm ⟨D, rfl, hD, hS⟩
  have HD := hide hD
  have HM := hide hS
  clear hD hS HS HT
  go_wp2_with fail
  go_loopw [27, 28, 29] (fun x f i wr => ∃ (k : Nat) (bo bf : Bool), k ≤ n2 ∧ x = .bool bo ∧ f = .bool bf ∧ i = .int .i64 k ∧ Hid (bo = onF ic cof k ∧ bf = fitF ic ip cof pof L2 L3 Z2 Z3 n0 z0 k) ∧ Hid (DW wm wr)) (fun _ _ i _ => n2 - (intOf i).toNat)
  case atStart => exact ⟨0, false, true, by omega, rfl, rfl, rfl, ⟨rfl, rfl⟩, ⟨0, rfl⟩⟩
  case round =>
    obtain ⟨k, bo, bf, hk, rfl, rfl, rfl, HE, HW⟩ := hrel
    by_cases hlt : k < n2
    · have hbel := Below.next HM.out.bel HW.out.below
      obtain ⟨A2, C2, E2, _, _, _, p2⟩ := HP.out.s2
      injection E2 with E2 _ E2'
      subst E2 E2'
      obtain ⟨b2, o2, rfl, g2⟩ := p2.resolve_left (by omega)
      have q2 := cell_b hbel (g2 k hlt)
      obtain ⟨A3, C3, E3, _, _, _, p3⟩ := HP.out.s3
      injection E3 with E3 _ E3'
      subst E3 E3'
      obtain ⟨b3, o3, rfl, g3⟩ := p3.resolve_left (by omega)
      have q3 := cell_b hbel (g3 k hlt)
      obtain ⟨A4, C4, E4, _, _, _, p4⟩ := HP.out.s4
      injection E4 with E4 _ E4'
      subst E4 E4'
      obtain ⟨b4, o4, rfl, g4⟩ := p4.resolve_left (by omega)
      have q4 := cell_b hbel (g4 k hlt)
      obtain ⟨A5, C5, E5, _, _, _, p5⟩ := HP.out.s5
      injection E5 with E5 _ E5'
      subst E5 E5'
      obtain ⟨b5, o5, rfl, g5⟩ := p5.resolve_left (by omega)
      have q5 := cell_b hbel (g5 k hlt)
      obtain ⟨A6, C6, E6, _, _, _, p6⟩ := HP.out.s6
      injection E6 with E6 _ E6'
      subst E6 E6'
      obtain ⟨b6, o6, rfl, g6⟩ := p6.resolve_left (by omega)
      have q6 := cell_b hbel (g6 k hlt)
      obtain ⟨A7, C7, E7, _, _, _, p7⟩ := HP.out.s7
      injection E7 with E7 _ E7'
      subst E7 E7'
      obtain ⟨b7, o7, rfl, g7⟩ := p7.resolve_left (by omega)
      have q7 := cell_b hbel (g7 k hlt)
      obtain ⟨va, vm, hva⟩ := (HP.out.c2 k hlt).form
      obtain ⟨ra, rm, hra⟩ := (HP.out.c3 k hlt).form
      rw [hva] at q2
      rw [hra] at q3
      unfold bools at q4 q5 q6 q7
      have s1 : Sl z (.slice va (L2 k) vm) (L2 k) (ints (Z2 k)) := by rw [← hva]; exact HP.out.c2 k hlt
      have s2 : Sl z (.slice ra (L3 k) rm) (L3 k) (ints (Z3 k)) := by rw [← hra]; exact HP.out.c3 k hlt
      have HP1 := hide (isPrefix_any (.slice va (L2 k) vm) (.slice a0 n0 c0) (L2 k) n0 (Z2 k) z0 wr (s1.below hbel) (HP.out.s0.below hbel))
      have HP2 := hide (isPrefix_any (.slice ra (L3 k) rm) (.slice a0 n0 c0) (L3 k) n0 (Z3 k) z0 wr (s2.below hbel) (HP.out.s0.below hbel))
      have HP3 := hide (fun q => isPrefix_any (.slice ra (L3 k) rm) (.slice a0 n0 c0) (L3 k) n0 (Z3 k) z0 (wr.drewN q) (s2.below (Below.next HM.out.bel (HW.out.drew q).below)) (HP.out.s0.below (Below.next HM.out.bel (HW.out.drew q).below)))
      have HN : Hid (onF ic cof (k + 1) = (bo || (ic k && cof k)) ∧ fitF ic ip cof pof L2 L3 Z2 Z3 n0 z0 (k + 1) = (bf && ((!(ic k && cof k) || preB (L2 k) (Z2 k) n0 z0) && (!(ip k && pof k) || preB (L3 k) (Z3 k) n0 z0)))) := by
        refine ⟨?_, ?_⟩
        · rw [onF_succ, ← HE.out.1]
        · rw [fitF_succ, ← HE.out.2]; rfl
      clear g2 g3 g4 g5 g6 g7 p2 p3 p4 p5 p6 p7 s1 s2 hbel hva hra HE HP HM HD
      generalize ic k = bi at *
      generalize cof k = bc at *
      generalize ip k = bj at *
      generalize pof k = bp at *
      generalize preB (L2 k) (Z2 k) n0 z0 = p1 at *
      generalize preB (L3 k) (Z3 k) n0 z0 = p2 at *
      cases bi with
      | false =>
        cases bj with
        | false =>
          as_aux_lemma =>
            clear HP1 HP3
            go_wp2_with (go_at_call 13; refine HP2.out.mono ?_; clear HP2; rintro e w' ⟨rfl, q2', rfl⟩)
            go_roundw
            case rel => exact ⟨k + 1, _, _, by omega, rfl, rfl, by go_num, ⟨by rw [HN.out.1]; simp, by rw [HN.out.2]; simp⟩, (by first | exact HW.out | exact HW.out.drew _ | exact (HW.out.drew _).drew _)⟩
            case measure => simp [intOf]; omega
        | true =>
          cases bp with
          | false =>
            as_aux_lemma =>
              clear HP1 HP3
              go_wp2_with (go_at_call 13; refine HP2.out.mono ?_; clear HP2; rintro e w' ⟨rfl, q2', rfl⟩)
              go_roundw
              case rel => exact ⟨k + 1, _, _, by omega, rfl, rfl, by go_num, ⟨by rw [HN.out.1]; simp, by rw [HN.out.2]; simp⟩, (by first | exact HW.out | exact HW.out.drew _ | exact (HW.out.drew _).drew _)⟩
              case measure => simp [intOf]; omega
          | true =>
            cases p2 with
            | false =>
              as_aux_lemma =>
                clear HP1 HP3
                go_wp2_with (go_at_call 13; refine HP2.out.mono ?_; clear HP2; rintro e w' ⟨rfl, q2', rfl⟩)
                go_roundw
                case rel => exact ⟨k + 1, _, _, by omega, rfl, rfl, by go_num, ⟨by rw [HN.out.1]; simp, by rw [HN.out.2]; simp⟩, (by first | exact HW.out | exact HW.out.drew _ | exact (HW.out.drew _).drew _)⟩
                case measure => simp [intOf]; omega
            | true =>
              as_aux_lemma =>
                clear HP1 HP3
                go_wp2_with (go_at_call 13; refine HP2.out.mono ?_; clear HP2; rintro e w' ⟨rfl, q2', rfl⟩)
                go_roundw
                case rel => exact ⟨k + 1, _, _, by omega, rfl, rfl, by go_num, ⟨by rw [HN.out.1]; simp, by rw [HN.out.2]; simp⟩, (by first | exact HW.out | exact HW.out.drew _ | exact (HW.out.drew _).drew _)⟩
                case measure => simp [intOf]; omega
      | true =>
        cases bc with
        | false =>
          cases bj with
          | false =>
            as_aux_lemma =>
              clear HP1 HP3
              go_wp2_with (go_at_call 13; refine HP2.out.mono ?_; clear HP2; rintro e w' ⟨rfl, q2', rfl⟩)
              go_roundw
              case rel => exact ⟨k + 1, _, _, by omega, rfl, rfl, by go_num, ⟨by rw [HN.out.1]; simp, by rw [HN.out.2]; simp⟩, (by first | exact HW.out | exact HW.out.drew _ | exact (HW.out.drew _).drew _)⟩
              case measure => simp [intOf]; omega
          | true =>
            cases bp with
            | false =>
              as_aux_lemma =>
                clear HP1 HP3
                go_wp2_with (go_at_call 13; refine HP2.out.mono ?_; clear HP2; rintro e w' ⟨rfl, q2', rfl⟩)
                go_roundw
                case rel => exact ⟨k + 1, _, _, by omega, rfl, rfl, by go_num, ⟨by rw [HN.out.1]; simp, by rw [HN.out.2]; simp⟩, (by first | exact HW.out | exact HW.out.drew _ | exact (HW.out.drew _).drew _)⟩
                case measure => simp [intOf]; omega
            | true =>
              cases p2 with
              | false =>
                as_aux_lemma =>
                  clear HP1 HP3
                  go_wp2_with (go_at_call 13; refine HP2.out.mono ?_; clear HP2; rintro e w' ⟨rfl, q2', rfl⟩)
                  go_roundw
                  case rel => exact ⟨k + 1, _, _, by omega, rfl, rfl, by go_num, ⟨by rw [HN.out.1]; simp, by rw [HN.out.2]; simp⟩, (by first | exact HW.out | exact HW.out.drew _ | exact (HW.out.drew _).drew _)⟩
                  case measure => simp [intOf]; omega
              | true =>
                as_aux_lemma =>
                  clear HP1 HP3
                  go_wp2_with (go_at_call 13; refine HP2.out.mono ?_; clear HP2; rintro e w' ⟨rfl, q2', rfl⟩)
                  go_roundw
                  case rel => exact ⟨k + 1, _, _, by omega, rfl, rfl, by go_num, ⟨by rw [HN.out.1]; simp, by rw [HN.out.2]; simp⟩, (by first | exact HW.out | exact HW.out.drew _ | exact (HW.out.drew _).drew _)⟩
                  case measure => simp [intOf]; omega
        | true =>
          cases p1 with
          | false =>
            cases bj with
            | false =>
              as_aux_lemma =>
                clear HP2
                go_wp2_with (go_at_call 13; first | (refine HP1.out.mono ?_; clear HP1; rintro e w' ⟨rfl, q1', rfl⟩) | (refine (HP3.out _).mono ?_; clear HP3; rintro e w' ⟨rfl, q2', rfl⟩))
                go_roundw
                case rel => exact ⟨k + 1, _, _, by omega, rfl, rfl, by go_num, ⟨by rw [HN.out.1]; simp, by rw [HN.out.2]; simp⟩, (by first | exact HW.out | exact HW.out.drew _ | exact (HW.out.drew _).drew _)⟩
                case measure => simp [intOf]; omega
            | true =>
              cases bp with
              | false =>
                as_aux_lemma =>
                  clear HP2
                  go_wp2_with (go_at_call 13; first | (refine HP1.out.mono ?_; clear HP1; rintro e w' ⟨rfl, q1', rfl⟩) | (refine (HP3.out _).mono ?_; clear HP3; rintro e w' ⟨rfl, q2', rfl⟩))
                  go_roundw
                  case rel => exact ⟨k + 1, _, _, by omega, rfl, rfl, by go_num, ⟨by rw [HN.out.1]; simp, by rw [HN.out.2]; simp⟩, (by first | exact HW.out | exact HW.out.drew _ | exact (HW.out.drew _).drew _)⟩
                  case measure => simp [intOf]; omega
              | true =>
                cases p2 with
                | false =>
                  as_aux_lemma =>
                    clear HP2
                    go_wp2_with (go_at_call 13; first | (refine HP1.out.mono ?_; clear HP1; rintro e w' ⟨rfl, q1', rfl⟩) | (refine (HP3.out _).mono ?_; clear HP3; rintro e w' ⟨rfl, q2', rfl⟩))
                    go_roundw
                    case rel => exact ⟨k + 1, _, _, by omega, rfl, rfl, by go_num, ⟨by rw [HN.out.1]; simp, by rw [HN.out.2]; simp⟩, (by first | exact HW.out | exact HW.out.drew _ | exact (HW.out.drew _).drew _)⟩
                    case measure => simp [intOf]; omega
                | true =>
                  as_aux_lemma =>
                    clear HP2
                    go_wp2_with (go_at_call 13; first | (refine HP1.out.mono ?_; clear HP1; rintro e w' ⟨rfl, q1', rfl⟩) | (refine (HP3.out _).mono ?_; clear HP3; rintro e w' ⟨rfl, q2', rfl⟩))
                    go_roundw
                    case rel => exact ⟨k + 1, _, _, by omega, rfl, rfl, by go_num, ⟨by rw [HN.out.1]; simp, by rw [HN.out.2]; simp⟩, (by first | exact HW.out | exact HW.out.drew _ | exact (HW.out.drew _).drew _)⟩
                    case measure => simp [intOf]; omega
          | true =>
            cases bj with
            | false =>
              as_aux_lemma =>
                clear HP2
                go_wp2_with (go_at_call 13; first | (refine HP1.out.mono ?_; clear HP1; rintro e w' ⟨rfl, q1', rfl⟩) | (refine (HP3.out _).mono ?_; clear HP3; rintro e w' ⟨rfl, q2', rfl⟩))
                go_roundw
                case rel => exact ⟨k + 1, _, _, by omega, rfl, rfl, by go_num, ⟨by rw [HN.out.1]; simp, by rw [HN.out.2]; simp⟩, (by first | exact HW.out | exact HW.out.drew _ | exact (HW.out.drew _).drew _)⟩
                case measure => simp [intOf]; omega
            | true =>
              cases bp with
              | false =>
                as_aux_lemma =>
                  clear HP2
                  go_wp2_with (go_at_call 13; first | (refine HP1.out.mono ?_; clear HP1; rintro e w' ⟨rfl, q1', rfl⟩) | (refine (HP3.out _).mono ?_; clear HP3; rintro e w' ⟨rfl, q2', rfl⟩))
                  go_roundw
                  case rel => exact ⟨k + 1, _, _, by omega, rfl, rfl, by go_num, ⟨by rw [HN.out.1]; simp, by rw [HN.out.2]; simp⟩, (by first | exact HW.out | exact HW.out.drew _ | exact (HW.out.drew _).drew _)⟩
                  case measure => simp [intOf]; omega
              | true =>
                cases p2 with
                | false =>
                  as_aux_lemma =>
                    clear HP2
                    go_wp2_with (go_at_call 13; first | (refine HP1.out.mono ?_; clear HP1; rintro e w' ⟨rfl, q1', rfl⟩) | (refine (HP3.out _).mono ?_; clear HP3; rintro e w' ⟨rfl, q2', rfl⟩))
                    go_roundw
                    case rel => exact ⟨k + 1, _, _, by omega, rfl, rfl, by go_num, ⟨by rw [HN.out.1]; simp, by rw [HN.out.2]; simp⟩, (by first | exact HW.out | exact HW.out.drew _ | exact (HW.out.drew _).drew _)⟩
                    case measure => simp [intOf]; omega
                | true =>
                  as_aux_lemma =>
                    clear HP2
                    go_wp2_with (go_at_call 13; first | (refine HP1.out.mono ?_; clear HP1; rintro e w' ⟨rfl, q1', rfl⟩) | (refine (HP3.out _).mono ?_; clear HP3; rintro e w' ⟨rfl, q2', rfl⟩))
                    go_roundw
                    case rel => exact ⟨k + 1, _, _, by omega, rfl, rfl, by go_num, ⟨by rw [HN.out.1]; simp, by rw [HN.out.2]; simp⟩, (by first | exact HW.out | exact HW.out.drew _ | exact (HW.out.drew _).drew _)⟩
                    case measure => simp [intOf]; omega
    · obtain rfl : k = n2 := by omega
      have HM2 := hide (HM.out.same HW.out.below)
      have HDD : Hid (D = (bo && bf)) := by rw [HE.out.1, HE.out.2]; exact HD.out
      have HWB : Hid (Below w.heap.size w wr) := Below.next HP.out.bel HM2.out.bel
      clear HE HD HM HW
      cases bo with
      | false =>
        as_aux_lemma =>
          obtain rfl : D = false := HDD.out
          clear HDD
          go_wp2_with fail
          go_loopw [31] (fun i wr' => ∃ j : Nat, j ≤ k ∧ i = .int .i64 j ∧ wr' = wr) (fun i _ => k - (intOf i).toNat)
          case atStart => exact ⟨0, by omega, rfl, by first | rfl | trivial⟩
          case round =>
            obtain ⟨j, hj, rfl, hw⟩ := hrel
            have hw2 := hw.symm
            subst hw2
            clear hw
            by_cases hlt : j < k
            · have hbel := HM2.out.bel
              obtain ⟨A4, C4, E4, _, _, _, p4⟩ := HP.out.s4
              injection E4 with E4 _ E4'
              subst E4 E4'
              obtain ⟨b4, o4, rfl, g4⟩ := p4.resolve_left (by omega)
              have q4 := cell_b hbel (g4 j hlt)
              obtain ⟨A5, C5, E5, _, _, _, p5⟩ := HP.out.s5
              injection E5 with E5 _ E5'
              subst E5 E5'
              obtain ⟨b5, o5, rfl, g5⟩ := p5.resolve_left (by omega)
              have q5 := cell_b hbel (g5 j hlt)
              obtain ⟨A6, C6, E6, _, _, _, p6⟩ := HP.out.s6
              injection E6 with E6 _ E6'
              subst E6 E6'
              obtain ⟨b6, o6, rfl, g6⟩ := p6.resolve_left (by omega)
              have q6 := cell_b hbel (g6 j hlt)
              obtain ⟨A7, C7, E7, _, _, _, p7⟩ := HP.out.s7
              injection E7 with E7 _ E7'
              subst E7 E7'
              obtain ⟨b7, o7, rfl, g7⟩ := p7.resolve_left (by omega)
              have q7 := cell_b hbel (g7 j hlt)
              obtain ⟨A1, C1, E1, _, _, _, p1⟩ := HM2.out.row
              injection E1 with E1 _ E1'
              subst E1 E1'
              obtain ⟨b1, o1, rfl, g1⟩ := p1.resolve_left (by omega)
              obtain ⟨K, k1, k3, k8⟩ := HM2.out.cells j hlt
              unfold bools at q4 q5 q6 q7
              unfold six' at k3 k8
              clear g4 g5 g6 g7 g1 p4 p5 p6 p7 p1 hbel
              generalize ic j = bi at *
              generalize cof j = bc at *
              generalize ip j = bj at *
              generalize pof j = bp at *
              cases bc with
              | false =>
                cases bp with
                | false =>
                  as_aux_lemma =>
                    have k3 : wr.cell? ⟨K, 3, none⟩ = some (.pointer (some ⟨O, 0, none⟩)) := k3
                    have k8 : wr.cell? ⟨K, 8, none⟩ = some (.pointer (some ⟨O, 0, none⟩)) := k8
                    have m1 := neq_same O wr
                    go_wp2_with (first | (go_at_call 14; refine (childIndex_any K wr _ k3).mono ?_; rintro e w' ⟨rfl, hw'⟩; have hw3 := hw'.symm; subst hw3; clear hw') | (go_at_call 15; refine (parentIndex_any K wr _ k8).mono ?_; rintro e w' ⟨rfl, hw'⟩; have hw3 := hw'.symm; subst hw3; clear hw'))
                    go_roundw
                    case rel => exact ⟨j + 1, by omega, by go_num, by first | rfl | trivial⟩
                    case measure => simp [intOf]; omega
                | true =>
                  as_aux_lemma =>
                    have k3 : wr.cell? ⟨K, 3, none⟩ = some (.pointer (some ⟨O, 0, none⟩)) := k3
                    have k8 : wr.cell? ⟨K, 8, none⟩ = some (.pointer (some ⟨F, 0, none⟩)) := k8
                    have m1 := neq_same O wr
                    have m2 := neq_same F wr
                    go_wp2_with (first | (go_at_call 14; refine (childIndex_any K wr _ k3).mono ?_; rintro e w' ⟨rfl, hw'⟩; have hw3 := hw'.symm; subst hw3; clear hw') | (go_at_call 15; refine (parentIndex_any K wr _ k8).mono ?_; rintro e w' ⟨rfl, hw'⟩; have hw3 := hw'.symm; subst hw3; clear hw'))
                    go_roundw
                    case rel => exact ⟨j + 1, by omega, by go_num, by first | rfl | trivial⟩
                    case measure => simp [intOf]; omega
              | true =>
                cases bp with
                | false =>
                  as_aux_lemma =>
                    have k3 : wr.cell? ⟨K, 3, none⟩ = some (.pointer (some ⟨F, 0, none⟩)) := k3
                    have k8 : wr.cell? ⟨K, 8, none⟩ = some (.pointer (some ⟨O, 0, none⟩)) := k8
                    have m1 := neq_same F wr
                    have m2 := neq_same O wr
                    go_wp2_with (first | (go_at_call 14; refine (childIndex_any K wr _ k3).mono ?_; rintro e w' ⟨rfl, hw'⟩; have hw3 := hw'.symm; subst hw3; clear hw') | (go_at_call 15; refine (parentIndex_any K wr _ k8).mono ?_; rintro e w' ⟨rfl, hw'⟩; have hw3 := hw'.symm; subst hw3; clear hw'))
                    go_roundw
                    case rel => exact ⟨j + 1, by omega, by go_num, by first | rfl | trivial⟩
                    case measure => simp [intOf]; omega
                | true =>
                  as_aux_lemma =>
                    have k3 : wr.cell? ⟨K, 3, none⟩ = some (.pointer (some ⟨F, 0, none⟩)) := k3
                    have k8 : wr.cell? ⟨K, 8, none⟩ = some (.pointer (some ⟨F, 0, none⟩)) := k8
                    have m1 := neq_same F wr
                    go_wp2_with (first | (go_at_call 14; refine (childIndex_any K wr _ k3).mono ?_; rintro e w' ⟨rfl, hw'⟩; have hw3 := hw'.symm; subst hw3; clear hw') | (go_at_call 15; refine (parentIndex_any K wr _ k8).mono ?_; rintro e w' ⟨rfl, hw'⟩; have hw3 := hw'.symm; subst hw3; clear hw'))
                    go_roundw
                    case rel => exact ⟨j + 1, by omega, by go_num, by first | rfl | trivial⟩
                    case measure => simp [intOf]; omega
            · obtain rfl : j = k := by omega
              go_wp2_with fail
              go_ret
              exact ⟨rfl, HWB.out⟩
      | true =>
        cases bf with
        | false =>
          as_aux_lemma =>
            obtain rfl : D = false := HDD.out
            clear HDD
            go_wp2_with fail
            go_loopw [31] (fun i wr' => ∃ j : Nat, j ≤ k ∧ i = .int .i64 j ∧ wr' = wr) (fun i _ => k - (intOf i).toNat)
            case atStart => exact ⟨0, by omega, rfl, by first | rfl | trivial⟩
            case round =>
              obtain ⟨j, hj, rfl, hw⟩ := hrel
              have hw2 := hw.symm
              subst hw2
              clear hw
              by_cases hlt : j < k
              · have hbel := HM2.out.bel
                obtain ⟨A4, C4, E4, _, _, _, p4⟩ := HP.out.s4
                injection E4 with E4 _ E4'
                subst E4 E4'
                obtain ⟨b4, o4, rfl, g4⟩ := p4.resolve_left (by omega)
                have q4 := cell_b hbel (g4 j hlt)
                obtain ⟨A5, C5, E5, _, _, _, p5⟩ := HP.out.s5
                injection E5 with E5 _ E5'
                subst E5 E5'
                obtain ⟨b5, o5, rfl, g5⟩ := p5.resolve_left (by omega)
                have q5 := cell_b hbel (g5 j hlt)
                obtain ⟨A6, C6, E6, _, _, _, p6⟩ := HP.out.s6
                injection E6 with E6 _ E6'
                subst E6 E6'
                obtain ⟨b6, o6, rfl, g6⟩ := p6.resolve_left (by omega)
                have q6 := cell_b hbel (g6 j hlt)
                obtain ⟨A7, C7, E7, _, _, _, p7⟩ := HP.out.s7
                injection E7 with E7 _ E7'
                subst E7 E7'
                obtain ⟨b7, o7, rfl, g7⟩ := p7.resolve_left (by omega)
                have q7 := cell_b hbel (g7 j hlt)
                obtain ⟨A1, C1, E1, _, _, _, p1⟩ := HM2.out.row
                injection E1 with E1 _ E1'
                subst E1 E1'
                obtain ⟨b1, o1, rfl, g1⟩ := p1.resolve_left (by omega)
                obtain ⟨K, k1, k3, k8⟩ := HM2.out.cells j hlt
                unfold bools at q4 q5 q6 q7
                unfold six' at k3 k8
                clear g4 g5 g6 g7 g1 p4 p5 p6 p7 p1 hbel
                generalize ic j = bi at *
                generalize cof j = bc at *
                generalize ip j = bj at *
                generalize pof j = bp at *
                cases bc with
                | false =>
                  cases bp with
                  | false =>
                    as_aux_lemma =>
                      have k3 : wr.cell? ⟨K, 3, none⟩ = some (.pointer (some ⟨O, 0, none⟩)) := k3
                      have k8 : wr.cell? ⟨K, 8, none⟩ = some (.pointer (some ⟨O, 0, none⟩)) := k8
                      have m1 := neq_same O wr
                      go_wp2_with (first | (go_at_call 14; refine (childIndex_any K wr _ k3).mono ?_; rintro e w' ⟨rfl, hw'⟩; have hw3 := hw'.symm; subst hw3; clear hw') | (go_at_call 15; refine (parentIndex_any K wr _ k8).mono ?_; rintro e w' ⟨rfl, hw'⟩; have hw3 := hw'.symm; subst hw3; clear hw'))
                      go_roundw
                      case rel => exact ⟨j + 1, by omega, by go_num, by first | rfl | trivial⟩
                      case measure => simp [intOf]; omega
                  | true =>
                    as_aux_lemma =>
                      have k3 : wr.cell? ⟨K, 3, none⟩ = some (.pointer (some ⟨O, 0, none⟩)) := k3
                      have k8 : wr.cell? ⟨K, 8, none⟩ = some (.pointer (some ⟨F, 0, none⟩)) := k8
                      have m1 := neq_same O wr
                      have m2 := neq_same F wr
                      go_wp2_with (first | (go_at_call 14; refine (childIndex_any K wr _ k3).mono ?_; rintro e w' ⟨rfl, hw'⟩; have hw3 := hw'.symm; subst hw3; clear hw') | (go_at_call 15; refine (parentIndex_any K wr _ k8).mono ?_; rintro e w' ⟨rfl, hw'⟩; have hw3 := hw'.symm; subst hw3; clear hw'))
                      go_roundw
                      case rel => exact ⟨j + 1, by omega, by go_num, by first | rfl | trivial⟩
                      case measure => simp [intOf]; omega
                | true =>
                  cases bp with
                  | false =>
                    as_aux_lemma =>
                      have k3 : wr.cell? ⟨K, 3, none⟩ = some (.pointer (some ⟨F, 0, none⟩)) := k3
                      have k8 : wr.cell? ⟨K, 8, none⟩ = some (.pointer (some ⟨O, 0, none⟩)) := k8
                      have m1 := neq_same F wr
                      have m2 := neq_same O wr
                      go_wp2_with (first | (go_at_call 14; refine (childIndex_any K wr _ k3).mono ?_; rintro e w' ⟨rfl, hw'⟩; have hw3 := hw'.symm; subst hw3; clear hw') | (go_at_call 15; refine (parentIndex_any K wr _ k8).mono ?_; rintro e w' ⟨rfl, hw'⟩; have hw3 := hw'.symm; subst hw3; clear hw'))
                      go_roundw
                      case rel => exact ⟨j + 1, by omega, by go_num, by first | rfl | trivial⟩
                      case measure => simp [intOf]; omega
                  | true =>
                    as_aux_lemma =>
                      have k3 : wr.cell? ⟨K, 3, none⟩ = some (.pointer (some ⟨F, 0, none⟩)) := k3
                      have k8 : wr.cell? ⟨K, 8, none⟩ = some (.pointer (some ⟨F, 0, none⟩)) := k8
                      have m1 := neq_same F wr
                      go_wp2_with (first | (go_at_call 14; refine (childIndex_any K wr _ k3).mono ?_; rintro e w' ⟨rfl, hw'⟩; have hw3 := hw'.symm; subst hw3; clear hw') | (go_at_call 15; refine (parentIndex_any K wr _ k8).mono ?_; rintro e w' ⟨rfl, hw'⟩; have hw3 := hw'.symm; subst hw3; clear hw'))
                      go_roundw
                      case rel => exact ⟨j + 1, by omega, by go_num, by first | rfl | trivial⟩
                      case measure => simp [intOf]; omega
              · obtain rfl : j = k := by omega
                go_wp2_with fail
                go_ret
                exact ⟨rfl, HWB.out⟩
        | true =>
          as_aux_lemma =>
            obtain rfl : D = true := HDD.out
            clear HDD
            go_wp2_with fail
            go_loopw [31] (fun i wr' => ∃ j : Nat, j ≤ k ∧ i = .int .i64 j ∧ wr' = wr) (fun i _ => k - (intOf i).toNat)
            case atStart => exact ⟨0, by omega, rfl, by first | rfl | trivial⟩
            case round =>
              obtain ⟨j, hj, rfl, hw⟩ := hrel
              have hw2 := hw.symm
              subst hw2
              clear hw
              by_cases hlt : j < k
              · have hbel := HM2.out.bel
                obtain ⟨A4, C4, E4, _, _, _, p4⟩ := HP.out.s4
                injection E4 with E4 _ E4'
                subst E4 E4'
                obtain ⟨b4, o4, rfl, g4⟩ := p4.resolve_left (by omega)
                have q4 := cell_b hbel (g4 j hlt)
                obtain ⟨A5, C5, E5, _, _, _, p5⟩ := HP.out.s5
                injection E5 with E5 _ E5'
                subst E5 E5'
                obtain ⟨b5, o5, rfl, g5⟩ := p5.resolve_left (by omega)
                have q5 := cell_b hbel (g5 j hlt)
                obtain ⟨A6, C6, E6, _, _, _, p6⟩ := HP.out.s6
                injection E6 with E6 _ E6'
                subst E6 E6'
                obtain ⟨b6, o6, rfl, g6⟩ := p6.resolve_left (by omega)
                have q6 := cell_b hbel (g6 j hlt)
                obtain ⟨A7, C7, E7, _, _, _, p7⟩ := HP.out.s7
                injection E7 with E7 _ E7'
                subst E7 E7'
                obtain ⟨b7, o7, rfl, g7⟩ := p7.resolve_left (by omega)
                have q7 := cell_b hbel (g7 j hlt)
                obtain ⟨A1, C1, E1, _, _, _, p1⟩ := HM2.out.row
                injection E1 with E1 _ E1'
                subst E1 E1'
                obtain ⟨b1, o1, rfl, g1⟩ := p1.resolve_left (by omega)
                obtain ⟨K, k1, k3, k8⟩ := HM2.out.cells j hlt
                unfold bools at q4 q5 q6 q7
                unfold six' at k3 k8
                clear g4 g5 g6 g7 g1 p4 p5 p6 p7 p1 hbel
                generalize ic j = bi at *
                generalize cof j = bc at *
                generalize ip j = bj at *
                generalize pof j = bp at *
                cases bc with
                | false =>
                  cases bp with
                  | false =>
                    as_aux_lemma =>
                      have k3 : wr.cell? ⟨K, 3, none⟩ = some (.pointer (some ⟨O, 0, none⟩)) := k3
                      have k8 : wr.cell? ⟨K, 8, none⟩ = some (.pointer (some ⟨O, 0, none⟩)) := k8
                      have m1 := neq_same O wr
                      go_wp2_with (first | (go_at_call 14; refine (childIndex_any K wr _ k3).mono ?_; rintro e w' ⟨rfl, hw'⟩; have hw3 := hw'.symm; subst hw3; clear hw') | (go_at_call 15; refine (parentIndex_any K wr _ k8).mono ?_; rintro e w' ⟨rfl, hw'⟩; have hw3 := hw'.symm; subst hw3; clear hw'))
                      go_roundw
                      case rel => exact ⟨j + 1, by omega, by go_num, by first | rfl | trivial⟩
                      case measure => simp [intOf]; omega
                  | true =>
                    cases bj with
                    | false =>
                      as_aux_lemma =>
                        have k3 : wr.cell? ⟨K, 3, none⟩ = some (.pointer (some ⟨O, 0, none⟩)) := k3
                        have k8 : wr.cell? ⟨K, 8, none⟩ = some (.pointer (some ⟨F, 0, none⟩)) := k8
                        have m1 := neq_same O wr
                        have m2 := neq_same F wr
                        go_wp2_with (first | (go_at_call 14; refine (childIndex_any K wr _ k3).mono ?_; rintro e w' ⟨rfl, hw'⟩; have hw3 := hw'.symm; subst hw3; clear hw') | (go_at_call 15; refine (parentIndex_any K wr _ k8).mono ?_; rintro e w' ⟨rfl, hw'⟩; have hw3 := hw'.symm; subst hw3; clear hw'))
                        go_roundw
                        case rel => exact ⟨j + 1, by omega, by go_num, by first | rfl | trivial⟩
                        case measure => simp [intOf]; omega
                    | true =>
                      as_aux_lemma =>
                        have k3 : wr.cell? ⟨K, 3, none⟩ = some (.pointer (some ⟨O, 0, none⟩)) := k3
                        have k8 : wr.cell? ⟨K, 8, none⟩ = some (.pointer (some ⟨F, 0, none⟩)) := k8
                        have m1 := neq_same O wr
                        have m2 := neq_same F wr
                        go_wp2_with (first | (go_at_call 14; refine (childIndex_any K wr _ k3).mono ?_; rintro e w' ⟨rfl, hw'⟩; have hw3 := hw'.symm; subst hw3; clear hw') | (go_at_call 15; refine (parentIndex_any K wr _ k8).mono ?_; rintro e w' ⟨rfl, hw'⟩; have hw3 := hw'.symm; subst hw3; clear hw'))
                        go_roundw
                        case rel => exact ⟨j + 1, by omega, by go_num, by first | rfl | trivial⟩
                        case measure => simp [intOf]; omega
                | true =>
                  cases bi with
                  | false =>
                    cases bp with
                    | false =>
                      as_aux_lemma =>
                        have k3 : wr.cell? ⟨K, 3, none⟩ = some (.pointer (some ⟨F, 0, none⟩)) := k3
                        have k8 : wr.cell? ⟨K, 8, none⟩ = some (.pointer (some ⟨O, 0, none⟩)) := k8
                        have m1 := neq_same F wr
                        have m2 := neq_same O wr
                        go_wp2_with (first | (go_at_call 14; refine (childIndex_any K wr _ k3).mono ?_; rintro e w' ⟨rfl, hw'⟩; have hw3 := hw'.symm; subst hw3; clear hw') | (go_at_call 15; refine (parentIndex_any K wr _ k8).mono ?_; rintro e w' ⟨rfl, hw'⟩; have hw3 := hw'.symm; subst hw3; clear hw'))
                        go_roundw
                        case rel => exact ⟨j + 1, by omega, by go_num, by first | rfl | trivial⟩
                        case measure => simp [intOf]; omega
                    | true =>
                      cases bj with
                      | false =>
                        as_aux_lemma =>
                          have k3 : wr.cell? ⟨K, 3, none⟩ = some (.pointer (some ⟨F, 0, none⟩)) := k3
                          have k8 : wr.cell? ⟨K, 8, none⟩ = some (.pointer (some ⟨F, 0, none⟩)) := k8
                          have m1 := neq_same F wr
                          go_wp2_with (first | (go_at_call 14; refine (childIndex_any K wr _ k3).mono ?_; rintro e w' ⟨rfl, hw'⟩; have hw3 := hw'.symm; subst hw3; clear hw') | (go_at_call 15; refine (parentIndex_any K wr _ k8).mono ?_; rintro e w' ⟨rfl, hw'⟩; have hw3 := hw'.symm; subst hw3; clear hw'))
                          go_roundw
                          case rel => exact ⟨j + 1, by omega, by go_num, by first | rfl | trivial⟩
                          case measure => simp [intOf]; omega
                      | true =>
                        as_aux_lemma =>
                          have k3 : wr.cell? ⟨K, 3, none⟩ = some (.pointer (some ⟨F, 0, none⟩)) := k3
                          have k8 : wr.cell? ⟨K, 8, none⟩ = some (.pointer (some ⟨F, 0, none⟩)) := k8
                          have m1 := neq_same F wr
                          go_wp2_with (first | (go_at_call 14; refine (childIndex_any K wr _ k3).mono ?_; rintro e w' ⟨rfl, hw'⟩; have hw3 := hw'.symm; subst hw3; clear hw') | (go_at_call 15; refine (parentIndex_any K wr _ k8).mono ?_; rintro e w' ⟨rfl, hw'⟩; have hw3 := hw'.symm; subst hw3; clear hw'))
                          go_roundw
                          case rel => exact ⟨j + 1, by omega, by go_num, by first | rfl | trivial⟩
                          case measure => simp [intOf]; omega
                  | true =>
                    cases bp with
                    | false =>
                      as_aux_lemma =>
                        have k3 : wr.cell? ⟨K, 3, none⟩ = some (.pointer (some ⟨F, 0, none⟩)) := k3
                        have k8 : wr.cell? ⟨K, 8, none⟩ = some (.pointer (some ⟨O, 0, none⟩)) := k8
                        have m1 := neq_same F wr
                        have m2 := neq_same O wr
                        go_wp2_with (first | (go_at_call 14; refine (childIndex_any K wr _ k3).mono ?_; rintro e w' ⟨rfl, hw'⟩; have hw3 := hw'.symm; subst hw3; clear hw') | (go_at_call 15; refine (parentIndex_any K wr _ k8).mono ?_; rintro e w' ⟨rfl, hw'⟩; have hw3 := hw'.symm; subst hw3; clear hw'))
                        go_roundw
                        case rel => exact ⟨j + 1, by omega, by go_num, by first | rfl | trivial⟩
                        case measure => simp [intOf]; omega
                    | true =>
                      cases bj with
                      | false =>
                        as_aux_lemma =>
                          have k3 : wr.cell? ⟨K, 3, none⟩ = some (.pointer (some ⟨F, 0, none⟩)) := k3
                          have k8 : wr.cell? ⟨K, 8, none⟩ = some (.pointer (some ⟨F, 0, none⟩)) := k8
                          have m1 := neq_same F wr
                          go_wp2_with (first | (go_at_call 14; refine (childIndex_any K wr _ k3).mono ?_; rintro e w' ⟨rfl, hw'⟩; have hw3 := hw'.symm; subst hw3; clear hw') | (go_at_call 15; refine (parentIndex_any K wr _ k8).mono ?_; rintro e w' ⟨rfl, hw'⟩; have hw3 := hw'.symm; subst hw3; clear hw'))
                          go_roundw
                          case rel => exact ⟨j + 1, by omega, by go_num, by first | rfl | trivial⟩
                          case measure => simp [intOf]; omega
                      | true =>
                        as_aux_lemma =>
                          have k3 : wr.cell? ⟨K, 3, none⟩ = some (.pointer (some ⟨F, 0, none⟩)) := k3
                          have k8 : wr.cell? ⟨K, 8, none⟩ = some (.pointer (some ⟨F, 0, none⟩)) := k8
                          have m1 := neq_same F wr
                          go_wp2_with (first | (go_at_call 14; refine (childIndex_any K wr _ k3).mono ?_; rintro e w' ⟨rfl, hw'⟩; have hw3 := hw'.symm; subst hw3; clear hw') | (go_at_call 15; refine (parentIndex_any K wr _ k8).mono ?_; rintro e w' ⟨rfl, hw'⟩; have hw3 := hw'.symm; subst hw3; clear hw'))
                          go_roundw
                          case rel => exact ⟨j + 1, by omega, by go_num, by first | rfl | trivial⟩
                          case measure => simp [intOf]; omega
              · obtain rfl : j = k := by omega
                go_wp2_with fail
                go_ret
                exact ⟨rfl, HWB.out⟩

end Go.Proofs.Qxb6602363a
