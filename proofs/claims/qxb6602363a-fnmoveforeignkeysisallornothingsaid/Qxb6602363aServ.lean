import Derived.Test.Qxb6602363aMove
import Derived.Deep.RegionHeld3
namespace Go.Proofs.Qxb6602363a
open Go.RowKit
set_option linter.unusedVariables false
set_option linter.unusedSimpArgs false

theorem moveZ_any (tb A T n : Nat) (kb : Nat → Nat) (cv rv : Nat → Value) (σ π : Nat → Nat) (i2 i3 : List Nat) (v2 v3 vt : Value) (L1 L2 : Nat → Nat) (Z1 Z2 : Nat → Nat → Int) (nt : Nat) (zt : Nat → Int) (w : World)
    (h : MvIn w tb A T n kb cv rv σ π i2 i3 v2 v3 vt L1 L2 Z1 Z2 nt zt) :
    Calls Try.prog 12 #[kp tb, kp A, kp T] w fun e w' => e = .returned (.bool (mvB A σ π i2 i3 L1 L2 Z1 Z2 nt zt)) ∧ Off w w' n kb ∧
      KeysAt w' n kb cv rv (if mvB A σ π i2 i3 L1 L2 Z1 Z2 nt zt then updL σ (onA σ A i2) T else σ) (if mvB A σ π i2 i3 L1 L2 Z1 Z2 nt zt then updL π (onA π A i3) T else π) := by
  have hm := hide (move_any tb A T n kb cv rv σ π i2 i3 v2 v3 vt L1 L2 Z1 Z2 nt zt w h)
  clear h
  generalize (if mvB A σ π i2 i3 L1 L2 Z1 Z2 nt zt then updL σ (onA σ A i2) T else σ) = σ' at *
  generalize (if mvB A σ π i2 i3 L1 L2 Z1 Z2 nt zt then updL π (onA π A i3) T else π) = π' at *
  generalize mvB A σ π i2 i3 L1 L2 Z1 Z2 nt zt = D at *
  unfold kp at *
  go_enter Try.func12, Try.ntmps12
  go_wp2_with (go_at_call 20; refine hm.out.mono ?_; rintro e w' ⟨rfl, h2, h3⟩)
  go_ret
  exact ⟨rfl, h2, h3⟩

def serOk (L1 L2 : Nat → Nat) (Z1 Z2 : Nat → Nat → Int) (nf : Nat) (zf : Nat → Int) (ic ip cof pof : Nat → Bool) (j : Nat) : Prop :=
  (ic j = true → cof j = true → preB (L1 j) (Z1 j) nf zf = true) ∧ (ip j = true → pof j = true → preB (L2 j) (Z2 j) nf zf = true)

def Ser (L1 L2 : Nat → Nat) (Z1 Z2 : Nat → Nat → Int) (nf : Nat) (zf : Nat → Int) (ic ip cof pof : Nat → Bool) (k : Nat) : Prop :=
  ∀ j, j < k → serOk L1 L2 Z1 Z2 nf zf ic ip cof pof j

theorem Ser.more {L1 L2 : Nat → Nat} {Z1 Z2 : Nat → Nat → Int} {nf : Nat} {zf : Nat → Int} {ic ip cof pof : Nat → Bool} {k : Nat} (h : Ser L1 L2 Z1 Z2 nf zf ic ip cof pof k) (hk : serOk L1 L2 Z1 Z2 nf zf ic ip cof pof k) : Ser L1 L2 Z1 Z2 nf zf ic ip cof pof (k + 1) := fun j hj => by
  by_cases e : j = k
  · subst e; exact hk
  · exact h j (by omega)

def SerPost (L1 L2 : Nat → Nat) (Z1 Z2 : Nat → Nat → Int) (nf : Nat) (zf : Nat → Int) (ic ip cof pof : Nat → Bool) (n : Nat) (w : World) (e : Ending) (w' : World) : Prop :=
  ∃ b, e = .returned (.bool b) ∧ (∃ q, w' = w.drewN q) ∧ (b = true → Ser L1 L2 Z1 Z2 nf zf ic ip cof pof n)

/-- worlds that differ by draws alone -/
def DW (w wr : World) : Prop := ∃ q, wr = w.drewN q
theorem DW.drew {w wr : World} (h : DW w wr) (q : Nat) : DW w (wr.drewN q) := by
  obtain ⟨p, rfl⟩ := h; exact ⟨_, World.drewN_drewN _ _ _⟩
theorem DW.below {w wr : World} (h : DW w wr) : Below w.heap.size w wr := by
  obtain ⟨p, rfl⟩ := h; exact below_drewN (Below.refl _ _) p

set_option maxRecDepth 100000 in
set_option maxHeartbeats 16000000 in
theorem fromServes_any (vf vc vr vic vip vcof vpof : Value) (nf n : Nat) (zf : Nat → Int) (L1 L2 : Nat → Nat) (Z1 Z2 : Nat → Nat → Int) (ic ip cof pof : Nat → Bool) (w : World)
    (hf : Sl w vf nf (ints zf)) (hc : Ints2 w vc n L1 Z1) (hr : Ints2 w vr n L2 Z2)
    (hic : Sl w vic n (bools ic)) (hip : Sl w vip n (bools ip)) (hcof : Sl w vcof n (bools cof)) (hpof : Sl w vpof n (bools pof)) :
    Calls Try.prog 17 #[vf, vc, vr, vic, vip, vcof, vpof] w (SerPost L1 L2 Z1 Z2 nf zf ic ip cof pof n w) := by
  obtain ⟨cv, ⟨a1, c1, rfl, x1, y1, z1, hc3⟩, hcv⟩ := hc
  obtain ⟨rv, ⟨a2, c2, rfl, x2, y2, z2, hr3⟩, hrv⟩ := hr
  obtain ⟨a3, c3, rfl, x3, y3, z3, hic3⟩ := hic
  obtain ⟨a4, c4, rfl, x4, y4, z4, hip3⟩ := hip
  obtain ⟨a5, c5, rfl, x5, y5, z5, hcof3⟩ := hcof
  obtain ⟨a6, c6, rfl, x6, y6, z6, hpof3⟩ := hpof
  obtain ⟨af, cf, rfl⟩ := hf.form
  clear z1 z2 z3 z4 z5 z6
  unfold maxLen at y1 y2 y3 y4 y5 y6
  have HC := hide hc3
  have HR := hide hr3
  have HIC := hide hic3
  have HIP := hide hip3
  have HCO := hide hcof3
  have HPO := hide hpof3
  have HCV := hide hcv
  have HRV := hide hrv
  have HF := hide hf
  clear hc3 hr3 hic3 hip3 hcof3 hpof3 hcv hrv hf
  go_enter Try.func17, Try.ntmps17
  go_wp2_with fail
  go_loopw [15] (fun i wr => ∃ k : Nat, k ≤ n ∧ i = .int .i64 k ∧ Hid (DW w wr) ∧ Hid (Ser L1 L2 Z1 Z2 nf zf ic ip cof pof k)) (fun i _ => n - (intOf i).toNat)
  case atStart => exact ⟨0, by omega, rfl, ⟨0, rfl⟩, fun j hj => absurd hj (by omega)⟩
  case round =>
    obtain ⟨k, hk, rfl, HW, HS⟩ := hrel
    by_cases hlt : k < n
    · have hbel := HW.out.below
      obtain ⟨b1, o1, rfl, g1⟩ := HC.out.resolve_left (by omega)
      obtain ⟨b2, o2, rfl, g2⟩ := HR.out.resolve_left (by omega)
      obtain ⟨b3, o3, rfl, g3⟩ := HIC.out.resolve_left (by omega)
      obtain ⟨b4, o4, rfl, g4⟩ := HIP.out.resolve_left (by omega)
      obtain ⟨b5, o5, rfl, g5⟩ := HCO.out.resolve_left (by omega)
      obtain ⟨b6, o6, rfl, g6⟩ := HPO.out.resolve_left (by omega)
      obtain ⟨va, vm, hva⟩ := (HCV.out k hlt).form
      obtain ⟨ra, rm, hra⟩ := (HRV.out k hlt).form
      have q1 := cell_b hbel (g1 k hlt)
      have q2 := cell_b hbel (g2 k hlt)
      have q3 := cell_b hbel (g3 k hlt)
      have q4 := cell_b hbel (g4 k hlt)
      have q5 := cell_b hbel (g5 k hlt)
      have q6 := cell_b hbel (g6 k hlt)
      rw [hva] at q1
      rw [hra] at q2
      unfold bools at q3 q4 q5 q6
      have s1 : Sl w (.slice va (L1 k) vm) (L1 k) (ints (Z1 k)) := by rw [← hva]; exact HCV.out k hlt
      have s2 : Sl w (.slice ra (L2 k) rm) (L2 k) (ints (Z2 k)) := by rw [← hra]; exact HRV.out k hlt
      have HP1 := hide (isPrefix_any (.slice va (L1 k) vm) (.slice af nf cf) (L1 k) nf (Z1 k) zf wr (s1.below hbel) (HF.out.below hbel))
      have HP2 := hide (isPrefix_any (.slice ra (L2 k) rm) (.slice af nf cf) (L2 k) nf (Z2 k) zf wr (s2.below hbel) (HF.out.below hbel))
      have HP3 := hide (fun q => isPrefix_any (.slice ra (L2 k) rm) (.slice af nf cf) (L2 k) nf (Z2 k) zf (wr.drewN q) (s2.below ((HW.out.drew q).below)) (HF.out.below ((HW.out.drew q).below)))
      have HM := hide (HS.out.more)
      unfold serOk at HM
      clear g1 g2 g3 g4 g5 g6 s1 s2 hbel hva hra HS HC HR HIC HIP HCO HPO HCV HRV
      generalize ic k = bi at *
      generalize cof k = bc at *
      generalize ip k = bj at *
      generalize pof k = bp at *
      generalize preB (L1 k) (Z1 k) nf zf = p1 at *
      generalize preB (L2 k) (Z2 k) nf zf = p2 at *
      cases bi with
      | false =>
        cases bj with
        | false =>
          have HN := hide (HM.out ⟨by simp, by simp⟩)
          clear HM
          clear HP1 HP3
          go_wp2_with (go_at_call 13; refine HP2.out.mono ?_; clear HP2; rintro e w' ⟨rfl, q2', rfl⟩)
          go_roundw
          case rel => exact ⟨k + 1, by omega, by go_num, (by first | exact HW.out | exact HW.out.drew _ | exact (HW.out.drew _).drew _), HN⟩
          case measure => simp [intOf]; omega
        | true =>
          cases bp with
          | false =>
            have HN := hide (HM.out ⟨by simp, by simp⟩)
            clear HM
            clear HP1 HP3
            go_wp2_with (go_at_call 13; refine HP2.out.mono ?_; clear HP2; rintro e w' ⟨rfl, q2', rfl⟩)
            go_roundw
            case rel => exact ⟨k + 1, by omega, by go_num, (by first | exact HW.out | exact HW.out.drew _ | exact (HW.out.drew _).drew _), HN⟩
            case measure => simp [intOf]; omega
          | true =>
            cases p2 with
            | false =>
              clear HP1 HP3
              go_wp2_with (go_at_call 13; refine HP2.out.mono ?_; clear HP2; rintro e w' ⟨rfl, q2', rfl⟩)
              go_ret
              exact ⟨_, rfl, (by first | exact HW.out | exact HW.out.drew _ | exact (HW.out.drew _).drew _), fun h => by cases h⟩
            | true =>
              have HN := hide (HM.out ⟨by simp, by simp⟩)
              clear HM
              clear HP1 HP3
              go_wp2_with (go_at_call 13; refine HP2.out.mono ?_; clear HP2; rintro e w' ⟨rfl, q2', rfl⟩)
              go_roundw
              case rel => exact ⟨k + 1, by omega, by go_num, (by first | exact HW.out | exact HW.out.drew _ | exact (HW.out.drew _).drew _), HN⟩
              case measure => simp [intOf]; omega
      | true =>
        cases bc with
        | false =>
          cases bj with
          | false =>
            have HN := hide (HM.out ⟨by simp, by simp⟩)
            clear HM
            clear HP1 HP3
            go_wp2_with (go_at_call 13; refine HP2.out.mono ?_; clear HP2; rintro e w' ⟨rfl, q2', rfl⟩)
            go_roundw
            case rel => exact ⟨k + 1, by omega, by go_num, (by first | exact HW.out | exact HW.out.drew _ | exact (HW.out.drew _).drew _), HN⟩
            case measure => simp [intOf]; omega
          | true =>
            cases bp with
            | false =>
              have HN := hide (HM.out ⟨by simp, by simp⟩)
              clear HM
              clear HP1 HP3
              go_wp2_with (go_at_call 13; refine HP2.out.mono ?_; clear HP2; rintro e w' ⟨rfl, q2', rfl⟩)
              go_roundw
              case rel => exact ⟨k + 1, by omega, by go_num, (by first | exact HW.out | exact HW.out.drew _ | exact (HW.out.drew _).drew _), HN⟩
              case measure => simp [intOf]; omega
            | true =>
              cases p2 with
              | false =>
                clear HP1 HP3
                go_wp2_with (go_at_call 13; refine HP2.out.mono ?_; clear HP2; rintro e w' ⟨rfl, q2', rfl⟩)
                go_ret
                exact ⟨_, rfl, (by first | exact HW.out | exact HW.out.drew _ | exact (HW.out.drew _).drew _), fun h => by cases h⟩
              | true =>
                have HN := hide (HM.out ⟨by simp, by simp⟩)
                clear HM
                clear HP1 HP3
                go_wp2_with (go_at_call 13; refine HP2.out.mono ?_; clear HP2; rintro e w' ⟨rfl, q2', rfl⟩)
                go_roundw
                case rel => exact ⟨k + 1, by omega, by go_num, (by first | exact HW.out | exact HW.out.drew _ | exact (HW.out.drew _).drew _), HN⟩
                case measure => simp [intOf]; omega
        | true =>
          cases p1 with
          | false =>
            clear HP2
            go_wp2_with (go_at_call 13; first | (refine HP1.out.mono ?_; clear HP1; rintro e w' ⟨rfl, q1', rfl⟩) | (refine (HP3.out _).mono ?_; clear HP3; rintro e w' ⟨rfl, q2', rfl⟩))
            go_ret
            exact ⟨_, rfl, (by first | exact HW.out | exact HW.out.drew _ | exact (HW.out.drew _).drew _), fun h => by cases h⟩
          | true =>
            cases bj with
            | false =>
              have HN := hide (HM.out ⟨by simp, by simp⟩)
              clear HM
              clear HP2
              go_wp2_with (go_at_call 13; first | (refine HP1.out.mono ?_; clear HP1; rintro e w' ⟨rfl, q1', rfl⟩) | (refine (HP3.out _).mono ?_; clear HP3; rintro e w' ⟨rfl, q2', rfl⟩))
              go_roundw
              case rel => exact ⟨k + 1, by omega, by go_num, (by first | exact HW.out | exact HW.out.drew _ | exact (HW.out.drew _).drew _), HN⟩
              case measure => simp [intOf]; omega
            | true =>
              cases bp with
              | false =>
                have HN := hide (HM.out ⟨by simp, by simp⟩)
                clear HM
                clear HP2
                go_wp2_with (go_at_call 13; first | (refine HP1.out.mono ?_; clear HP1; rintro e w' ⟨rfl, q1', rfl⟩) | (refine (HP3.out _).mono ?_; clear HP3; rintro e w' ⟨rfl, q2', rfl⟩))
                go_roundw
                case rel => exact ⟨k + 1, by omega, by go_num, (by first | exact HW.out | exact HW.out.drew _ | exact (HW.out.drew _).drew _), HN⟩
                case measure => simp [intOf]; omega
              | true =>
                cases p2 with
                | false =>
                  clear HP2
                  go_wp2_with (go_at_call 13; first | (refine HP1.out.mono ?_; clear HP1; rintro e w' ⟨rfl, q1', rfl⟩) | (refine (HP3.out _).mono ?_; clear HP3; rintro e w' ⟨rfl, q2', rfl⟩))
                  go_ret
                  exact ⟨_, rfl, (by first | exact HW.out | exact HW.out.drew _ | exact (HW.out.drew _).drew _), fun h => by cases h⟩
                | true =>
                  have HN := hide (HM.out ⟨by simp, by simp⟩)
                  clear HM
                  clear HP2
                  go_wp2_with (go_at_call 13; first | (refine HP1.out.mono ?_; clear HP1; rintro e w' ⟨rfl, q1', rfl⟩) | (refine (HP3.out _).mono ?_; clear HP3; rintro e w' ⟨rfl, q2', rfl⟩))
                  go_roundw
                  case rel => exact ⟨k + 1, by omega, by go_num, (by first | exact HW.out | exact HW.out.drew _ | exact (HW.out.drew _).drew _), HN⟩
                  case measure => simp [intOf]; omega
    · obtain rfl : k = n := by omega
      go_wp2_with fail
      go_ret
      exact ⟨_, rfl, HW.out, fun _ => HS.out⟩

end Go.Proofs.Qxb6602363a
