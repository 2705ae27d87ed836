import Derived.Test.Qxb6602363aMvs
namespace Go.Proofs.Qxb6602363a
open Go.RowKit
set_option linter.unusedVariables false
set_option linter.unusedSimpArgs false

theorem mvB_no1 {A : Nat} {σ π : Nat → Nat} {i2 i3 : List Nat} {L1 L2 : Nat → Nat} {Z1 Z2 : Nat → Nat → Int} {nt : Nat} {zt : Nat → Int} (h : allPre L1 Z1 nt zt (onA σ A i2) = false) : mvB A σ π i2 i3 L1 L2 Z1 Z2 nt zt = false := by
  unfold mvB; rw [h]; rfl
theorem mvB_no2 {A : Nat} {σ π : Nat → Nat} {i2 i3 : List Nat} {L1 L2 : Nat → Nat} {Z1 Z2 : Nat → Nat → Int} {nt : Nat} {zt : Nat → Int} (h : allPre L2 Z2 nt zt (onA π A i3) = false) : mvB A σ π i2 i3 L1 L2 Z1 Z2 nt zt = false := by
  unfold mvB; rw [h, Bool.and_false]; rfl
theorem mvB_no3 {A : Nat} {σ π : Nat → Nat} {i2 i3 : List Nat} {L1 L2 : Nat → Nat} {Z1 Z2 : Nat → Nat → Int} {nt : Nat} {zt : Nat → Int} (h : (onA σ A i2).length = 0) : mvB A σ π i2 i3 L1 L2 Z1 Z2 nt zt = false := by
  unfold mvB; rw [List.length_eq_zero_iff.1 h]; simp
theorem mvB_yes {A : Nat} {σ π : Nat → Nat} {i2 i3 : List Nat} {L1 L2 : Nat → Nat} {Z1 Z2 : Nat → Nat → Int} {nt : Nat} {zt : Nat → Int} (h1 : allPre L1 Z1 nt zt (onA σ A i2) = true) (h2 : allPre L2 Z2 nt zt (onA π A i3) = true) (h : (onA σ A i2).length ≠ 0) : mvB A σ π i2 i3 L1 L2 Z1 Z2 nt zt = true := by
  unfold mvB; rw [h1, h2]
  cases e : onA σ A i2 with
  | nil => rw [e] at h; exact absurd rfl h
  | cons a l => rfl

set_option maxRecDepth 100000 in
set_option maxHeartbeats 16000000 in
theorem move_any (tb A T n : Nat) (kb : Nat → Nat) (cv rv : Nat → Value) (σ π : Nat → Nat) (i2 i3 : List Nat) (v2 v3 vt : Value) (L1 L2 : Nat → Nat) (Z1 Z2 : Nat → Nat → Int) (nt : Nat) (zt : Nat → Int) (w : World)
    (h : MvIn w tb A T n kb cv rv σ π i2 i3 v2 v3 vt L1 L2 Z1 Z2 nt zt) :
    Calls Try.prog 20 #[kp tb, kp A, kp T] w fun e w' => e = .returned (.bool (mvB A σ π i2 i3 L1 L2 Z1 Z2 nt zt)) ∧ Off w w' n kb ∧
      KeysAt w' n kb cv rv (if mvB A σ π i2 i3 L1 L2 Z1 Z2 nt zt then updL σ (onA σ A i2) T else σ) (if mvB A σ π i2 i3 L1 L2 Z1 Z2 nt zt then updL π (onA π A i3) T else π) := by
  obtain ⟨D, hD⟩ : ∃ D, mvB A σ π i2 i3 L1 L2 Z1 Z2 nt zt = D := ⟨_, rfl⟩
  rw [hD]
  obtain ⟨σ', hσ⟩ : ∃ s, (if D then updL σ (onA σ A i2) T else σ) = s := ⟨_, rfl⟩
  obtain ⟨π', hπ⟩ : ∃ s, (if D then updL π (onA π A i3) T else π) = s := ⟨_, rfl⟩
  rw [hσ, hπ]
  have HF : Hid (D = false → σ' = σ ∧ π' = π) := fun e => by subst e; exact ⟨hσ.symm, hπ.symm⟩
  have HT : Hid (D = true → σ' = updL σ (onA σ A i2) T ∧ π' = updL π (onA π A i3) T) := fun e => by subst e; exact ⟨hσ.symm, hπ.symm⟩
  clear hσ hπ
  have HD := hide hD
  have HI := hide h
  obtain ⟨N2, hN2⟩ : ∃ N, i2.length = N := ⟨_, rfl⟩
  obtain ⟨N3, hN3⟩ : ∃ N, i3.length = N := ⟨_, rfl⟩
  have HN2 := hide hN2
  have HN3 := hide hN3
  obtain ⟨a2, c2, e2, x2, y2, _, hr2⟩ := h.r2
  obtain ⟨a3, c3, e3, x3, y3, _, hr3⟩ := h.r3
  subst e2
  subst e3
  have t5 : w.cell? ⟨tb, 5, none⟩ = some (.slice a2 i2.length c2) := by rw [Lib.cell_of_heap h.tab]; rfl
  have t6 : w.cell? ⟨tb, 6, none⟩ = some (.slice a3 i3.length c3) := by rw [Lib.cell_of_heap h.tab]; rfl
  rw [hN2] at t5 x2 hr2
  rw [hN3] at t6 x3 hr3
  have T6 := hide t6
  have HR2 := hide hr2
  have HR3 := hide hr3
  have n2 := h.n2
  have n3 := h.n3
  rw [hN2] at n2
  rw [hN3] at n3
  unfold maxLen at y2 y3
  have H0 : Hid (RL w n kb cv rv σ π σ A i2 L1 Z1 nt zt [] (.slice none 0 0) 0 (.slice none 0 0) w) := by
    refine ⟨⟨Off.refl _ _ _, h.key, h.inj, fun j hj => lt_of_heap (h.key j hj), ?_, World.ownsRow_nil _ _ _ _, Or.inl rfl⟩, Below.refl _ _, rfl⟩
    exact World.ownsRow_nil _ _ _ _
  clear hD h hr2 hr3 t6 hN2 hN3
  unfold kp
  go_enter Try.func20, Try.ntmps20
  go_wp2_with fail
  go_loopw [7, 22] (fun v i wr => ∃ k : Nat, k ≤ N2 ∧ i = .int .i64 k ∧ Hid (RL w n kb cv rv σ π σ A i2 L1 Z1 nt zt [] (.slice none 0 0) k v wr)) (fun _ i _ => N2 - (intOf i).toNat)
  case atStart => exact ⟨0, by omega, rfl, H0⟩
  case round =>
    obtain ⟨k, hk, rfl, HK⟩ := hrel
    clear H0 t5
    by_cases hlt : k < N2
    · obtain ⟨b2, o2, rfl, g2⟩ := HR2.out.resolve_left (by omega)
      obtain ⟨J, va, vm, hJ, hva, q1, hkey, hsl, hbel, hcase⟩ := HK.out.step (by rw [HN2.out]; exact hlt) HI.out.l2 HI.out.n2 HI.out.ixA HI.out.ixs cv HI.out.sc (g2 k hlt)
      have k3 : wr.cell? ⟨kb J, 3, none⟩ = some (.pointer (some ⟨σ J, 0, none⟩)) := by rw [Lib.cell_of_heap hkey]; rfl
      have k2 : wr.cell? ⟨kb J, 2, none⟩ = some (.slice va (L1 J) vm) := by rw [Lib.cell_of_heap hkey, ← hva]; rfl
      have hto : wr.cell? ⟨T, 1, none⟩ = some vt := cell_b hbel (by rw [Lib.cell_of_heap HI.out.to]; rfl)
      have hse := hide (serves_any T vt (.slice va (L1 J) vm) nt (L1 J) zt (Z1 J) wr hto (HI.out.st.below hbel) hsl)
      clear hbel hsl hto g2 hkey HR2
      generalize kb J = K at *
      rcases hcase with ⟨hs, he, hp, hno⟩ | ⟨hs, he, hp, m, X, HO, hm, HZ, HN⟩ | ⟨he, HN⟩
      · rw [hp] at hse
        rw [hs] at he k3
        go_wp2_with (go_at_call 21; refine hse.out.mono ?_; rintro e w' ⟨rfl, q, rfl⟩)
        go_ret
        have hDf : D = false := HD.out.symm.trans (mvB_no1 hno.out)
        obtain ⟨rfl, rfl⟩ := HF.out hDf
        exact ⟨by rw [hDf]; rfl, (HK.out.1.same (below_drewN (Below.refl _ _) q)).off, (HK.out.1.same (below_drewN (Below.refl _ _) q)).key⟩
      · rw [hp] at hse
        rw [hs] at he k3
        go_wp2_with (first
          | (go_at_call 21; refine hse.out.mono ?_; rintro e w' ⟨rfl, q, rfl⟩)
          | (at_builtin; refine append_ptr wr _ rfl _ _ rfl w.heap.size u7 m X K wr.heap.size rfl rfl rfl HO.out HZ.out (by omega) ?hb3 ?hb4 ?_))
        case hb3 => exact (below_drewN (Below.refl _ _) q).alloc (Nat.le_refl _) _
        case hb4 => exact heap_alloc_new _ _
        intro g cap w2 ha
        have HN2 := hide (HN.out _ _ ha)
        clear ha HN HO HZ
        go_wp2_with fail
        go_roundw
        case rel => exact ⟨k + 1, by omega, by go_num, HN2⟩
        case measure => simp [intOf]; omega
      · go_wp2_with fail
        go_roundw
        case rel => exact ⟨k + 1, by omega, by go_num, HN⟩
        case measure => simp [intOf]; omega
    · obtain rfl : k = N2 := by omega
      have t6 : wr.cell? ⟨tb, 6, none⟩ = some (.slice a3 N3 c3) := cell_b HK.out.2.1 T6.out
      have HA1 : Hid (allPre L1 Z1 nt zt (onA σ A i2) = true) := by
        have := HK.out.2.2
        rw [← HN2.out, List.take_length] at this
        exact this
      have H0 : Hid (RL w n kb cv rv σ π π A i3 L2 Z2 nt zt (onA σ A i2) u7 0 (.slice none 0 0) wr) := by
        have h1 := HK.out.1
        rw [← HN2.out, List.take_length] at h1
        exact ⟨h1.swap, HK.out.2.1, rfl⟩
      clear HK HR2
      go_wp2_with fail
      go_loopw [8, 49] (fun v i wr => ∃ k : Nat, k ≤ N3 ∧ i = .int .i64 k ∧ Hid (RL w n kb cv rv σ π π A i3 L2 Z2 nt zt (onA σ A i2) u7 k v wr)) (fun _ i _ => N3 - (intOf i).toNat)
      case atStart => exact ⟨0, by omega, rfl, H0⟩
      case round =>
        obtain ⟨k, hk, rfl, HK⟩ := hrel
        clear H0 t6
        by_cases hlt : k < N3
        · obtain ⟨b2, o2, rfl, g2⟩ := HR3.out.resolve_left (by omega)
          obtain ⟨J, va, vm, hJ, hva, q1, hkey, hsl, hbel, hcase⟩ := HK.out.step (by rw [HN3.out]; exact hlt) HI.out.l3 HI.out.n3 HI.out.ixA HI.out.ixp rv HI.out.sr (g2 k hlt)
          have k3 : wr.cell? ⟨kb J, 8, none⟩ = some (.pointer (some ⟨π J, 0, none⟩)) := by rw [Lib.cell_of_heap hkey]; rfl
          have k2 : wr.cell? ⟨kb J, 7, none⟩ = some (.slice va (L2 J) vm) := by rw [Lib.cell_of_heap hkey, ← hva]; rfl
          have hto : wr.cell? ⟨T, 1, none⟩ = some vt := cell_b hbel (by rw [Lib.cell_of_heap HI.out.to]; rfl)
          have hse := hide (serves_any T vt (.slice va (L2 J) vm) nt (L2 J) zt (Z2 J) wr hto (HI.out.st.below hbel) hsl)
          clear hbel hsl hto g2 hkey HR3
          generalize kb J = K at *
          rcases hcase with ⟨hs, he, hp, hno⟩ | ⟨hs, he, hp, m, X, HO, hm, HZ, HN⟩ | ⟨he, HN⟩
          · rw [hp] at hse
            rw [hs] at he k3
            go_wp2_with (go_at_call 21; refine hse.out.mono ?_; rintro e w' ⟨rfl, q, rfl⟩)
            go_ret
            have hDf : D = false := HD.out.symm.trans (mvB_no2 hno.out)
            obtain ⟨rfl, rfl⟩ := HF.out hDf
            exact ⟨by rw [hDf]; rfl, (HK.out.1.same (below_drewN (Below.refl _ _) q)).off, (HK.out.1.same (below_drewN (Below.refl _ _) q)).key⟩
          · rw [hp] at hse
            rw [hs] at he k3
            go_wp2_with (first
              | (go_at_call 21; refine hse.out.mono ?_; rintro e w' ⟨rfl, q, rfl⟩)
              | (at_builtin; refine append_ptr wr _ rfl _ _ rfl w.heap.size u8 m X K wr.heap.size rfl rfl rfl HO.out HZ.out (by omega) ?hb3 ?hb4 ?_))
            case hb3 => exact (below_drewN (Below.refl _ _) q).alloc (Nat.le_refl _) _
            case hb4 => exact heap_alloc_new _ _
            intro g cap w2 ha
            have HN2 := hide (HN.out _ _ ha)
            clear ha HN HO HZ
            go_wp2_with fail
            go_roundw
            case rel => exact ⟨k + 1, by omega, by go_num, HN2⟩
            case measure => simp [intOf]; omega
          · go_wp2_with fail
            go_roundw
            case rel => exact ⟨k + 1, by omega, by go_num, HN⟩
            case measure => simp [intOf]; omega
        · obtain rfl : k = N3 := by omega
          have HA2 : Hid (allPre L2 Z2 nt zt (onA π A i3) = true) := by
            have := HK.out.2.2
            rw [← HN3.out, List.take_length] at this
            exact this
          have hM : MV w wr n kb cv rv σ π (onA σ A i2) (onA π A i3) u7 u8 := by
            have h1 := HK.out.1
            rw [← HN3.out, List.take_length] at h1
            exact h1.swap
          have hlc : (onA σ A i2).length ≤ 65536 := by have := onA_len σ A i2 i2.length; rw [List.take_length] at this; exact Nat.le_trans this HI.out.n2
          have hlp : (onA π A i3).length ≤ 65536 := by have := onA_len π A i3 i3.length; rw [List.take_length] at this; exact Nat.le_trans this HI.out.n3
          have HLC := hide (onA_lt (σ := σ) (A := A) HI.out.l2)
          have HLP := hide (onA_lt (σ := π) (A := A) HI.out.l3)
          have HDY := hide (fun h => HD.out.symm.trans (mvB_yes (i3 := i3) (π := π) HA1.out HA2.out h))
          have HDN := hide (fun h => HD.out.symm.trans (mvB_no3 (A := A) (σ := σ) (i2 := i2) h))
          clear HK HR3 HA1 HA2 T6 HD HI
          generalize onA σ A i2 = c at *
          generalize onA π A i3 = p at *
          obtain ⟨N7, hN7⟩ : ∃ N, c.length = N := ⟨_, rfl⟩
          obtain ⟨N8, hN8⟩ : ∃ N, p.length = N := ⟨_, rfl⟩
          obtain ⟨a7, c7, e7, x7, y7, _, z7⟩ := hM.p1.sl
          obtain ⟨a8, c8, e8, x8, y8, _, z8⟩ := hM.p2.sl
          rw [hN7] at e7 x7 hlc z7 HDY HDN
          rw [hN8] at e8 x8 hlp z8
          have HC7 := hide hN7
          have HC8 := hide hN8
          have Z7 : Hid (N7 = 0 ∨ ∃ b off, a7 = some ⟨b, off, none⟩) := by
            rcases z7 with h | ⟨b, o, h, _⟩
            · exact Or.inl h
            · exact Or.inr ⟨b, o, h⟩
          have Z8 : Hid (N8 = 0 ∨ ∃ b off, a8 = some ⟨b, off, none⟩) := by
            rcases z8 with h | ⟨b, o, h, _⟩
            · exact Or.inl h
            · exact Or.inr ⟨b, o, h⟩
          subst e7
          subst e8
          have H0 : Hid (RC w n kb cv rv σ π T c p (.slice a7 N7 c7) (.slice a8 N8 c8) 0 wr) := by
            show RC _ _ _ _ _ _ _ _ _ _ _ _ _ _
            unfold RC
            rw [List.take_zero, updL_nil]; exact hM
          clear hM hN7 hN8 z7 z8
          unfold maxLen at y7 y8
          by_cases h0 : N7 = 0
          · subst h0
            go_wp2_with fail
            go_ret
            have hDf := HDN.out trivial
            obtain ⟨rfl, rfl⟩ := HF.out hDf
            have hM := H0.out
            unfold RC at hM
            rw [List.take_zero, updL_nil] at hM
            exact ⟨by rw [hDf]; rfl, hM.off, hM.key⟩
          · have h0' : ((N7 : Int) == 0) = false := by simp; omega
            go_wp2_with fail
            go_loopw [76] (fun i wr => ∃ k : Nat, k ≤ N7 ∧ i = .int .i64 k ∧ Hid (RC w n kb cv rv σ π T c p (.slice a7 N7 c7) (.slice a8 N8 c8) k wr)) (fun i _ => N7 - (intOf i).toNat)
            case atStart => exact ⟨0, by omega, rfl, H0⟩
            case round =>
              obtain ⟨k, hk, rfl, HK⟩ := hrel
              clear H0
              by_cases hlt : k < N7
              · obtain ⟨b2, o2, rfl⟩ := Z7.out.resolve_left (by omega)
                obtain ⟨K, q1, ⟨y, q2⟩, q3, HN⟩ := HK.out.step (by rw [HC7.out]; exact hlt) HLC.out
                go_wp2_with fail
                go_roundw
                case rel => exact ⟨k + 1, by omega, by go_num, HN⟩
                case measure => simp [intOf]; omega
              · obtain rfl : k = N7 := by omega
                have H1 : Hid (RP w n kb cv rv (updL σ c T) π T c p (.slice a7 k c7) (.slice a8 N8 c8) 0 wr) := by
                  have hM := HK.out
                  unfold RC at hM
                  rw [← HC7.out, List.take_length, HC7.out] at hM
                  show RP _ _ _ _ _ _ _ _ _ _ _ _ _ _
                  unfold RP
                  rw [List.take_zero, updL_nil]; exact hM
                clear HK
                go_wp2_with fail
                go_loopw [87] (fun i wr => ∃ j : Nat, j ≤ N8 ∧ i = .int .i64 j ∧ Hid (RP w n kb cv rv (updL σ c T) π T c p (.slice a7 k c7) (.slice a8 N8 c8) j wr)) (fun i _ => N8 - (intOf i).toNat)
                case atStart => exact ⟨0, by omega, rfl, H1⟩
                case round =>
                  obtain ⟨j, hj, rfl, HK⟩ := hrel
                  clear H1
                  by_cases hlt : j < N8
                  · obtain ⟨b2, o2, rfl⟩ := Z8.out.resolve_left (by omega)
                    obtain ⟨K, q1, ⟨y, q2⟩, q3, HN⟩ := HK.out.step (by rw [HC8.out]; exact hlt) HLP.out
                    go_wp2_with fail
                    go_roundw
                    case rel => exact ⟨j + 1, by omega, by go_num, HN⟩
                    case measure => simp [intOf]; omega
                  · obtain rfl : j = N8 := by omega
                    go_wp2_with fail
                    go_ret
                    have hDt := HDY.out h0
                    obtain ⟨rfl, rfl⟩ := HT.out hDt
                    have hM := HK.out
                    unfold RP at hM
                    rw [← HC8.out, List.take_length] at hM
                    exact ⟨by rw [hDt]; rfl, hM.off, hM.key⟩

end Go.Proofs.Qxb6602363a
