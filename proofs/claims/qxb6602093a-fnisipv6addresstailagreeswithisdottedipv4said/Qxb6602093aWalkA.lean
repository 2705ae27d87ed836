import Derived.Test.Qxb6602093aProg
import Derived.Test.Qxb6602093aSteps
import Derived.WalkKit
import Derived.WalkSpells
namespace Go.Proofs.Qxb6602093a
open Go.RowKit

theorem isDigit_yes (c : Int) (w : World) (h0 : 48 ≤ c) (h1 : c ≤ 57) :
    Calls Try.prog 29 #[.int .u8 c] w fun e w' => e = .returned (.bool true) ∧ w' = w := by
  go_enter Try.func29, Try.ntmps29
  go_wp2
  go_ret
  exact ⟨rfl, rfl⟩

theorem isDigit_no (c : Int) (w : World) (h : c < 48 ∨ 57 < c) :
    Calls Try.prog 29 #[.int .u8 c] w fun e w' => e = .returned (.bool false) ∧ w' = w := by
  by_cases a : 48 ≤ c
  · have b : ¬ c ≤ 57 := by omega
    clear h
    go_enter Try.func29, Try.ntmps29
    go_wp2
    go_ret
    exact ⟨rfl, rfl⟩
  · clear h
    go_enter Try.func29, Try.ntmps29
    go_wp2
    go_ret
    exact ⟨rfl, rfl⟩

theorem ret_bool {a b : Bool} (h : a = b) : Ending.returned (.bool a) = .returned (.bool b) := by rw [h]

set_option maxHeartbeats 4000000 in
theorem isDotted_any (s : ByteArray) (w : World) (hs : s.size ≤ maxLen) :
    Calls Try.prog 25 #[.string s] w fun e w' => e = .returned (.bool (Plain.dotted s.data.toList)) ∧ w' = w := by
  unfold maxLen at hs
  obtain ⟨D, hD⟩ : ∃ D, Plain.dotted s.data.toList = D := ⟨_, rfl⟩
  rw [hD]
  have HD : Hid (Plain.outer (s.data.toList.length + 1) 0 (s.data.toList.drop 0) = D) := hD
  clear hD
  go_enter Try.func25, Try.ntmps25
  go_wp2
  go_loop [3, 4] (fun m i => ∃ (M k : Nat), k ≤ s.size ∧ M ≤ k ∧ m = .int .i64 M ∧ i = .int .i64 k ∧ ∃ f, s.size - k < f ∧ Hid (Plain.outer f M (s.data.toList.drop k) = D)) (fun _ i => s.size - (intOf i).toNat)
  case atStart => exact ⟨0, 0, by omega, by omega, rfl, rfl, s.data.toList.length + 1, by simp, HD⟩
  case round =>
    obtain ⟨M, k, hk, hMk, rfl, rfl, f, hf, HO⟩ := hrel
    clear HD
    obtain ⟨f, rfl⟩ : ∃ g, f = g + 1 := ⟨f - 1, by omega⟩
    by_cases hlt : k < s.size
    · by_cases hm : 0 < M
      · by_cases hc : s[k].toNat = 46
        · have hc1 : 46 ≤ s[k].toNat := by omega
          have hc2 : s[k].toNat ≤ 46 := by omega
          clear hc
          have hcb : ((s[k].toNat : Int) != 46) = false := by rw [bne_eq_false_iff_eq]; omega
          have HN : Hid (Plain.cont f M (Plain.number (s.data.toList.drop (k + 1))) = D) := (Plain.outer_dot s f M k hlt hm hc1 hc2).symm.trans HO.out
          clear HO
          by_cases hp : k + 1 < s.size
          · have hne : (((k : Int) + 1) == (s.size : Int)) = false := by rw [beq_eq_false_iff_ne]; omega
            by_cases hdg : 48 ≤ s[k + 1].toNat ∧ s[k + 1].toNat ≤ 57
            · obtain ⟨hd1, hd2⟩ := hdg
              have HI : Hid (Plain.inner (s[k + 1].toNat == 48) 0 0 (s.data.toList.drop (k + 1)) = Plain.number (s.data.toList.drop (k + 1))) := (Plain.number_in s (k + 1) hp hd1 hd2).symm
              go_wp2_with (go_at_call 29; refine (isDigit_yes _ _ (by omega) (by omega)).mono ?_; rintro e w' ⟨rfl, rfl⟩)
              go_loop [4, 6] (fun i n => ∃ (j N : Nat), k + 1 ≤ j ∧ j ≤ s.size ∧ N ≤ 255 ∧ i = .int .i64 j ∧ n = .int .i64 N ∧ Hid (Plain.inner (s[k + 1].toNat == 48) (j - (k + 1)) N (s.data.toList.drop j) = Plain.number (s.data.toList.drop (k + 1)))) (fun i _ => s.size - (intOf i).toNat)
              case atStart => exact ⟨k + 1, 0, by omega, by omega, by omega, by go_num, by go_num, by simpa using HI⟩
              case round =>
                obtain ⟨j, N, hpj, hj, hN, rfl, rfl, HJ⟩ := hrel
                clear HI
                by_cases hjl : j < s.size
                · by_cases hjd : 48 ≤ s[j].toNat ∧ s[j].toNat ≤ 57
                  · obtain ⟨hj1, hj2⟩ := hjd
                    by_cases hz : k + 1 < j ∧ s[k + 1].toNat = 48
                    · obtain ⟨hz1, hz2⟩ := hz
                      have HF : Hid (Plain.cont f M none = D) := by
                        have := HJ.out
                        rw [Plain.inner_zero s _ _ N j hjl hj1 hj2 (by omega) (by simp [hz2])] at this
                        rw [← this] at HN; exact HN
                      have hz3 : 48 ≤ s[k + 1].toNat := by omega
                      have hz4 : s[k + 1].toNat ≤ 48 := by omega
                      clear hz2
                      go_wp2_with (go_at_call 29; refine (isDigit_yes _ _ (by omega) (by omega)).mono ?_; rintro e w' ⟨rfl, rfl⟩)
                      go_ret
                      exact ⟨ret_bool HF.out, rfl⟩
                    · have hzz : j = k + 1 ∨ s[k + 1].toNat ≠ 48 := by omega
                      clear hz
                      by_cases hv : N * 10 + (s[j].toNat - 48) ≤ 255
                      · have HG : Hid (Plain.inner (s[k + 1].toNat == 48) (j + 1 - (k + 1)) (N * 10 + (s[j].toNat - 48)) (s.data.toList.drop (j + 1)) = Plain.number (s.data.toList.drop (k + 1))) := by
                          have := HJ.out
                          rw [Plain.inner_go s _ _ N j hjl hj1 hj2 (hzz.elim (fun h => Or.inl (by omega)) (fun h => Or.inr (by simpa using h))) hv] at this
                          rw [show j + 1 - (k + 1) = j - (k + 1) + 1 from by omega]; exact this
                        clear HJ
                        by_cases hpe : k + 1 < j
                        · have hz4 : s[k + 1].toNat ≠ 48 := by omega
                          go_wp2_with (go_at_call 29; refine (isDigit_yes _ _ (by omega) (by omega)).mono ?_; rintro e w' ⟨rfl, rfl⟩)
                          go_round
                          case rel => exact ⟨j + 1, N * 10 + (s[j].toNat - 48), by omega, by omega, by omega, by go_num, by go_num, HG⟩
                          case measure => simp [intOf]; omega
                        · go_wp2_with (go_at_call 29; refine (isDigit_yes _ _ (by omega) (by omega)).mono ?_; rintro e w' ⟨rfl, rfl⟩)
                          go_round
                          case rel => exact ⟨j + 1, N * 10 + (s[j].toNat - 48), by omega, by omega, by omega, by go_num, by go_num, HG⟩
                          case measure => simp [intOf]; omega
                      · have HF : Hid (Plain.cont f M none = D) := by
                          have := HJ.out
                          rw [Plain.inner_big s _ _ N j hjl hj1 hj2 (by omega)] at this
                          rw [← this] at HN; exact HN
                        by_cases hpe : k + 1 < j
                        · have hz4 : s[k + 1].toNat ≠ 48 := by omega
                          go_wp2_with (go_at_call 29; refine (isDigit_yes _ _ (by omega) (by omega)).mono ?_; rintro e w' ⟨rfl, rfl⟩)
                          go_ret
                          exact ⟨ret_bool HF.out, rfl⟩
                        · go_wp2_with (go_at_call 29; refine (isDigit_yes _ _ (by omega) (by omega)).mono ?_; rintro e w' ⟨rfl, rfl⟩)
                          go_ret
                          exact ⟨ret_bool HF.out, rfl⟩
                  · have HF : Hid (Plain.outer f (M + 1) (s.data.toList.drop j) = D) := by
                      have := HJ.out
                      rw [Plain.inner_not s _ _ N j hjl (by omega)] at this
                      rw [← this] at HN; exact HN
                    have hkj : k < j := by
                      by_cases e : j = k + 1
                      · subst e; omega
                      · omega
                    go_wp2_with (go_at_call 29; refine (isDigit_no _ _ (by omega)).mono ?_; rintro e w' ⟨rfl, rfl⟩)
                    go_round
                    case rel => exact ⟨M + 1, j, by omega, by omega, by go_num, by go_num, f, by omega, HF⟩
                    case measure => simp [intOf]; omega
                · have HF : Hid (Plain.outer f (M + 1) (s.data.toList.drop j) = D) := by
                    have := HJ.out
                    rw [Plain.inner_end s _ _ N j (by omega)] at this
                    rw [← this] at HN; exact HN
                  go_wp2_with fail
                  go_round
                  case rel => exact ⟨M + 1, j, by omega, by omega, by go_num, by go_num, f, by omega, HF⟩
                  case measure => simp [intOf]; omega
            · have HF : Hid (Plain.cont f M none = D) := by
                rw [Plain.number_not s (k + 1) hp (by omega)] at HN; exact HN
              go_wp2_with (go_at_call 29; refine (isDigit_no _ _ (by omega)).mono ?_; rintro e w' ⟨rfl, rfl⟩)
              go_ret
              exact ⟨ret_bool HF.out, rfl⟩
          · have HF : Hid (Plain.cont f M none = D) := by
              rw [Plain.number_end s (k + 1) (by omega)] at HN; exact HN
            go_wp2_with fail
            go_ret
            exact ⟨ret_bool HF.out, rfl⟩
        · have HF : Hid (false = D) := (Plain.outer_nodot s f M k hlt hm hc).symm.trans HO.out
          go_wp2_with fail
          go_ret
          exact ⟨ret_bool HF.out, rfl⟩
      · have HN : Hid (Plain.cont f M (Plain.number (s.data.toList.drop k)) = D) := (Plain.outer_first s f M k hlt hm).symm.trans HO.out
        clear HO
        have hp : k < s.size := hlt
        have hne : (((k : Int)) == (s.size : Int)) = false := by rw [beq_eq_false_iff_ne]; omega
        by_cases hdg : 48 ≤ s[k].toNat ∧ s[k].toNat ≤ 57
        · obtain ⟨hd1, hd2⟩ := hdg
          have HI : Hid (Plain.inner (s[k].toNat == 48) 0 0 (s.data.toList.drop (k)) = Plain.number (s.data.toList.drop (k))) := (Plain.number_in s (k) hp hd1 hd2).symm
          go_wp2_with (go_at_call 29; refine (isDigit_yes _ _ (by omega) (by omega)).mono ?_; rintro e w' ⟨rfl, rfl⟩)
          go_loop [4, 6] (fun i n => ∃ (j N : Nat), k ≤ j ∧ j ≤ s.size ∧ N ≤ 255 ∧ i = .int .i64 j ∧ n = .int .i64 N ∧ Hid (Plain.inner (s[k].toNat == 48) (j - (k)) N (s.data.toList.drop j) = Plain.number (s.data.toList.drop (k)))) (fun i _ => s.size - (intOf i).toNat)
          case atStart => exact ⟨k, 0, by omega, by omega, by omega, by go_num, by go_num, by simpa using HI⟩
          case round =>
            obtain ⟨j, N, hpj, hj, hN, rfl, rfl, HJ⟩ := hrel
            clear HI
            by_cases hjl : j < s.size
            · by_cases hjd : 48 ≤ s[j].toNat ∧ s[j].toNat ≤ 57
              · obtain ⟨hj1, hj2⟩ := hjd
                by_cases hz : k < j ∧ s[k].toNat = 48
                · obtain ⟨hz1, hz2⟩ := hz
                  have HF : Hid (Plain.cont f M none = D) := by
                    have := HJ.out
                    rw [Plain.inner_zero s _ _ N j hjl hj1 hj2 (by omega) (by simp [hz2])] at this
                    rw [← this] at HN; exact HN
                  have hz3 : 48 ≤ s[k].toNat := by omega
                  have hz4 : s[k].toNat ≤ 48 := by omega
                  clear hz2
                  go_wp2_with (go_at_call 29; refine (isDigit_yes _ _ (by omega) (by omega)).mono ?_; rintro e w' ⟨rfl, rfl⟩)
                  go_ret
                  exact ⟨ret_bool HF.out, rfl⟩
                · have hzz : j = k ∨ s[k].toNat ≠ 48 := by omega
                  clear hz
                  by_cases hv : N * 10 + (s[j].toNat - 48) ≤ 255
                  · have HG : Hid (Plain.inner (s[k].toNat == 48) (j + 1 - (k)) (N * 10 + (s[j].toNat - 48)) (s.data.toList.drop (j + 1)) = Plain.number (s.data.toList.drop (k))) := by
                      have := HJ.out
                      rw [Plain.inner_go s _ _ N j hjl hj1 hj2 (hzz.elim (fun h => Or.inl (by omega)) (fun h => Or.inr (by simpa using h))) hv] at this
                      rw [show j + 1 - (k) = j - (k) + 1 from by omega]; exact this
                    clear HJ
                    by_cases hpe : k < j
                    · have hz4 : s[k].toNat ≠ 48 := by omega
                      go_wp2_with (go_at_call 29; refine (isDigit_yes _ _ (by omega) (by omega)).mono ?_; rintro e w' ⟨rfl, rfl⟩)
                      go_round
                      case rel => exact ⟨j + 1, N * 10 + (s[j].toNat - 48), by omega, by omega, by omega, by go_num, by go_num, HG⟩
                      case measure => simp [intOf]; omega
                    · go_wp2_with (go_at_call 29; refine (isDigit_yes _ _ (by omega) (by omega)).mono ?_; rintro e w' ⟨rfl, rfl⟩)
                      go_round
                      case rel => exact ⟨j + 1, N * 10 + (s[j].toNat - 48), by omega, by omega, by omega, by go_num, by go_num, HG⟩
                      case measure => simp [intOf]; omega
                  · have HF : Hid (Plain.cont f M none = D) := by
                      have := HJ.out
                      rw [Plain.inner_big s _ _ N j hjl hj1 hj2 (by omega)] at this
                      rw [← this] at HN; exact HN
                    by_cases hpe : k < j
                    · have hz4 : s[k].toNat ≠ 48 := by omega
                      go_wp2_with (go_at_call 29; refine (isDigit_yes _ _ (by omega) (by omega)).mono ?_; rintro e w' ⟨rfl, rfl⟩)
                      go_ret
                      exact ⟨ret_bool HF.out, rfl⟩
                    · go_wp2_with (go_at_call 29; refine (isDigit_yes _ _ (by omega) (by omega)).mono ?_; rintro e w' ⟨rfl, rfl⟩)
                      go_ret
                      exact ⟨ret_bool HF.out, rfl⟩
              · have HF : Hid (Plain.outer f (M + 1) (s.data.toList.drop j) = D) := by
                  have := HJ.out
                  rw [Plain.inner_not s _ _ N j hjl (by omega)] at this
                  rw [← this] at HN; exact HN
                have hkj : k < j := by
                  by_cases e : j = k
                  · subst e; omega
                  · omega
                go_wp2_with (go_at_call 29; refine (isDigit_no _ _ (by omega)).mono ?_; rintro e w' ⟨rfl, rfl⟩)
                go_round
                case rel => exact ⟨M + 1, j, by omega, by omega, by go_num, by go_num, f, by omega, HF⟩
                case measure => simp [intOf]; omega
            · have HF : Hid (Plain.outer f (M + 1) (s.data.toList.drop j) = D) := by
                have := HJ.out
                rw [Plain.inner_end s _ _ N j (by omega)] at this
                rw [← this] at HN; exact HN
              go_wp2_with fail
              go_round
              case rel => exact ⟨M + 1, j, by omega, by omega, by go_num, by go_num, f, by omega, HF⟩
              case measure => simp [intOf]; omega
        · have HF : Hid (Plain.cont f M none = D) := by
            rw [Plain.number_not s (k) hp (by omega)] at HN; exact HN
          go_wp2_with (go_at_call 29; refine (isDigit_no _ _ (by omega)).mono ?_; rintro e w' ⟨rfl, rfl⟩)
          go_ret
          exact ⟨ret_bool HF.out, rfl⟩
    · have HF : Hid (((M : Int) == 4) = D) := (Plain.outer_end s f M k (by omega)).symm.trans HO.out
      go_wp2_with fail
      go_ret
      exact ⟨ret_bool HF.out, rfl⟩

end Go.Proofs.Qxb6602093a
