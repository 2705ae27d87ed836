import Derived.Test.Qxb6602093aWalkA
import Derived.Test.Qxb6602093aSteps3
namespace Go.Proofs.Qxb6602093a
open Go.RowKit
set_option linter.unusedVariables false

theorem hex_yes (c : Int) (w : World) (h : (48 ≤ c ∧ c ≤ 57) ∨ (97 ≤ c ∧ c ≤ 102) ∨ (65 ≤ c ∧ c ≤ 70)) :
    Calls Try.prog 27 #[.int .u8 c] w fun e w' => e = .returned (.bool true) ∧ w' = w := by
  rcases h with ⟨h1, h2⟩ | ⟨h1, h2⟩ | ⟨h1, h2⟩
  · go_enter Try.func27, Try.ntmps27
    go_wp2_with (go_at_call 29; refine (isDigit_yes _ _ (by omega) (by omega)).mono ?_; rintro e w' ⟨rfl, rfl⟩)
    go_ret
    exact ⟨rfl, rfl⟩
  · go_enter Try.func27, Try.ntmps27
    go_wp2_with (go_at_call 29; refine (isDigit_no _ _ (by omega)).mono ?_; rintro e w' ⟨rfl, rfl⟩)
    go_ret
    exact ⟨rfl, rfl⟩
  · go_enter Try.func27, Try.ntmps27
    go_wp2_with (go_at_call 29; refine (isDigit_no _ _ (by omega)).mono ?_; rintro e w' ⟨rfl, rfl⟩)
    go_ret
    exact ⟨rfl, rfl⟩

theorem hex_no (c : Int) (w : World) (h : ¬ ((48 ≤ c ∧ c ≤ 57) ∨ (97 ≤ c ∧ c ≤ 102) ∨ (65 ≤ c ∧ c ≤ 70))) :
    Calls Try.prog 27 #[.int .u8 c] w fun e w' => e = .returned (.bool false) ∧ w' = w := by
  have h0 : c < 48 ∨ 57 < c := by omega
  by_cases h1 : 97 ≤ c
  · have h2 : 102 < c := by omega
    clear h h0
    go_enter Try.func27, Try.ntmps27
    go_wp2_with (go_at_call 29; refine (isDigit_no _ _ (by omega)).mono ?_; rintro e w' ⟨rfl, rfl⟩)
    go_ret
    exact ⟨ret_bool (by simp; omega), rfl⟩
  · by_cases h2 : 65 ≤ c
    · have h3 : 70 < c := by omega
      clear h h0
      go_enter Try.func27, Try.ntmps27
      go_wp2_with (go_at_call 29; refine (isDigit_no _ _ (by omega)).mono ?_; rintro e w' ⟨rfl, rfl⟩)
      go_ret
      exact ⟨ret_bool (by simp; omega), rfl⟩
    · have H0 : Hid (c < 48 ∨ 57 < c) := h0
      clear h h0
      go_enter Try.func27, Try.ntmps27
      go_wp2_with (go_at_call 29; refine (isDigit_no _ _ H0.out).mono ?_; rintro e w' ⟨rfl, rfl⟩)
      go_ret
      exact ⟨rfl, rfl⟩

theorem hasDot_any (s : ByteArray) (w : World) (hs : s.size ≤ 1048576) :
    Calls Try.prog 17 #[.string s] w fun e w' => e = .returned (.bool (Plain.hasDot s.data.toList)) ∧ w' = w := by
  obtain ⟨D, hD⟩ : ∃ D, Plain.hasDot s.data.toList = D := ⟨_, rfl⟩
  rw [hD]
  have HD : Hid (Plain.hasDot s.data.toList = D) := hD
  clear hD
  go_enter Try.func17, Try.ntmps17
  go_wp2
  go_loop [3] (fun i => ∃ k : Nat, k ≤ s.size ∧ i = .int .i64 k ∧ Hid (∀ i (hi : i < s.size), i < k → s[i].toNat ≠ 46)) (fun i => s.size - (intOf i).toNat)
  case atStart => exact ⟨0, by omega, rfl, fun i _ hi => absurd hi (by omega)⟩
  case round =>
    obtain ⟨k, hk, rfl, HK⟩ := hrel
    by_cases hlt : k < s.size
    · by_cases hc : s[k].toNat = 46
      · have HF : Hid (true = D) := (Plain.hasDot_at s k hlt hc).symm.trans HD.out
        have hc1 : 46 ≤ s[k].toNat := by omega
        have hc2 : s[k].toNat ≤ 46 := by omega
        clear hc
        go_wp2
        go_ret
        exact ⟨ret_bool HF.out, rfl⟩
      · have HN : Hid (∀ i (hi : i < s.size), i < k + 1 → s[i].toNat ≠ 46) := by
          intro i hi hik
          by_cases e : i = k
          · subst e; exact hc
          · exact HK.out i hi (by omega)
        go_wp2
        go_round
        case rel => exact ⟨k + 1, by omega, by go_num, HN⟩
        case measure => simp [intOf]; omega
    · have HF : Hid (false = D) := (Plain.hasDot_take s k HK.out (by omega)).symm.trans HD.out
      go_wp2
      go_ret
      exact ⟨ret_bool HF.out, rfl⟩

theorem hasPrefix_no (s p : ByteArray) (w : World) (hs : s.size ≤ 1048600) (hp : p.size ≤ s.size) (h : ((s.extract 0 p.size).toList == p.toList) = false) :
    Calls Try.prog 26 #[.string s, .string p] w fun e w' => e = .returned (.bool false) ∧ w' = w := by
  go_enter Try.func26, Try.ntmps26
  go_wp2
  go_ret
  exact ⟨rfl, rfl⟩

theorem ext_ne (s p : ByteArray) (h1 : 1 ≤ s.size) (hp : 1 ≤ p.size) (hc : p[0].toNat = 58) (h0 : s[0].toNat ≠ 58) : ((s.extract 0 p.size).toList == p.toList) = false := by
  rw [beq_eq_false_iff_ne, ByteArray.toList_eq, ByteArray.toList_eq]
  intro e
  rw [ByteArray.data_extract, Array.toList_extract] at e
  have e1 := congrArg (fun l => l[0]?) e
  simp [List.extract] at e1
  have l1 : 0 < s.data.size := h1
  have l2 : 0 < p.data.size := hp
  have l3 : 0 < p.size := hp
  rw [List.getElem?_take_of_lt (by omega)] at e1
  simp only [Array.getElem?_toList] at e1
  have e2 : s[0] = p[0] := by
    have q1 : s.data[0]? = some s[0] := Array.getElem?_eq_getElem l1
    have q2 : p.data[0]? = some p[0] := Array.getElem?_eq_getElem l2
    rw [q1, q2] at e1; exact Option.some.inj e1
  rw [e2] at h0
  exact h0 hc

theorem hasPrefix_2 (s : ByteArray) (w : World) (hs : s.size ≤ 1048600) (h2 : 2 ≤ s.size) (h0 : s[0].toNat ≠ 58) :
    Calls Try.prog 26 #[.string s, .string ⟨#[58, 58]⟩] w fun e w' => e = .returned (.bool false) ∧ w' = w :=
  hasPrefix_no s ⟨#[58, 58]⟩ w hs h2 (ext_ne s ⟨#[58, 58]⟩ (by omega) (Nat.le_of_ble_eq_true rfl) rfl h0)

theorem hasPrefix_1 (s : ByteArray) (w : World) (hs : s.size ≤ 1048600) (h2 : 2 ≤ s.size) (h0 : s[0].toNat ≠ 58) :
    Calls Try.prog 26 #[.string s, .string ⟨#[58]⟩] w fun e w' => e = .returned (.bool false) ∧ w' = w :=
  hasPrefix_no s ⟨#[58]⟩ w hs (Nat.le_trans (by decide) h2) (ext_ne s ⟨#[58]⟩ (by omega) (Nat.le_of_ble_eq_true rfl) rfl h0)

set_option maxRecDepth 100000 in
set_option maxHeartbeats 4000000 in
theorem isIPv6_any (s : ByteArray) (w : World) (hs : s.size ≤ 1048600) (h2 : 2 ≤ s.size) (h0 : s[0].toNat ≠ 58) :
    Calls Try.prog 23 #[.string s] w fun e w' => e = .returned (.bool (Plain.v6 (s.data.toList.length + 1) 0 false s.data.toList)) ∧ w' = w := by
  obtain ⟨D, hD⟩ : ∃ D, Plain.v6 (s.data.toList.length + 1) 0 false (s.data.toList.drop 0) = D := ⟨_, rfl⟩
  have hD' : Plain.v6 (s.data.toList.length + 1) 0 false s.data.toList = D := hD
  rw [hD']
  have HD : Hid (Plain.v6 (s.data.toList.length + 1) 0 false (s.data.toList.drop 0) = D) := hD
  clear hD hD'
  go_enter Try.func23, Try.ntmps23
  go_wp2_with fail
  refine (hasPrefix_2 s _ hs h2 h0).mono ?_
  rintro e w' ⟨rfl, rfl⟩
  go_wp2_with fail
  refine (hasPrefix_1 s _ hs h2 h0).mono ?_
  rintro e w' ⟨rfl, rfl⟩
  go_wp2_with fail
  clear h0
  go_loop [3, 4, 5] (fun p c i => ∃ (P k : Nat) (z : Bool), k ≤ s.size ∧ P ≤ 8 ∧ p = .int .i64 P ∧ c = .bool z ∧ i = .int .i64 k ∧ ∃ f, s.size - k < f ∧ Hid (Plain.v6 f P z (s.data.toList.drop k) = D)) (fun _ _ i => s.size - (intOf i).toNat)
  case atStart => exact ⟨0, 0, false, by omega, by omega, rfl, rfl, rfl, s.data.toList.length + 1, by simp, HD⟩
  case round =>
    obtain ⟨P, k, z, hk, hP, rfl, rfl, rfl, f, hf, HO⟩ := hrel
    clear HD
    obtain ⟨f, rfl⟩ : ∃ g, f = g + 1 := ⟨f - 1, by omega⟩
    by_cases hlt : k < s.size
    · by_cases hP8 : P = 8
      · have HF : Hid (false = D) := (Plain.v6_full s f P k z hlt hP8).symm.trans HO.out
        subst hP8
        go_wp2_with fail
        go_ret
        exact ⟨ret_bool HF.out, rfl⟩
      · by_cases hc : s[k].toNat = 58
        · have hc1 : 58 ≤ s[k].toNat := by omega
          have hc2 : s[k].toNat ≤ 58 := by omega
          cases z with
          | true =>
            have HF : Hid (false = D) := (Plain.v6_colon2 s f P k hlt hP8 hc).symm.trans HO.out
            clear hc
            go_wp2_with fail
            go_ret
            exact ⟨ret_bool HF.out, rfl⟩
          | false =>
            have HF : Hid (Plain.v6 f (P + 1) true (s.data.toList.drop (k + 1)) = D) := (Plain.v6_colon s f P k hlt hP8 hc).symm.trans HO.out
            clear hc
            go_wp2_with fail
            go_round
            case rel => exact ⟨P + 1, k + 1, true, by omega, by omega, by go_num, rfl, by go_num, f, by omega, HF⟩
            case measure => simp [intOf]; omega
        · have hpb : ((P : Int) == 8) = false := by rw [beq_eq_false_iff_ne]; omega
          have hcb : ((s[k].toNat : Int) == 58) = false := by rw [beq_eq_false_iff_ne]; omega
          go_wp2_with fail
          go_loop [5] (fun i => ∃ j : Nat, k ≤ j ∧ j ≤ k + 4 ∧ j ≤ s.size ∧ i = .int .i64 j ∧ Hid (Plain.hexrun (4 - (j - k)) (s.data.toList.drop j) = Plain.hexrun 4 (s.data.toList.drop k))) (fun i => s.size - (intOf i).toNat)
          case atStart => exact ⟨k, by omega, by omega, by omega, rfl, by simp [Hid]⟩
          case round =>
            obtain ⟨j, hkj, hj4, hjs, rfl, HJ⟩ := hrel
            by_cases hgo : ∃ h : j < s.size, j < k + 4 ∧ Plain.isH s[j] = true
            · obtain ⟨hj1, hj2, hj3⟩ := hgo
              have hx := (Plain.isH_iff s[j]).1 hj3
              have HX : Hid (((48 : Int) ≤ s[j].toNat ∧ (s[j].toNat : Int) ≤ 57) ∨ ((97 : Int) ≤ s[j].toNat ∧ (s[j].toNat : Int) ≤ 102) ∨ ((65 : Int) ≤ s[j].toNat ∧ (s[j].toNat : Int) ≤ 70)) := by
                unfold Hid; omega
              have HG : Hid (Plain.hexrun (4 - (j + 1 - k)) (s.data.toList.drop (j + 1)) = Plain.hexrun 4 (s.data.toList.drop k)) := by
                have := HJ.out
                rw [show 4 - (j - k) = (4 - (j + 1 - k)) + 1 from by omega, Plain.hex_go s _ j hj1 hj3] at this
                exact this
              clear HJ hx hj3
              go_wp2_with (go_at_call 27; refine (hex_yes _ _ HX.out).mono ?_; rintro e w' ⟨rfl, rfl⟩)
              go_round
              case rel => exact ⟨j + 1, by omega, by omega, by omega, by go_num, HG⟩
              case measure => simp [intOf]; omega
            · have HR : Hid (Plain.behind s f P k j z = D) := by
                have hr : Plain.hexrun 4 (s.data.toList.drop k) = s.data.toList.drop j := by
                  rw [← HJ.out]
                  by_cases a1 : j < s.size
                  · by_cases a2 : j < k + 4
                    · exact Plain.hex_not s _ j a1 (by
                        cases hh : Plain.isH s[j] with
                        | false => rfl
                        | true => exact absurd ⟨a1, a2, hh⟩ hgo)
                    · rw [show 4 - (j - k) = 0 from by omega]; rfl
                  · exact Plain.hex_end s _ j (by omega)
                exact (Plain.v6_hex s f P k j z hlt hP8 hc hr).symm.trans HO.out
              clear HJ HO
              by_cases hj1 : j < s.size
              · by_cases hj5 : j < k + 4
                · have hx : ¬ Plain.isH s[j] = true := fun hh => hgo ⟨hj1, hj5, hh⟩
                  rw [Plain.isH_iff] at hx
                  have HX : Hid (¬ (((48 : Int) ≤ s[j].toNat ∧ (s[j].toNat : Int) ≤ 57) ∨ ((97 : Int) ≤ s[j].toNat ∧ (s[j].toNat : Int) ≤ 102) ∨ ((65 : Int) ≤ s[j].toNat ∧ (s[j].toNat : Int) ≤ 70))) := by
                    unfold Hid; omega
                  clear hx hgo
                  by_cases h46 : s[j].toNat = 46
                  · by_cases hn : j = k ∨ 6 < P
                    · have HF : Hid (false = D) := (Plain.behind_dot_no s f P k j z hj1 h46 hn).symm.trans HR.out
                      have hx1 : 46 ≤ s[j].toNat := by omega
                      have hx2 : s[j].toNat ≤ 46 := by omega
                      have hjb : ((s[j].toNat : Int) == 46) = true := by rw [beq_iff_eq]; omega
                      clear h46
                      by_cases hjk : j = k
                      · have hjkb : ((j : Int) == (k : Int)) = true := by rw [beq_iff_eq]; omega
                        clear hjk hn
                        go_wp2_with (go_at_call 27; refine (hex_no _ _ HX.out).mono ?_; rintro e w' ⟨rfl, rfl⟩)
                        go_ret
                        exact ⟨ret_bool HF.out, rfl⟩
                      · have h6 : 6 < P := by omega
                        have hjkb : ((j : Int) == (k : Int)) = false := by rw [beq_eq_false_iff_ne]; omega
                        clear hn
                        go_wp2_with (go_at_call 27; refine (hex_no _ _ HX.out).mono ?_; rintro e w' ⟨rfl, rfl⟩)
                        go_ret
                        exact ⟨ret_bool HF.out, rfl⟩
                    · have HF : Hid ((Plain.dotted (s.data.toList.drop k) && (z || ((P : Int) + 2 == 8))) = D) := (Plain.behind_dot s f P k j z hj1 (by omega) h46 (by omega)).symm.trans HR.out
                      have hx1 : 46 ≤ s[j].toNat := by omega
                      have hx2 : s[j].toNat ≤ 46 := by omega
                      have hjb : ((s[j].toNat : Int) == 46) = true := by rw [beq_iff_eq]; omega
                      have h6 : P ≤ 6 := by omega
                      have hkj' : k < j := by omega
                      have hjkb : ((j : Int) == (k : Int)) = false := by rw [beq_eq_false_iff_ne]; omega
                      clear h46 hn
                      rw [← Plain.extract_drop] at HF
                      cases hdd : Plain.dotted (s.extract k s.size).data.toList with
                      | true =>
                        rw [hdd] at HF
                        have hdd' : Hid (Plain.dotted (s.extract k s.size).data.toList = true) := hdd
                        clear hdd
                        cases z with
                        | true =>
                          go_wp2_with (first | (go_at_call 27; refine (hex_no _ _ HX.out).mono ?_; rintro e w' ⟨rfl, rfl⟩) | (go_at_call 25; refine (isDotted_any _ _ (by unfold maxLen; simp; omega)).mono ?_; rw [hdd'.out]; rintro e w' ⟨rfl, rfl⟩))
                          go_ret
                          exact ⟨ret_bool HF.out, rfl⟩
                        | false =>
                          go_wp2_with (first | (go_at_call 27; refine (hex_no _ _ HX.out).mono ?_; rintro e w' ⟨rfl, rfl⟩) | (go_at_call 25; refine (isDotted_any _ _ (by unfold maxLen; simp; omega)).mono ?_; rw [hdd'.out]; rintro e w' ⟨rfl, rfl⟩))
                          go_ret
                          exact ⟨ret_bool HF.out, rfl⟩
                      | false =>
                        rw [hdd] at HF
                        have hdd' : Hid (Plain.dotted (s.extract k s.size).data.toList = false) := hdd
                        clear hdd
                        go_wp2_with (first | (go_at_call 27; refine (hex_no _ _ HX.out).mono ?_; rintro e w' ⟨rfl, rfl⟩) | (go_at_call 25; refine (isDotted_any _ _ (by unfold maxLen; simp; omega)).mono ?_; rw [hdd'.out]; rintro e w' ⟨rfl, rfl⟩))
                        go_ret
                        exact ⟨ret_bool HF.out, rfl⟩
                  · have hjb : ((s[j].toNat : Int) == 46) = false := by rw [beq_eq_false_iff_ne]; omega
                    by_cases h58 : s[j].toNat = 58
                    · have hjb5 : ((s[j].toNat : Int) == 58) = true := by rw [beq_iff_eq]; omega
                      by_cases hend : j + 1 = s.size
                      · have HF : Hid (false = D) := (Plain.behind_colon_end s f P k j z hj1 h58 hend).symm.trans HR.out
                        have hx1 : 58 ≤ s[j].toNat := by omega
                        have hx2 : s[j].toNat ≤ 58 := by omega
                        have hx3 : ((j : Int) + 1 == (s.size : Int)) = true := by rw [beq_iff_eq]; omega
                        clear h46 h58 hend
                        go_wp2_with (go_at_call 27; refine (hex_no _ _ HX.out).mono ?_; rintro e w' ⟨rfl, rfl⟩)
                        go_ret
                        exact ⟨ret_bool HF.out, rfl⟩
                      · have HF : Hid (Plain.v6 f (P + 1) z (s.data.toList.drop (j + 1)) = D) := (Plain.behind_colon s f P k j z (by omega) h58).symm.trans HR.out
                        have hx1 : 58 ≤ s[j].toNat := by omega
                        have hx2 : s[j].toNat ≤ 58 := by omega
                        have hx3 : ((j : Int) + 1 == (s.size : Int)) = false := by rw [beq_eq_false_iff_ne]; omega
                        have hx4 : j + 1 < s.size := by omega
                        clear h46 h58 hend
                        go_wp2_with (go_at_call 27; refine (hex_no _ _ HX.out).mono ?_; rintro e w' ⟨rfl, rfl⟩)
                        go_round
                        case rel => exact ⟨P + 1, j + 1, z, by omega, by omega, by go_num, rfl, by go_num, f, by omega, HF⟩
                        case measure => simp [intOf]; omega
                    · have HF : Hid (false = D) := (Plain.behind_other s f P k j z hj1 h46 h58).symm.trans HR.out
                      have hjb5 : ((s[j].toNat : Int) == 58) = false := by rw [beq_eq_false_iff_ne]; omega
                      clear h46 h58
                      go_wp2_with (go_at_call 27; refine (hex_no _ _ HX.out).mono ?_; rintro e w' ⟨rfl, rfl⟩)
                      go_ret
                      exact ⟨ret_bool HF.out, rfl⟩
                · clear hgo
                  by_cases h46 : s[j].toNat = 46
                  · by_cases hn : j = k ∨ 6 < P
                    · have HF : Hid (false = D) := (Plain.behind_dot_no s f P k j z hj1 h46 hn).symm.trans HR.out
                      have hx1 : 46 ≤ s[j].toNat := by omega
                      have hx2 : s[j].toNat ≤ 46 := by omega
                      have hjb : ((s[j].toNat : Int) == 46) = true := by rw [beq_iff_eq]; omega
                      clear h46
                      by_cases hjk : j = k
                      · have hjkb : ((j : Int) == (k : Int)) = true := by rw [beq_iff_eq]; omega
                        clear hjk hn
                        go_wp2_with fail
                        go_ret
                        exact ⟨ret_bool HF.out, rfl⟩
                      · have h6 : 6 < P := by omega
                        have hjkb : ((j : Int) == (k : Int)) = false := by rw [beq_eq_false_iff_ne]; omega
                        clear hn
                        go_wp2_with fail
                        go_ret
                        exact ⟨ret_bool HF.out, rfl⟩
                    · have HF : Hid ((Plain.dotted (s.data.toList.drop k) && (z || ((P : Int) + 2 == 8))) = D) := (Plain.behind_dot s f P k j z hj1 (by omega) h46 (by omega)).symm.trans HR.out
                      have hx1 : 46 ≤ s[j].toNat := by omega
                      have hx2 : s[j].toNat ≤ 46 := by omega
                      have hjb : ((s[j].toNat : Int) == 46) = true := by rw [beq_iff_eq]; omega
                      have h6 : P ≤ 6 := by omega
                      have hkj' : k < j := by omega
                      have hjkb : ((j : Int) == (k : Int)) = false := by rw [beq_eq_false_iff_ne]; omega
                      clear h46 hn
                      rw [← Plain.extract_drop] at HF
                      cases hdd : Plain.dotted (s.extract k s.size).data.toList with
                      | true =>
                        rw [hdd] at HF
                        have hdd' : Hid (Plain.dotted (s.extract k s.size).data.toList = true) := hdd
                        clear hdd
                        cases z with
                        | true =>
                          go_wp2_with (go_at_call 25; refine (isDotted_any _ _ (by unfold maxLen; simp; omega)).mono ?_; rw [hdd'.out]; rintro e w' ⟨rfl, rfl⟩)
                          go_ret
                          exact ⟨ret_bool HF.out, rfl⟩
                        | false =>
                          go_wp2_with (go_at_call 25; refine (isDotted_any _ _ (by unfold maxLen; simp; omega)).mono ?_; rw [hdd'.out]; rintro e w' ⟨rfl, rfl⟩)
                          go_ret
                          exact ⟨ret_bool HF.out, rfl⟩
                      | false =>
                        rw [hdd] at HF
                        have hdd' : Hid (Plain.dotted (s.extract k s.size).data.toList = false) := hdd
                        clear hdd
                        go_wp2_with (go_at_call 25; refine (isDotted_any _ _ (by unfold maxLen; simp; omega)).mono ?_; rw [hdd'.out]; rintro e w' ⟨rfl, rfl⟩)
                        go_ret
                        exact ⟨ret_bool HF.out, rfl⟩
                  · have hjb : ((s[j].toNat : Int) == 46) = false := by rw [beq_eq_false_iff_ne]; omega
                    by_cases h58 : s[j].toNat = 58
                    · have hjb5 : ((s[j].toNat : Int) == 58) = true := by rw [beq_iff_eq]; omega
                      by_cases hend : j + 1 = s.size
                      · have HF : Hid (false = D) := (Plain.behind_colon_end s f P k j z hj1 h58 hend).symm.trans HR.out
                        have hx1 : 58 ≤ s[j].toNat := by omega
                        have hx2 : s[j].toNat ≤ 58 := by omega
                        have hx3 : ((j : Int) + 1 == (s.size : Int)) = true := by rw [beq_iff_eq]; omega
                        clear h46 h58 hend
                        go_wp2_with fail
                        go_ret
                        exact ⟨ret_bool HF.out, rfl⟩
                      · have HF : Hid (Plain.v6 f (P + 1) z (s.data.toList.drop (j + 1)) = D) := (Plain.behind_colon s f P k j z (by omega) h58).symm.trans HR.out
                        have hx1 : 58 ≤ s[j].toNat := by omega
                        have hx2 : s[j].toNat ≤ 58 := by omega
                        have hx3 : ((j : Int) + 1 == (s.size : Int)) = false := by rw [beq_eq_false_iff_ne]; omega
                        have hx4 : j + 1 < s.size := by omega
                        clear h46 h58 hend
                        go_wp2_with fail
                        go_round
                        case rel => exact ⟨P + 1, j + 1, z, by omega, by omega, by go_num, rfl, by go_num, f, by omega, HF⟩
                        case measure => simp [intOf]; omega
                    · have HF : Hid (false = D) := (Plain.behind_other s f P k j z hj1 h46 h58).symm.trans HR.out
                      have hjb5 : ((s[j].toNat : Int) == 58) = false := by rw [beq_eq_false_iff_ne]; omega
                      clear h46 h58
                      go_wp2_with fail
                      go_ret
                      exact ⟨ret_bool HF.out, rfl⟩
              · have HF : Hid (Plain.v6 f (P + 1) z (s.data.toList.drop j) = D) := (Plain.behind_end s f P k j z (by omega)).symm.trans HR.out
                clear hgo
                go_wp2_with fail
                go_round
                case rel => exact ⟨P + 1, j, z, by omega, by omega, by go_num, rfl, by go_num, f, by omega, HF⟩
                case measure => simp [intOf]; omega
    · have HF : Hid ((z || ((P : Int) == 8)) = D) := (Plain.v6_end s f P k z (by omega)).symm.trans HO.out
      cases z with
      | true =>
        go_wp2_with fail
        go_ret
        exact ⟨ret_bool HF.out, rfl⟩
      | false =>
        go_wp2_with fail
        go_ret
        exact ⟨ret_bool HF.out, rfl⟩

end Go.Proofs.Qxb6602093a
