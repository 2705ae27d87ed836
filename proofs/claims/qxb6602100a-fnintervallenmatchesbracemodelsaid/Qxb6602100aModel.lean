import Derived.Test.Qxb6602100aProg
import Derived.Test.Qxb6602100aPlain
import Derived.WalkKit
import Derived.WalkSpells
namespace Go.Proofs.Qxb6602100a.M
open Go.RowKit
set_option linter.unusedVariables false

theorem drop_cons (s : ByteArray) (k : Nat) (h : k < s.size) : s.data.toList.drop k = s[k] :: s.data.toList.drop (k + 1) := by
  rw [List.drop_eq_getElem_cons (by simpa using h)]; rfl

theorem drop_end (s : ByteArray) (k : Nat) (h : s.size ≤ k) : s.data.toList.drop k = [] := by
  rw [List.drop_eq_nil_iff]; simpa using h

theorem ret_int {a b : Int} (h : a = b) : Ending.returned (.int .i64 a) = .returned (.int .i64 b) := by rw [h]

theorem isDigit_yes (c : Int) (w : World) (h0 : 48 ≤ c) (h1 : c ≤ 57) :
    Calls Try.prog 28 #[.int .u8 c] w fun e w' => e = .returned (.bool true) ∧ w' = w := by
  go_enter Try.func28, Try.ntmps28
  go_wp2
  go_ret
  exact ⟨rfl, rfl⟩

theorem isDigit_no (c : Int) (w : World) (h : c < 48 ∨ 57 < c) :
    Calls Try.prog 28 #[.int .u8 c] w fun e w' => e = .returned (.bool false) ∧ w' = w := by
  by_cases a : 48 ≤ c
  · have b : ¬ c ≤ 57 := by omega
    clear h
    go_enter Try.func28, Try.ntmps28
    go_wp2
    go_ret
    exact ⟨rfl, rfl⟩
  · clear h
    go_enter Try.func28, Try.ntmps28
    go_wp2
    go_ret
    exact ⟨rfl, rfl⟩

theorem fnd_end (s : ByteArray) (k : Nat) (h : s.size ≤ k) : Plain.fnd (s.data.toList.drop k) = 0 := by
  rw [drop_end s k h]; rfl

theorem fnd_yes (s : ByteArray) (k : Nat) (h : k < s.size) (hc : s[k].toNat = 125) : Plain.fnd (s.data.toList.drop k) = 0 := by
  rw [drop_cons s k h, Plain.fnd, if_pos hc]

theorem fnd_no (s : ByteArray) (k : Nat) (h : k < s.size) (hc : s[k].toNat ≠ 125) : Plain.fnd (s.data.toList.drop k) = Plain.fnd (s.data.toList.drop (k + 1)) + 1 := by
  rw [drop_cons s k h, Plain.fnd, if_neg hc]

/-- the bytes from j up to k -/
def cut (s : ByteArray) (j k : Nat) : List UInt8 := (s.data.toList.take k).drop j

theorem cut_self (s : ByteArray) (k : Nat) : cut s k k = [] := by
  unfold cut; rw [List.drop_eq_nil_iff]; exact List.length_take_le _ _

theorem cut_cons (s : ByteArray) (j k : Nat) (h : j < k) (hk : k ≤ s.size) : cut s j k = s[j] :: cut s (j + 1) k := by
  unfold cut
  have hl : (List.take k s.data.toList).length = k := by
    rw [List.length_take]
    have : s.data.toList.length = s.size := by simp
    omega
  rw [List.drop_eq_getElem_cons (by omega)]
  congr 1
  rw [List.getElem_take]; rfl

theorem scan_comma (s : ByteArray) (c j k : Nat) (h : j < k) (hk : k ≤ s.size) (h4 : s[j].toNat = 44) : Plain.scan c (cut s j k) = Plain.scan (c + 1) (cut s (j + 1) k) := by
  rw [cut_cons s j k h hk, Plain.scan, if_pos h4]

theorem scan_digit (s : ByteArray) (c j k : Nat) (h : j < k) (hk : k ≤ s.size) (h4 : s[j].toNat ≠ 44) (hd : 48 ≤ s[j].toNat ∧ s[j].toNat ≤ 57) : Plain.scan c (cut s j k) = Plain.scan c (cut s (j + 1) k) := by
  rw [cut_cons s j k h hk, Plain.scan, if_neg h4, if_pos ((Plain.isD_iff _).2 hd)]

theorem scan_bad (s : ByteArray) (c j k : Nat) (h : j < k) (hk : k ≤ s.size) (h4 : s[j].toNat ≠ 44) (hd : ¬ (48 ≤ s[j].toNat ∧ s[j].toNat ≤ 57)) : Plain.scan c (cut s j k) = none := by
  rw [cut_cons s j k h hk, Plain.scan, if_neg h4, if_neg (by rw [Plain.isD_iff]; exact hd)]

theorem cut_one (s : ByteArray) (F : Nat) : (s.data.toList.drop 1).take F = cut s 1 (1 + F) := by
  unfold cut; rw [List.take_drop]

theorem model_short (s : ByteArray) (F : Nat) (hF : Plain.fnd (s.data.toList.drop 1) = F) (h : s.size ≤ 1 + F) : Plain.model s.data.toList = 0 := by
  unfold Plain.model; rw [hF, if_pos (by simpa using h)]

theorem model_head (s : ByteArray) (F : Nat) (hF : Plain.fnd (s.data.toList.drop 1) = F) (h : 1 + F < s.size) (hh : ∀ h1 : 0 < F, ¬ (48 ≤ s[1].toNat ∧ s[1].toNat ≤ 57)) : Plain.model s.data.toList = 0 := by
  unfold Plain.model; rw [hF, cut_one, if_neg (by simp; omega), if_neg ?_]
  by_cases h1 : 0 < F
  · rw [cut_cons s 1 (1 + F) (by omega) (by omega)]
    intro e
    exact hh h1 ((Plain.isD_iff _).1 e)
  · rw [show F = 0 from by omega, cut_self]; simp [Plain.head]

theorem model_go (s : ByteArray) (F : Nat) (hF : Plain.fnd (s.data.toList.drop 1) = F) (h : 1 + F < s.size) (h1 : 0 < F) (hd : 48 ≤ s[1].toNat ∧ s[1].toNat ≤ 57) : Plain.model s.data.toList = Plain.fin (1 + F) (Plain.scan 0 (cut s 1 (1 + F))) := by
  unfold Plain.model; rw [hF, cut_one, if_neg (by simp; omega), if_pos ?_]
  rw [cut_cons s 1 (1 + F) (by omega) (by omega)]
  exact (Plain.isD_iff _).2 hd

theorem fin_more (j c : Nat) (h : 1 < c) : Plain.fin j (some c) = 0 := by simp [Plain.fin, h]
theorem fin_few (j c : Nat) (h : ¬ 1 < c) : Plain.fin j (some c) = j + 1 := by simp [Plain.fin, h]

set_option maxHeartbeats 1000000 in
theorem model_any (s : ByteArray) (w : World) (hs : s.size ≤ 1048576) :
    Calls Try.prog 12 #[.string s] w fun e w' => e = .returned (.int .i64 (Plain.model s.data.toList : Nat)) ∧ w' = w := by
  obtain ⟨D, hD⟩ : ∃ D, Plain.model s.data.toList = D := ⟨_, rfl⟩
  rw [hD]
  have HD : Hid (Plain.model s.data.toList = D) := hD
  clear hD
  obtain ⟨F, hF⟩ : ∃ F, Plain.fnd (s.data.toList.drop 1) = F := ⟨_, rfl⟩
  have HF : Hid (Plain.fnd (s.data.toList.drop 1) = F) := hF
  clear hF
  go_enter Try.func12, Try.ntmps12
  go_wp2_with fail
  go_loop [3] (fun j => ∃ k : Nat, 1 ≤ k ∧ k ≤ s.size + 1 ∧ j = .int .i64 k ∧ Hid (k + Plain.fnd (s.data.toList.drop k) = 1 + F)) (fun j => s.size - (intOf j).toNat)
  case atStart => exact ⟨1, by omega, by omega, rfl, by unfold Hid; rw [HF.out]⟩
  case round =>
    obtain ⟨k, hk1, hk, rfl, HK⟩ := hrel
    by_cases hlt : k < s.size
    · by_cases hc : s[k].toNat = 125
      · have hcb : ((s[k].toNat : Int) != 125) = false := by rw [bne_eq_false_iff_eq]; omega
        have hkF : k = 1 + F := by
          have := HK.out
          rw [fnd_yes s k hlt hc] at this; omega
        clear hc HK
        have h1s : 1 < s.size := by omega
        by_cases hF0 : 0 < F ∧ (48 ≤ s[1].toNat ∧ s[1].toNat ≤ 57)
        · obtain ⟨h1, hd1, hd2⟩ := hF0
          have HG : Hid (Plain.fin (1 + F) (Plain.scan 0 (cut s 1 k)) = D) := by
            rw [hkF]
            exact (model_go s F HF.out (by omega) h1 ⟨hd1, hd2⟩).symm.trans HD.out
          have hke : ((k : Int) == 1) = false := by rw [beq_eq_false_iff_ne]; omega
          have HkF : Hid (k = 1 + F) := hkF
          have hk2 : 2 ≤ k := by omega
          clear hkF HD HF
          go_wp2_with (go_at_call 28; refine (isDigit_yes _ _ (by omega) (by omega)).mono ?_; rintro e w' ⟨rfl, rfl⟩)
          go_loop [4, 5] (fun c j => ∃ (C J : Nat), 1 ≤ J ∧ J ≤ k ∧ C ≤ J ∧ c = .int .i64 C ∧ j = .int .i64 J ∧ Hid (Plain.fin (1 + F) (Plain.scan C (cut s J k)) = D)) (fun _ j => s.size - (intOf j).toNat)
          case atStart => exact ⟨0, 1, by omega, by omega, by omega, rfl, rfl, HG⟩
          case round =>
            obtain ⟨C, J, hJ1, hJk, hCJ, rfl, rfl, HJ⟩ := hrel
            clear HG
            by_cases hJl : J < k
            · by_cases h4 : s[J].toNat = 44
              · have HS : Hid (Plain.fin (1 + F) (Plain.scan (C + 1) (cut s (J + 1) k)) = D) := by
                  have := HJ.out
                  rw [scan_comma s C J k hJl (by omega) h4] at this; exact this
                have h41 : 44 ≤ s[J].toNat := by omega
                have h42 : s[J].toNat ≤ 44 := by omega
                clear h4 HJ
                go_wp2_with fail
                go_round
                case rel => exact ⟨C + 1, J + 1, by omega, by omega, by omega, by go_num, by go_num, HS⟩
                case measure => simp [intOf]; omega
              · by_cases hd : 48 ≤ s[J].toNat ∧ s[J].toNat ≤ 57
                · have HS : Hid (Plain.fin (1 + F) (Plain.scan C (cut s (J + 1) k)) = D) := by
                    have := HJ.out
                    rw [scan_digit s C J k hJl (by omega) h4 hd] at this; exact this
                  obtain ⟨hx1, hx2⟩ := hd
                  clear HJ
                  go_wp2_with (go_at_call 28; refine (isDigit_yes _ _ (by omega) (by omega)).mono ?_; rintro e w' ⟨rfl, rfl⟩)
                  go_round
                  case rel => exact ⟨C, J + 1, by omega, by omega, by omega, by go_num, by go_num, HS⟩
                  case measure => simp [intOf]; omega
                · have HS : Hid (0 = D) := by
                    have := HJ.out
                    rw [scan_bad s C J k hJl (by omega) h4 hd] at this; exact this
                  clear HJ
                  go_wp2_with (go_at_call 28; refine (isDigit_no _ _ (by omega)).mono ?_; rintro e w' ⟨rfl, rfl⟩)
                  go_ret
                  exact ⟨ret_int (by rw [← HS.out]; rfl), rfl⟩
            · obtain rfl : J = k := by omega
              have HS : Hid (Plain.fin (1 + F) (some C) = D) := by
                have := HJ.out
                rw [cut_self] at this; exact this
              clear HJ
              by_cases hC : 1 < C
              · have HE : Hid (0 = D) := (fin_more (1 + F) C hC).symm.trans HS.out
                go_wp2_with fail
                go_ret
                exact ⟨ret_int (by rw [← HE.out]; rfl), rfl⟩
              · have HE : Hid (1 + F + 1 = D) := (fin_few (1 + F) C hC).symm.trans HS.out
                go_wp2_with fail
                go_ret
                exact ⟨ret_int (by rw [← HE.out, ← HkF.out]; omega), rfl⟩
        · have HE : Hid (0 = D) := (model_head s F HF.out (by omega) (fun h1 hh => hF0 ⟨h1, hh⟩)).symm.trans HD.out
          by_cases h1 : 0 < F
          · have hd : ¬ (48 ≤ s[1].toNat ∧ s[1].toNat ≤ 57) := fun hh => hF0 ⟨h1, hh⟩
            have hke : ((k : Int) == 1) = false := by rw [beq_eq_false_iff_ne]; omega
            have hk2 : 2 ≤ k := by omega
            have HX : Hid ((s[1].toNat : Int) < 48 ∨ (57 : Int) < s[1].toNat) := by unfold Hid; omega
            clear hF0 hkF hd
            go_wp2_with (go_at_call 28; refine (isDigit_no _ _ HX.out).mono ?_; rintro e w' ⟨rfl, rfl⟩)
            go_ret
            exact ⟨ret_int (by rw [← HE.out]; rfl), rfl⟩
          · have hke : ((k : Int) == 1) = true := by rw [beq_iff_eq]; omega
            clear hF0 hkF
            go_wp2_with fail
            go_ret
            exact ⟨ret_int (by rw [← HE.out]; rfl), rfl⟩
      · have HK' : Hid (k + 1 + Plain.fnd (s.data.toList.drop (k + 1)) = 1 + F) := by
          have := HK.out
          rw [fnd_no s k hlt hc] at this
          unfold Hid; omega
        clear HK
        go_wp2_with fail
        go_round
        case rel => exact ⟨k + 1, by omega, by omega, by go_num, HK'⟩
        case measure => simp [intOf]; omega
    · have HE : Hid (0 = D) := by
        have := HK.out
        rw [fnd_end s k (by omega)] at this
        exact (model_short s F HF.out (by omega)).symm.trans HD.out
      go_wp2_with fail
      go_ret
      exact ⟨ret_int (by rw [← HE.out]; rfl), rfl⟩

end Go.Proofs.Qxb6602100a.M
