import Derived.Test.Qxb6602127aPlain
import Derived.Test.Qxb6602127aProg
import Derived.WalkKit
import Derived.WalkSpells
namespace Go.Proofs.Qxb6602127a.V
open Go.RowKit
set_option linter.unusedVariables false

theorem drop_cons (s : ByteArray) (k : Nat) (h : k < s.size) : s.data.toList.drop k = s[k] :: s.data.toList.drop (k + 1) := by
  rw [List.drop_eq_getElem_cons (by simpa using h)]; rfl

theorem drop_end (s : ByteArray) (k : Nat) (h : s.size ≤ k) : s.data.toList.drop k = [] := by
  rw [List.drop_eq_nil_iff]; simpa using h

theorem ret_bool {a b : Bool} (h : a = b) : Ending.returned (.bool a) = .returned (.bool b) := by rw [h]

theorem plain_end (s : ByteArray) (k : Nat) (h : s.size ≤ k) : Plain.plain (s.data.toList.drop k) = true := by
  rw [drop_end s k h]; rfl

theorem plain_bad (s : ByteArray) (k : Nat) (h : k < s.size) (hb : s[k].toNat = 92 ∨ s[k].toNat = 34 ∨ s[k].toNat = 10 ∨ s[k].toNat = 13 ∨ s[k].toNat = 9) : Plain.plain (s.data.toList.drop k) = false := by
  rw [drop_cons s k h, Plain.plain, if_pos ?_]
  unfold Plain.bad; simp; omega

theorem plain_sig (s : ByteArray) (k : Nat) (h : k + 1 < s.size) (hs : s[k].toNat = 36 ∨ s[k].toNat = 37) (hn : s[k + 1].toNat = 123) : Plain.plain (s.data.toList.drop k) = false := by
  rw [drop_cons s k (by omega), Plain.plain, if_neg ?_, if_pos ?_]
  · rw [drop_cons s (k + 1) h]; unfold Plain.sig Plain.hd; simp [hn]; omega
  · unfold Plain.bad; simp; omega

theorem plain_go (s : ByteArray) (k : Nat) (h : k < s.size) (hb : ¬ (s[k].toNat = 92 ∨ s[k].toNat = 34 ∨ s[k].toNat = 10 ∨ s[k].toNat = 13 ∨ s[k].toNat = 9)) (hs : ∀ hn : k + 1 < s.size, (s[k].toNat = 36 ∨ s[k].toNat = 37) → s[k + 1].toNat ≠ 123) : Plain.plain (s.data.toList.drop k) = Plain.plain (s.data.toList.drop (k + 1)) := by
  rw [drop_cons s k h, Plain.plain, if_neg ?_, if_neg ?_]
  · by_cases hn : k + 1 < s.size
    · rw [drop_cons s (k + 1) hn]; unfold Plain.sig Plain.hd; simp
      intro hh; exact hs hn hh
    · rw [drop_end s (k + 1) (by omega)]; simp [Plain.hd]
  · unfold Plain.bad; simp; omega

set_option maxHeartbeats 2000000 in
theorem plain_any (s : ByteArray) (w : World) (hs : s.size ≤ 1048576) :
    Calls Try.prog 12 #[.string s] w fun e w' => e = .returned (.bool (Plain.plain s.data.toList)) ∧ w' = w := by
  obtain ⟨D, hD⟩ : ∃ D, Plain.plain (s.data.toList.drop 0) = D := ⟨_, rfl⟩
  have hD' : Plain.plain s.data.toList = D := hD
  rw [hD']
  have HD : Hid (Plain.plain (s.data.toList.drop 0) = D) := hD
  clear hD hD'
  go_enter Try.func12, Try.ntmps12
  go_wp2_with fail
  go_loop [3] (fun i => ∃ k : Nat, k ≤ s.size ∧ i = .int .i64 k ∧ Hid (Plain.plain (s.data.toList.drop k) = D)) (fun i => s.size - (intOf i).toNat)
  case atStart => exact ⟨0, by omega, rfl, HD⟩
  case round =>
    obtain ⟨k, hk, rfl, HK⟩ := hrel
    clear HD
    by_cases hlt : k < s.size
    · by_cases hb : s[k].toNat = 92 ∨ s[k].toNat = 34 ∨ s[k].toNat = 10 ∨ s[k].toNat = 13 ∨ s[k].toNat = 9
      · have HF : Hid (false = D) := (plain_bad s k hlt hb).symm.trans HK.out
        rcases hb with h | h | h | h | h
        · have hc1 : 92 ≤ s[k].toNat := by omega
          have hc2 : s[k].toNat ≤ 92 := by omega
          clear h
          have b92 : ((s[k].toNat : Int) == 92) = true := by rw [beq_iff_eq]; omega
          have b34 : ((s[k].toNat : Int) == 34) = false := by rw [beq_eq_false_iff_ne]; omega
          have b10 : ((s[k].toNat : Int) == 10) = false := by rw [beq_eq_false_iff_ne]; omega
          have b13 : ((s[k].toNat : Int) == 13) = false := by rw [beq_eq_false_iff_ne]; omega
          have b9 : ((s[k].toNat : Int) == 9) = false := by rw [beq_eq_false_iff_ne]; omega
          have b36 : ((s[k].toNat : Int) == 36) = false := by rw [beq_eq_false_iff_ne]; omega
          have b37 : ((s[k].toNat : Int) == 37) = false := by rw [beq_eq_false_iff_ne]; omega
          go_wp2_with fail
          go_ret
          exact ⟨ret_bool HF.out, rfl⟩
        · have hc1 : 34 ≤ s[k].toNat := by omega
          have hc2 : s[k].toNat ≤ 34 := by omega
          clear h
          have b92 : ((s[k].toNat : Int) == 92) = false := by rw [beq_eq_false_iff_ne]; omega
          have b34 : ((s[k].toNat : Int) == 34) = true := by rw [beq_iff_eq]; omega
          have b10 : ((s[k].toNat : Int) == 10) = false := by rw [beq_eq_false_iff_ne]; omega
          have b13 : ((s[k].toNat : Int) == 13) = false := by rw [beq_eq_false_iff_ne]; omega
          have b9 : ((s[k].toNat : Int) == 9) = false := by rw [beq_eq_false_iff_ne]; omega
          have b36 : ((s[k].toNat : Int) == 36) = false := by rw [beq_eq_false_iff_ne]; omega
          have b37 : ((s[k].toNat : Int) == 37) = false := by rw [beq_eq_false_iff_ne]; omega
          go_wp2_with fail
          go_ret
          exact ⟨ret_bool HF.out, rfl⟩
        · have hc1 : 10 ≤ s[k].toNat := by omega
          have hc2 : s[k].toNat ≤ 10 := by omega
          clear h
          have b92 : ((s[k].toNat : Int) == 92) = false := by rw [beq_eq_false_iff_ne]; omega
          have b34 : ((s[k].toNat : Int) == 34) = false := by rw [beq_eq_false_iff_ne]; omega
          have b10 : ((s[k].toNat : Int) == 10) = true := by rw [beq_iff_eq]; omega
          have b13 : ((s[k].toNat : Int) == 13) = false := by rw [beq_eq_false_iff_ne]; omega
          have b9 : ((s[k].toNat : Int) == 9) = false := by rw [beq_eq_false_iff_ne]; omega
          have b36 : ((s[k].toNat : Int) == 36) = false := by rw [beq_eq_false_iff_ne]; omega
          have b37 : ((s[k].toNat : Int) == 37) = false := by rw [beq_eq_false_iff_ne]; omega
          go_wp2_with fail
          go_ret
          exact ⟨ret_bool HF.out, rfl⟩
        · have hc1 : 13 ≤ s[k].toNat := by omega
          have hc2 : s[k].toNat ≤ 13 := by omega
          clear h
          have b92 : ((s[k].toNat : Int) == 92) = false := by rw [beq_eq_false_iff_ne]; omega
          have b34 : ((s[k].toNat : Int) == 34) = false := by rw [beq_eq_false_iff_ne]; omega
          have b10 : ((s[k].toNat : Int) == 10) = false := by rw [beq_eq_false_iff_ne]; omega
          have b13 : ((s[k].toNat : Int) == 13) = true := by rw [beq_iff_eq]; omega
          have b9 : ((s[k].toNat : Int) == 9) = false := by rw [beq_eq_false_iff_ne]; omega
          have b36 : ((s[k].toNat : Int) == 36) = false := by rw [beq_eq_false_iff_ne]; omega
          have b37 : ((s[k].toNat : Int) == 37) = false := by rw [beq_eq_false_iff_ne]; omega
          go_wp2_with fail
          go_ret
          exact ⟨ret_bool HF.out, rfl⟩
        · have hc1 : 9 ≤ s[k].toNat := by omega
          have hc2 : s[k].toNat ≤ 9 := by omega
          clear h
          have b92 : ((s[k].toNat : Int) == 92) = false := by rw [beq_eq_false_iff_ne]; omega
          have b34 : ((s[k].toNat : Int) == 34) = false := by rw [beq_eq_false_iff_ne]; omega
          have b10 : ((s[k].toNat : Int) == 10) = false := by rw [beq_eq_false_iff_ne]; omega
          have b13 : ((s[k].toNat : Int) == 13) = false := by rw [beq_eq_false_iff_ne]; omega
          have b9 : ((s[k].toNat : Int) == 9) = true := by rw [beq_iff_eq]; omega
          have b36 : ((s[k].toNat : Int) == 36) = false := by rw [beq_eq_false_iff_ne]; omega
          have b37 : ((s[k].toNat : Int) == 37) = false := by rw [beq_eq_false_iff_ne]; omega
          go_wp2_with fail
          go_ret
          exact ⟨ret_bool HF.out, rfl⟩
      · by_cases hsig : s[k].toNat = 36 ∨ s[k].toNat = 37
        · by_cases hn : k + 1 < s.size
          · by_cases hb3 : s[k + 1].toNat = 123
            · have HF : Hid (false = D) := (plain_sig s k hn hsig hb3).symm.trans HK.out
              have hx1 : 123 ≤ s[k + 1].toNat := by omega
              have hx2 : s[k + 1].toNat ≤ 123 := by omega
              have b123 : ((s[k + 1].toNat : Int) == 123) = true := by rw [beq_iff_eq]; omega
              clear hb3 hb
              rcases hsig with h | h
              · have hc1 : 36 ≤ s[k].toNat := by omega
                have hc2 : s[k].toNat ≤ 36 := by omega
                clear h
                have b92 : ((s[k].toNat : Int) == 92) = false := by rw [beq_eq_false_iff_ne]; omega
                have b34 : ((s[k].toNat : Int) == 34) = false := by rw [beq_eq_false_iff_ne]; omega
                have b10 : ((s[k].toNat : Int) == 10) = false := by rw [beq_eq_false_iff_ne]; omega
                have b13 : ((s[k].toNat : Int) == 13) = false := by rw [beq_eq_false_iff_ne]; omega
                have b9 : ((s[k].toNat : Int) == 9) = false := by rw [beq_eq_false_iff_ne]; omega
                have b36 : ((s[k].toNat : Int) == 36) = true := by rw [beq_iff_eq]; omega
                have b37 : ((s[k].toNat : Int) == 37) = false := by rw [beq_eq_false_iff_ne]; omega
                go_wp2_with fail
                go_ret
                exact ⟨ret_bool HF.out, rfl⟩
              · have hc1 : 37 ≤ s[k].toNat := by omega
                have hc2 : s[k].toNat ≤ 37 := by omega
                clear h
                have b92 : ((s[k].toNat : Int) == 92) = false := by rw [beq_eq_false_iff_ne]; omega
                have b34 : ((s[k].toNat : Int) == 34) = false := by rw [beq_eq_false_iff_ne]; omega
                have b10 : ((s[k].toNat : Int) == 10) = false := by rw [beq_eq_false_iff_ne]; omega
                have b13 : ((s[k].toNat : Int) == 13) = false := by rw [beq_eq_false_iff_ne]; omega
                have b9 : ((s[k].toNat : Int) == 9) = false := by rw [beq_eq_false_iff_ne]; omega
                have b36 : ((s[k].toNat : Int) == 36) = false := by rw [beq_eq_false_iff_ne]; omega
                have b37 : ((s[k].toNat : Int) == 37) = true := by rw [beq_iff_eq]; omega
                go_wp2_with fail
                go_ret
                exact ⟨ret_bool HF.out, rfl⟩
            · have HG : Hid (Plain.plain (s.data.toList.drop (k + 1)) = D) := (plain_go s k hlt hb (fun _ _ => hb3)).symm.trans HK.out
              have b123 : ((s[k + 1].toNat : Int) == 123) = false := by rw [beq_eq_false_iff_ne]; omega
              clear hb
              rcases hsig with h | h
              · have hc1 : 36 ≤ s[k].toNat := by omega
                have hc2 : s[k].toNat ≤ 36 := by omega
                clear h
                have b92 : ((s[k].toNat : Int) == 92) = false := by rw [beq_eq_false_iff_ne]; omega
                have b34 : ((s[k].toNat : Int) == 34) = false := by rw [beq_eq_false_iff_ne]; omega
                have b10 : ((s[k].toNat : Int) == 10) = false := by rw [beq_eq_false_iff_ne]; omega
                have b13 : ((s[k].toNat : Int) == 13) = false := by rw [beq_eq_false_iff_ne]; omega
                have b9 : ((s[k].toNat : Int) == 9) = false := by rw [beq_eq_false_iff_ne]; omega
                have b36 : ((s[k].toNat : Int) == 36) = true := by rw [beq_iff_eq]; omega
                have b37 : ((s[k].toNat : Int) == 37) = false := by rw [beq_eq_false_iff_ne]; omega
                go_wp2_with fail
                go_round
                case rel => exact ⟨k + 1, by omega, by go_num, HG⟩
                case measure => simp [intOf]; omega
              · have hc1 : 37 ≤ s[k].toNat := by omega
                have hc2 : s[k].toNat ≤ 37 := by omega
                clear h
                have b92 : ((s[k].toNat : Int) == 92) = false := by rw [beq_eq_false_iff_ne]; omega
                have b34 : ((s[k].toNat : Int) == 34) = false := by rw [beq_eq_false_iff_ne]; omega
                have b10 : ((s[k].toNat : Int) == 10) = false := by rw [beq_eq_false_iff_ne]; omega
                have b13 : ((s[k].toNat : Int) == 13) = false := by rw [beq_eq_false_iff_ne]; omega
                have b9 : ((s[k].toNat : Int) == 9) = false := by rw [beq_eq_false_iff_ne]; omega
                have b36 : ((s[k].toNat : Int) == 36) = false := by rw [beq_eq_false_iff_ne]; omega
                have b37 : ((s[k].toNat : Int) == 37) = true := by rw [beq_iff_eq]; omega
                go_wp2_with fail
                go_round
                case rel => exact ⟨k + 1, by omega, by go_num, HG⟩
                case measure => simp [intOf]; omega
          · have HG : Hid (Plain.plain (s.data.toList.drop (k + 1)) = D) := (plain_go s k hlt hb (fun h _ => absurd h hn)).symm.trans HK.out
            clear hb
            rcases hsig with h | h
            · have hc1 : 36 ≤ s[k].toNat := by omega
              have hc2 : s[k].toNat ≤ 36 := by omega
              clear h
              have b92 : ((s[k].toNat : Int) == 92) = false := by rw [beq_eq_false_iff_ne]; omega
              have b34 : ((s[k].toNat : Int) == 34) = false := by rw [beq_eq_false_iff_ne]; omega
              have b10 : ((s[k].toNat : Int) == 10) = false := by rw [beq_eq_false_iff_ne]; omega
              have b13 : ((s[k].toNat : Int) == 13) = false := by rw [beq_eq_false_iff_ne]; omega
              have b9 : ((s[k].toNat : Int) == 9) = false := by rw [beq_eq_false_iff_ne]; omega
              have b36 : ((s[k].toNat : Int) == 36) = true := by rw [beq_iff_eq]; omega
              have b37 : ((s[k].toNat : Int) == 37) = false := by rw [beq_eq_false_iff_ne]; omega
              go_wp2_with fail
              go_round
              case rel => exact ⟨k + 1, by omega, by go_num, HG⟩
              case measure => simp [intOf]; omega
            · have hc1 : 37 ≤ s[k].toNat := by omega
              have hc2 : s[k].toNat ≤ 37 := by omega
              clear h
              have b92 : ((s[k].toNat : Int) == 92) = false := by rw [beq_eq_false_iff_ne]; omega
              have b34 : ((s[k].toNat : Int) == 34) = false := by rw [beq_eq_false_iff_ne]; omega
              have b10 : ((s[k].toNat : Int) == 10) = false := by rw [beq_eq_false_iff_ne]; omega
              have b13 : ((s[k].toNat : Int) == 13) = false := by rw [beq_eq_false_iff_ne]; omega
              have b9 : ((s[k].toNat : Int) == 9) = false := by rw [beq_eq_false_iff_ne]; omega
              have b36 : ((s[k].toNat : Int) == 36) = false := by rw [beq_eq_false_iff_ne]; omega
              have b37 : ((s[k].toNat : Int) == 37) = true := by rw [beq_iff_eq]; omega
              go_wp2_with fail
              go_round
              case rel => exact ⟨k + 1, by omega, by go_num, HG⟩
              case measure => simp [intOf]; omega
        · have HG : Hid (Plain.plain (s.data.toList.drop (k + 1)) = D) := (plain_go s k hlt hb (fun _ h => absurd h hsig)).symm.trans HK.out
          have e1 : s[k].toNat ≠ 92 := by omega
          have e2 : s[k].toNat ≠ 34 := by omega
          have e3 : s[k].toNat ≠ 10 := by omega
          have e4 : s[k].toNat ≠ 13 := by omega
          have e5 : s[k].toNat ≠ 9 := by omega
          have e6 : s[k].toNat ≠ 36 := by omega
          have e7 : s[k].toNat ≠ 37 := by omega
          have b92 : ((s[k].toNat : Int) == 92) = false := by rw [beq_eq_false_iff_ne]; omega
          have b34 : ((s[k].toNat : Int) == 34) = false := by rw [beq_eq_false_iff_ne]; omega
          have b10 : ((s[k].toNat : Int) == 10) = false := by rw [beq_eq_false_iff_ne]; omega
          have b13 : ((s[k].toNat : Int) == 13) = false := by rw [beq_eq_false_iff_ne]; omega
          have b9 : ((s[k].toNat : Int) == 9) = false := by rw [beq_eq_false_iff_ne]; omega
          have b36 : ((s[k].toNat : Int) == 36) = false := by rw [beq_eq_false_iff_ne]; omega
          have b37 : ((s[k].toNat : Int) == 37) = false := by rw [beq_eq_false_iff_ne]; omega
          clear hb hsig
          go_wp2_with fail
          go_round
          case rel => exact ⟨k + 1, by omega, by go_num, HG⟩
          case measure => simp [intOf]; omega
    · have HF : Hid (true = D) := (plain_end s k (by omega)).symm.trans HK.out
      go_wp2_with fail
      go_ret
      exact ⟨ret_bool HF.out, rfl⟩

end Go.Proofs.Qxb6602127a.V
