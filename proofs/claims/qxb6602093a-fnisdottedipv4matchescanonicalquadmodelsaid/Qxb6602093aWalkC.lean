import Derived.Test.Qxb6602093aProg
import Derived.Test.Qxb6602093aSteps2
import Derived.Test.Qxb6602093aWalkB
import Derived.WalkKit
import Derived.WalkSpells
import Derived.Deep.RegionHeld3
namespace Go.Proofs.Qxb6602093a
open Go.RowKit

theorem strs_utoa (v : Nat) (C : List Int) (h : C.map (fun n => UInt8.ofNat n.toNat) = Plain.utoa v) : strOfNums C = ⟨(Plain.utoa v).toArray⟩ := by
  unfold strOfNums; rw [h]

theorem utoa_any (v : Int) (w : World) (h1 : 0 ≤ v) (h2 : v ≤ 255) :
    Calls Try.prog 21 #[.int .u64 v] w fun e w' => e = .returned (.string ⟨(Plain.utoa v.toNat).toArray⟩) ∧ Below w.heap.size w w' := by
  obtain ⟨n, rfl⟩ := Int.eq_ofNat_of_zero_le h1
  rw [Int.toNat_natCast]
  by_cases a0 : n = 0
  · subst a0; exact utoa_zero w
  by_cases a1 : n < 10
  · refine (utoa_one n w (by omega) (by omega)).mono ?_
    rintro e w' ⟨rfl, hb⟩
    refine ⟨?_, hb⟩
    rw [strs_utoa n _ ?_]
    unfold Plain.utoa
    rw [if_pos a1]
    simp only [List.map_cons, List.map_nil, Plain.dg]
    rw [show (48 + (n : Int) % 10).toNat = 48 + n from by omega]
  by_cases a2 : n < 100
  · refine (utoa_two n w (by omega) (by omega)).mono ?_
    rintro e w' ⟨rfl, hb⟩
    refine ⟨?_, hb⟩
    rw [strs_utoa n _ ?_]
    unfold Plain.utoa
    rw [if_neg a1, if_pos a2]
    simp only [List.map_cons, List.map_nil, Plain.dg]
    rw [show (48 + (n : Int) / 10 % 10).toNat = 48 + n / 10 from by omega, show (48 + (n : Int) % 10).toNat = 48 + n % 10 from by omega]
  · refine (utoa_three n w (by omega) (by omega)).mono ?_
    rintro e w' ⟨rfl, hb⟩
    refine ⟨?_, hb⟩
    rw [strs_utoa n _ ?_]
    unfold Plain.utoa
    rw [if_neg a1, if_neg a2]
    simp only [List.map_cons, List.map_nil, Plain.dg]
    rw [show (48 + (n : Int) / 10 / 10 % 10).toNat = 48 + n / 100 from by omega, show (48 + (n : Int) / 10 % 10).toNat = 48 + n / 10 % 10 from by omega, show (48 + (n : Int) % 10).toNat = 48 + n % 10 from by omega]

def U (v : Nat) : ByteArray := ⟨(Plain.utoa v).toArray⟩

theorem U_size (v : Nat) : (U v).size ≤ 3 := by
  unfold U Plain.utoa
  split
  · exact Nat.le_of_ble_eq_true rfl
  · split
    · exact Nat.le_of_ble_eq_true rfl
    · exact Nat.le_refl 3

theorem utoa_held (v B : Nat) (w w0 : World) (p q r t : Value) (h2 : v ≤ 255) (hS : w.cell? ⟨B, 0, none⟩ = some p ∧ w.cell? ⟨B, 1, none⟩ = some q ∧ w.cell? ⟨B, 2, none⟩ = some r ∧ w.cell? ⟨B, 3, none⟩ = some t ∧ B < w.heap.size ∧ Below w0.heap.size w0 w) :
    Calls Try.prog 21 #[.int .u64 v] w fun e w' => e = .returned (.string (U v)) ∧ (w'.cell? ⟨B, 0, none⟩ = some p ∧ w'.cell? ⟨B, 1, none⟩ = some q ∧ w'.cell? ⟨B, 2, none⟩ = some r ∧ w'.cell? ⟨B, 3, none⟩ = some t ∧ B < w'.heap.size ∧ Below w0.heap.size w0 w') := by
  obtain ⟨h0, h1, h2', h3, hB, hb0⟩ := hS
  refine (utoa_any v w (by omega) (by omega)).mono ?_
  rintro e w' ⟨rfl, hb⟩
  refine ⟨rfl, ?_, ?_, ?_, ?_, ?_, ?_⟩
  · rw [hb.cell (p := ⟨B, 0, none⟩) hB]; exact h0
  · rw [hb.cell (p := ⟨B, 1, none⟩) hB]; exact h1
  · rw [hb.cell (p := ⟨B, 2, none⟩) hB]; exact h2'
  · rw [hb.cell (p := ⟨B, 3, none⟩) hB]; exact h3
  · have := hb.size; omega
  · exact hb0.trans (hb.mono hb0.size)

theorem cat_is (x y z : ByteArray) (hz : z = x ++ y) (h : x.size + y.size ≤ 9223372036854775807) (w : World) : (Op.stringOp .add x y).run Try.prog w = .ok (.string z) w := by
  rw [hz]; exact run_string_add_sum _ x y h

theorem data_app (a b : ByteArray) : (a ++ b).data.toList = a.data.toList ++ b.data.toList := by
  rw [ByteArray.data_append, Array.toList_append]

theorem join_U (a b c d : Nat) : (U a ++ ⟨#[46]⟩ ++ U b ++ ⟨#[46]⟩ ++ U c ++ ⟨#[46]⟩ ++ U d).toList = Plain.join a b c d := by
  rw [ByteArray.toList_eq, data_app, data_app, data_app, data_app, data_app, data_app]
  unfold U Plain.join
  simp

theorem ret_bool' {a b : Bool} (h : a = b) : Ending.returned (.bool a) = .returned (.bool b) := by rw [h]

set_option maxHeartbeats 4000000 in
theorem model_any (s : ByteArray) (w : World) (hs : s.size ≤ 1048576) :
    Calls Try.prog 20 #[.string s] w fun e w' => e = .returned (.bool (Plain.model s.data.toList)) ∧ Below w.heap.size w w' := by
  obtain ⟨D, hD⟩ : ∃ D, Plain.model s.data.toList = D := ⟨_, rfl⟩
  rw [hD]
  obtain ⟨R, hR⟩ : ∃ R, Plain.mdl [] [] s.data.toList = R := ⟨_, rfl⟩
  have HD : Hid (Plain.modelOf R s.data.toList = D) := by rw [← hR]; exact hD
  have HI0 : Hid (Plain.Inv s 0 0 [] R) := by rw [← hR]; exact Plain.inv_start s
  clear hD hR
  go_enter Try.func20, Try.ntmps20
  go_wp2
  go_loopw [4, 5, 6] (fun f t i wr => ∃ (F st k a b c d : Nat), F ≤ 4 ∧ st ≤ k ∧ k ≤ s.size + 1 ∧ a ≤ 255 ∧ b ≤ 255 ∧ c ≤ 255 ∧ d ≤ 255 ∧ f = .int .i64 F ∧ t = .int .i64 st ∧ i = .int .i64 k ∧ Hid (Plain.Inv s k st ([a, b, c, d].take F) R) ∧ wr = w.alloc (.cells #[.int .u64 a, .int .u64 b, .int .u64 c, .int .u64 d] 39)) (fun _ _ i _ => s.size + 1 - (intOf i).toNat)
  case atStart => exact ⟨0, 0, 0, 0, 0, 0, 0, by omega, by omega, by omega, by omega, by omega, by omega, by omega, by go_num, by go_num, by go_num, HI0, rfl⟩
  case round =>
    obtain ⟨F, st, k, a, b, c, d, hF, hst, hk1, ha, hb, hc, hd, rfl, rfl, rfl, HI, rfl⟩ := hrel
    clear HI0
    by_cases hk : k ≤ s.size
    · by_cases hke : k < s.size
      · have hkn : ((k : Int) == (s.size : Int)) = false := by rw [beq_eq_false_iff_ne]; omega
        by_cases hcd : s[k].toNat = 46
        · have hcb : ((s[k].toNat : Int) == 46) = true := by rw [beq_iff_eq]; omega
          have hc1 : 46 ≤ s[k].toNat := by omega
          have hc2 : s[k].toNat ≤ 46 := by omega
          clear hcd
          by_cases hF4 : F = 4
          · subst hF4
            have HF : Hid (none = R) := (Plain.inv_step s k st _ R hk (by omega) HI.out).1 (by rfl)
            go_wp2_with fail
            go_ret
            exact ⟨ret_bool' (by rw [← HD.out, ← HF.out]; rfl), (Below.refl _ _).alloc (Nat.le_refl _) _⟩
          · by_cases hw1 : k - st < 1
            · have HF : Hid (none = R) := (Plain.inv_step s k st _ R hk (by omega) HI.out).2.1 (Plain.fld_short s st k hk (Or.inl hw1))
              go_wp2_with fail
              go_ret
              exact ⟨ret_bool' (by rw [← HD.out, ← HF.out]; rfl), (Below.refl _ _).alloc (Nat.le_refl _) _⟩
            by_cases hw3 : 3 < k - st
            · have HF : Hid (none = R) := (Plain.inv_step s k st _ R hk (by omega) HI.out).2.1 (Plain.fld_short s st k hk (Or.inr hw3))
              go_wp2_with fail
              go_ret
              exact ⟨ret_bool' (by rw [← HD.out, ← HF.out]; rfl), (Below.refl _ _).alloc (Nat.le_refl _) _⟩
            have hFn : ((F : Int) == 4) = false := by rw [beq_eq_false_iff_ne]; omega
            go_wp2_with fail
            go_loop [8, 9] (fun v j => ∃ (N J : Nat), st ≤ J ∧ J ≤ k ∧ v = .int .u64 N ∧ j = .int .i64 J ∧ (J ≤ st → N = 0) ∧ (J ≤ st + 1 → N ≤ 9) ∧ (J ≤ st + 2 → N ≤ 99) ∧ N ≤ 999 ∧ Hid (Plain.vald N (Plain.cur s J k) = Plain.vald 0 (Plain.cur s st k))) (fun _ j => s.size - (intOf j).toNat)
            case atStart => exact ⟨0, st, by omega, by omega, by go_num, by go_num, by omega, by omega, by omega, by omega, rfl⟩
            case round =>
              obtain ⟨N, J, hJ1, hJ2, rfl, rfl, hN0, hN1, hN2, hN3, HJ⟩ := hrel
              by_cases hJk : J < k
              · by_cases hd : 48 ≤ s[J].toNat ∧ s[J].toNat ≤ 57
                · obtain ⟨hd1, hd2⟩ := hd
                  have HG : Hid (Plain.vald (N * 10 + (s[J].toNat - 48)) (Plain.cur s (J + 1) k) = Plain.vald 0 (Plain.cur s st k)) := (Plain.vald_go s N J k hJk hk hd1 hd2).symm.trans HJ.out
                  clear HJ
                  have hN0' : Hid (J ≤ st → N = 0) := hN0
                  clear hN0
                  go_wp2_with fail
                  go_round
                  case rel =>
                    have := hN0'.out
                    exact ⟨N * 10 + (s[J].toNat - 48), J + 1, by omega, by omega, by go_num, by go_num, by omega, by omega, by omega, by omega, HG⟩
                  case measure => simp [intOf]; omega
                · have HF : Hid (none = R) := (Plain.inv_step s k st _ R hk (by omega) HI.out).2.1 (Plain.fld_not s st k (HJ.out.symm.trans (Plain.vald_not s N J k hJk hk (by omega))))
                  clear hN0 hN1 hN2 hN3
                  by_cases hd1 : 48 ≤ s[J].toNat
                  · go_wp2_with fail
                    go_ret
                    exact ⟨ret_bool' (by rw [← HD.out, ← HF.out]; rfl), (Below.refl _ _).alloc (Nat.le_refl _) _⟩
                  · go_wp2_with fail
                    go_ret
                    exact ⟨ret_bool' (by rw [← HD.out, ← HF.out]; rfl), (Below.refl _ _).alloc (Nat.le_refl _) _⟩
              · obtain rfl : J = k := by omega
                have HV : Hid (Plain.vald 0 (Plain.cur s st J) = some N) := HJ.out.symm.trans (Plain.vald_end s N J)
                clear hN0 hN1 hN2 HJ
                by_cases hN : N ≤ 255
                · have HS : Hid (Plain.Inv s (J + 1) (J + 1) ([a, b, c, d].take F ++ [N]) R) := (Plain.inv_step s J st _ R hk (by omega) HI.out).2.2 N (by simp; omega) (Plain.fld_some s st J N hk hw1 hw3 HV.out hN)
                  have hF : F = 0 ∨ F = 1 ∨ F = 2 ∨ F = 3 := by omega
                  clear HI
                  rcases hF with rfl | rfl | rfl | rfl
                  · go_wp2_with fail
                    go_roundw
                    case rel => exact ⟨1, J + 1, J + 1, N, b, c, d, by omega, by omega, by omega, by omega, by omega, by omega, by omega, rfl, by go_num, by go_num, HS, rfl⟩
                    case measure => simp [intOf]; omega
                  · go_wp2_with fail
                    go_roundw
                    case rel => exact ⟨2, J + 1, J + 1, a, N, c, d, by omega, by omega, by omega, by omega, by omega, by omega, by omega, rfl, by go_num, by go_num, HS, rfl⟩
                    case measure => simp [intOf]; omega
                  · go_wp2_with fail
                    go_roundw
                    case rel => exact ⟨3, J + 1, J + 1, a, b, N, d, by omega, by omega, by omega, by omega, by omega, by omega, by omega, rfl, by go_num, by go_num, HS, rfl⟩
                    case measure => simp [intOf]; omega
                  · go_wp2_with fail
                    go_roundw
                    case rel => exact ⟨4, J + 1, J + 1, a, b, c, N, by omega, by omega, by omega, by omega, by omega, by omega, by omega, rfl, by go_num, by go_num, HS, rfl⟩
                    case measure => simp [intOf]; omega
                · have HF : Hid (none = R) := (Plain.inv_step s J st _ R hk (by omega) HI.out).2.1 (Plain.fld_big s st J N HV.out (by omega))
                  go_wp2_with fail
                  go_ret
                  exact ⟨ret_bool' (by rw [← HD.out, ← HF.out]; rfl), (Below.refl _ _).alloc (Nat.le_refl _) _⟩
        · have HS : Hid (Plain.Inv s (k + 1) st ([a, b, c, d].take F) R) := Plain.inv_skip s k st _ R hke hcd hst HI.out
          clear HI
          go_wp2_with fail
          go_roundw
          case rel => exact ⟨F, st, k + 1, a, b, c, d, by omega, by omega, by omega, by omega, by omega, by omega, by omega, rfl, rfl, by go_num, HS, rfl⟩
          case measure => simp [intOf]; omega
      · have hkn : ((k : Int) == (s.size : Int)) = true := by rw [beq_iff_eq]; omega
        by_cases hF4 : F = 4
        · subst hF4
          have HF : Hid (none = R) := (Plain.inv_step s k st _ R hk (by omega) HI.out).1 (by rfl)
          go_wp2_with fail
          go_ret
          exact ⟨ret_bool' (by rw [← HD.out, ← HF.out]; rfl), (Below.refl _ _).alloc (Nat.le_refl _) _⟩
        · by_cases hw1 : k - st < 1
          · have HF : Hid (none = R) := (Plain.inv_step s k st _ R hk (by omega) HI.out).2.1 (Plain.fld_short s st k hk (Or.inl hw1))
            go_wp2_with fail
            go_ret
            exact ⟨ret_bool' (by rw [← HD.out, ← HF.out]; rfl), (Below.refl _ _).alloc (Nat.le_refl _) _⟩
          by_cases hw3 : 3 < k - st
          · have HF : Hid (none = R) := (Plain.inv_step s k st _ R hk (by omega) HI.out).2.1 (Plain.fld_short s st k hk (Or.inr hw3))
            go_wp2_with fail
            go_ret
            exact ⟨ret_bool' (by rw [← HD.out, ← HF.out]; rfl), (Below.refl _ _).alloc (Nat.le_refl _) _⟩
          have hFn : ((F : Int) == 4) = false := by rw [beq_eq_false_iff_ne]; omega
          go_wp2_with fail
          go_loop [8, 9] (fun v j => ∃ (N J : Nat), st ≤ J ∧ J ≤ k ∧ v = .int .u64 N ∧ j = .int .i64 J ∧ (J ≤ st → N = 0) ∧ (J ≤ st + 1 → N ≤ 9) ∧ (J ≤ st + 2 → N ≤ 99) ∧ N ≤ 999 ∧ Hid (Plain.vald N (Plain.cur s J k) = Plain.vald 0 (Plain.cur s st k))) (fun _ j => s.size - (intOf j).toNat)
          case atStart => exact ⟨0, st, by omega, by omega, by go_num, by go_num, by omega, by omega, by omega, by omega, rfl⟩
          case round =>
            obtain ⟨N, J, hJ1, hJ2, rfl, rfl, hN0, hN1, hN2, hN3, HJ⟩ := hrel
            by_cases hJk : J < k
            · by_cases hd : 48 ≤ s[J].toNat ∧ s[J].toNat ≤ 57
              · obtain ⟨hd1, hd2⟩ := hd
                have HG : Hid (Plain.vald (N * 10 + (s[J].toNat - 48)) (Plain.cur s (J + 1) k) = Plain.vald 0 (Plain.cur s st k)) := (Plain.vald_go s N J k hJk hk hd1 hd2).symm.trans HJ.out
                clear HJ
                have hN0' : Hid (J ≤ st → N = 0) := hN0
                clear hN0
                go_wp2_with fail
                go_round
                case rel =>
                  have := hN0'.out
                  exact ⟨N * 10 + (s[J].toNat - 48), J + 1, by omega, by omega, by go_num, by go_num, by omega, by omega, by omega, by omega, HG⟩
                case measure => simp [intOf]; omega
              · have HF : Hid (none = R) := (Plain.inv_step s k st _ R hk (by omega) HI.out).2.1 (Plain.fld_not s st k (HJ.out.symm.trans (Plain.vald_not s N J k hJk hk (by omega))))
                clear hN0 hN1 hN2 hN3
                by_cases hd1 : 48 ≤ s[J].toNat
                · go_wp2_with fail
                  go_ret
                  exact ⟨ret_bool' (by rw [← HD.out, ← HF.out]; rfl), (Below.refl _ _).alloc (Nat.le_refl _) _⟩
                · go_wp2_with fail
                  go_ret
                  exact ⟨ret_bool' (by rw [← HD.out, ← HF.out]; rfl), (Below.refl _ _).alloc (Nat.le_refl _) _⟩
            · obtain rfl : J = k := by omega
              have HV : Hid (Plain.vald 0 (Plain.cur s st J) = some N) := HJ.out.symm.trans (Plain.vald_end s N J)
              clear hN0 hN1 hN2 HJ
              by_cases hN : N ≤ 255
              · have HS : Hid (Plain.Inv s (J + 1) (J + 1) ([a, b, c, d].take F ++ [N]) R) := (Plain.inv_step s J st _ R hk (by omega) HI.out).2.2 N (by simp; omega) (Plain.fld_some s st J N hk hw1 hw3 HV.out hN)
                have hF : F = 0 ∨ F = 1 ∨ F = 2 ∨ F = 3 := by omega
                clear HI
                rcases hF with rfl | rfl | rfl | rfl
                · go_wp2_with fail
                  go_roundw
                  case rel => exact ⟨1, J + 1, J + 1, N, b, c, d, by omega, by omega, by omega, by omega, by omega, by omega, by omega, rfl, by go_num, by go_num, HS, rfl⟩
                  case measure => simp [intOf]; omega
                · go_wp2_with fail
                  go_roundw
                  case rel => exact ⟨2, J + 1, J + 1, a, N, c, d, by omega, by omega, by omega, by omega, by omega, by omega, by omega, rfl, by go_num, by go_num, HS, rfl⟩
                  case measure => simp [intOf]; omega
                · go_wp2_with fail
                  go_roundw
                  case rel => exact ⟨3, J + 1, J + 1, a, b, N, d, by omega, by omega, by omega, by omega, by omega, by omega, by omega, rfl, by go_num, by go_num, HS, rfl⟩
                  case measure => simp [intOf]; omega
                · go_wp2_with fail
                  go_roundw
                  case rel => exact ⟨4, J + 1, J + 1, a, b, c, N, by omega, by omega, by omega, by omega, by omega, by omega, by omega, rfl, by go_num, by go_num, HS, rfl⟩
                  case measure => simp [intOf]; omega
              · have HF : Hid (none = R) := (Plain.inv_step s J st _ R hk (by omega) HI.out).2.1 (Plain.fld_big s st J N HV.out (by omega))
                go_wp2_with fail
                go_ret
                exact ⟨ret_bool' (by rw [← HD.out, ← HF.out]; rfl), (Below.refl _ _).alloc (Nat.le_refl _) _⟩
    · have HE : Hid (some ([a, b, c, d].take F) = R) := Plain.inv_end s k st _ R (by omega) HI.out
      clear HI
      by_cases hF4 : F = 4
      · subst hF4
        obtain ⟨A1, hA1⟩ : ∃ A1, A1 = U a ++ ⟨#[46]⟩ := ⟨_, rfl⟩
        obtain ⟨A2, hA2⟩ : ∃ A2, A2 = A1 ++ U b := ⟨_, rfl⟩
        obtain ⟨A3, hA3⟩ : ∃ A3, A3 = A2 ++ ⟨#[46]⟩ := ⟨_, rfl⟩
        obtain ⟨A4, hA4⟩ : ∃ A4, A4 = A3 ++ U c := ⟨_, rfl⟩
        obtain ⟨A5, hA5⟩ : ∃ A5, A5 = A4 ++ ⟨#[46]⟩ := ⟨_, rfl⟩
        obtain ⟨A6, hA6⟩ : ∃ A6, A6 = A5 ++ U d := ⟨_, rfl⟩
        have hz1 : A1.size ≤ 4 := by have := U_size a; rw [hA1, ByteArray.size_append]; have : (⟨#[46]⟩ : ByteArray).size = 1 := rfl; omega
        have hz2 : A2.size ≤ 7 := by have := U_size b; rw [hA2, ByteArray.size_append]; omega
        have hz3 : A3.size ≤ 8 := by rw [hA3, ByteArray.size_append]; have : (⟨#[46]⟩ : ByteArray).size = 1 := rfl; omega
        have hz4 : A4.size ≤ 11 := by have := U_size c; rw [hA4, ByteArray.size_append]; omega
        have hz5 : A5.size ≤ 12 := by rw [hA5, ByteArray.size_append]; have : (⟨#[46]⟩ : ByteArray).size = 1 := rfl; omega
        have c1 := cat_is (U a) ⟨#[46]⟩ A1 hA1 (by have := U_size a; have : (⟨#[46]⟩ : ByteArray).size = 1 := rfl; omega)
        have c2 := cat_is A1 (U b) A2 hA2 (by have := U_size b; omega)
        have c3 := cat_is A2 ⟨#[46]⟩ A3 hA3 (by have : (⟨#[46]⟩ : ByteArray).size = 1 := rfl; omega)
        have c4 := cat_is A3 (U c) A4 hA4 (by have := U_size c; omega)
        have c5 := cat_is A4 ⟨#[46]⟩ A5 hA5 (by have : (⟨#[46]⟩ : ByteArray).size = 1 := rfl; omega)
        have c6 := cat_is A5 (U d) A6 hA6 (by have := U_size d; omega)
        have HA : Hid (A6.toList = Plain.join a b c d) := by
          rw [hA6, hA5, hA4, hA3, hA2, hA1]; exact join_U a b c d
        clear hA1 hA2 hA3 hA4 hA5 hA6 hz1 hz2 hz3 hz4 hz5
        go_wp2_with fail
        go_region_held3 (fun w' => w'.cell? ⟨w.heap.size, 0, none⟩ = some (.int .u64 a) ∧ w'.cell? ⟨w.heap.size, 1, none⟩ = some (.int .u64 b) ∧ w'.cell? ⟨w.heap.size, 2, none⟩ = some (.int .u64 c) ∧ w'.cell? ⟨w.heap.size, 3, none⟩ = some (.int .u64 d) ∧ w.heap.size < w'.heap.size ∧ Below w.heap.size w w') (first | assumption | exact ⟨by simp, by simp, by simp, by simp, by simp, ((Below.refl _ _).alloc (Nat.le_refl _) _).drew⟩)
          (first
            | (go_at_call 21; refine (utoa_held _ w.heap.size _ w _ _ _ _ (by omega) (by assumption)).mono ?_; rintro e w' ⟨rfl, hS⟩))
        go_wp2_with fail
        go_ret
        exact ⟨ret_bool' (by rw [HA.out, ByteArray.toList_eq, ← HD.out, ← HE.out]; rfl), hS.2.2.2.2.2⟩
      · have hFn : ((F : Int) != 4) = true := by rw [bne_iff_ne]; omega
        go_wp2_with fail
        go_ret
        exact ⟨ret_bool' (by rw [← HD.out, ← HE.out]; exact (Plain.modelOf_short a b c d F hF hF4 _).symm), (Below.refl _ _).alloc (Nat.le_refl _) _⟩

end Go.Proofs.Qxb6602093a
