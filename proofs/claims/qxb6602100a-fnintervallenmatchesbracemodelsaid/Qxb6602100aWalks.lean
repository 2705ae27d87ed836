import Derived.Test.Qxb6602100aProg
import Derived.Test.Qxb6602100aPlain
import Derived.WalkKit
import Derived.WalkSpells
namespace Go.Proofs.Qxb6602100a
open Go.RowKit
set_option linter.unusedVariables false

theorem drop_cons (s : ByteArray) (k : Nat) (h : k < s.size) : s.data.toList.drop k = s[k] :: s.data.toList.drop (k + 1) := by
  rw [List.drop_eq_getElem_cons (by simpa using h)]; rfl

theorem drop_end (s : ByteArray) (k : Nat) (h : s.size ≤ k) : s.data.toList.drop k = [] := by
  rw [List.drop_eq_nil_iff]; simpa using h

theorem run_end (s : ByteArray) (k : Nat) (h : s.size ≤ k) : Plain.run (s.data.toList.drop k) = 0 := by
  rw [drop_end s k h]; rfl

theorem run_not (s : ByteArray) (k : Nat) (h : k < s.size) (hd : ¬ (48 ≤ s[k].toNat ∧ s[k].toNat ≤ 57)) : Plain.run (s.data.toList.drop k) = 0 := by
  rw [drop_cons s k h, Plain.run, if_neg (by rw [Plain.isD_iff]; exact hd)]

theorem run_go (s : ByteArray) (k : Nat) (h : k < s.size) (hd : 48 ≤ s[k].toNat ∧ s[k].toNat ≤ 57) : Plain.run (s.data.toList.drop k) = Plain.run (s.data.toList.drop (k + 1)) + 1 := by
  rw [drop_cons s k h, Plain.run, if_pos ((Plain.isD_iff _).2 hd)]

theorem ret_int {a b : Int} (h : a = b) : Ending.returned (.int .i64 a) = .returned (.int .i64 b) := by rw [h]

/-- the world of intervalLen: the text in a variable, the place in another -/
def W (w : World) (s : ByteArray) (k : Int) : World := (w.alloc (.cells #[.string s] 9)).alloc (.cells #[.int .i64 k] 3)

theorem W_size (w : World) (s : ByteArray) (k : Int) : (W w s k).heap.size = w.heap.size + 2 := by
  simp [W]

theorem closure_any (s : ByteArray) (k : Nat) (w : World) (hs : s.size ≤ 1048576) (hk : k ≤ s.size + 1) :
    Calls Try.prog 33 #[.pointer (some ⟨w.heap.size + 1, 0, none⟩), .pointer (some ⟨w.heap.size, 0, none⟩)] ((w.alloc (.cells #[.string s] 9)).alloc (.cells #[.int .i64 k] 3))
      fun e w' => e = .returned (.int .i64 (Plain.run (s.data.toList.drop k) : Nat)) ∧ w' = (w.alloc (.cells #[.string s] 9)).alloc (.cells #[.int .i64 ((k : Int) + (Plain.run (s.data.toList.drop k) : Nat))] 3) := by
  obtain ⟨D, hD⟩ : ∃ D, Plain.run (s.data.toList.drop k) = D := ⟨_, rfl⟩
  rw [hD]
  have HD : Hid (Plain.run (s.data.toList.drop k) = D) := hD
  clear hD
  go_enter Try.func33, Try.ntmps33
  go_wp2
  go_loopw [3] (fun n wr => ∃ N : Nat, (N ≤ s.size ∧ (k + N ≤ s.size ∨ N = 0)) ∧ n = .int .i64 N ∧ wr = (w.alloc (.cells #[.string s] 9)).alloc (.cells #[.int .i64 ((k : Int) + (N : Int))] 3) ∧ Hid (N + Plain.run (s.data.toList.drop (k + N)) = D)) (fun n _ => s.size - (intOf n).toNat)
  case atStart => exact ⟨0, by omega, rfl, by simp, by simpa using HD⟩
  case round =>
    obtain ⟨N, hN, rfl, rfl, HN⟩ := hrel
    by_cases hlt : k + N < s.size
    · by_cases hd : 48 ≤ s[k + N].toNat ∧ s[k + N].toNat ≤ 57
      · have HG : Hid (N + 1 + Plain.run (s.data.toList.drop (k + (N + 1))) = D) := by
          have := HN.out
          rw [run_go s (k + N) hlt hd] at this
          unfold Hid; rw [← Nat.add_assoc]; omega
        obtain ⟨hd1, hd2⟩ := hd
        have hN' : N ≤ s.size := by omega
        clear hN HN
        go_wp2
        go_roundw
        case rel => exact ⟨N + 1, by omega, by go_num, by rw [show ((k : Int) + ((N + 1 : Nat) : Int)) = (k : Int) + (N : Int) + 1 from by omega], HG⟩
        case measure => simp [intOf]; omega
      · have HF : Hid (N = D) := by
          have := HN.out
          rw [run_not s (k + N) hlt hd] at this
          exact this
        by_cases hd1 : 48 ≤ s[k + N].toNat
        · have hd2 : 57 < s[k + N].toNat := by omega
          clear hN HN hd
          go_wp2
          go_ret
          exact ⟨ret_int (by rw [HF.out]), by rw [HF.out]⟩
        · clear hN HN hd
          go_wp2
          go_ret
          exact ⟨ret_int (by rw [HF.out]), by rw [HF.out]⟩
    · have HF : Hid (N = D) := by
        have := HN.out
        rw [run_end s (k + N) (by omega)] at this
        exact this
      clear hN HN
      go_wp2
      go_ret
      exact ⟨ret_int (by rw [HF.out]), by rw [HF.out]⟩

theorem isDigit_yes (c : Int) (w : World) (h0 : 48 ≤ c) (h1 : c ≤ 57) :
    Calls Try.prog 28 #[.int .u8 c] w fun e w' => e = .returned (.bool true) ∧ w' = w := by
  go_enter Try.func28, Try.ntmps28
  go_wp2
  go_ret
  exact ⟨rfl, rfl⟩

theorem isDigit_no (c : Int) (w : World) (h : c < 48 ∨ 57 < c) :
    Calls Try.prog 28 #[.int .u8 c] w fun e w' => e = .returned (.bool false) ∧ w' = w := by
  by_cases a : 48 ≤ c
  · have b : ¬ c ≤ 57 := by omega
    clear h
    go_enter Try.func28, Try.ntmps28
    go_wp2
    go_ret
    exact ⟨rfl, rfl⟩
  · clear h
    go_enter Try.func28, Try.ntmps28
    go_wp2
    go_ret
    exact ⟨rfl, rfl⟩

theorem closure_at (s : ByteArray) (k : Nat) (x : Int) (w : World) (hx : x = k) (hs : s.size ≤ 1048576) (hk : k ≤ s.size + 1) :
    Calls Try.prog 33 #[.pointer (some ⟨w.heap.size + 1, 0, none⟩), .pointer (some ⟨w.heap.size, 0, none⟩)] ((w.alloc (.cells #[.string s] 9)).alloc (.cells #[.int .i64 x] 3))
      fun e w' => e = .returned (.int .i64 (Plain.run (s.data.toList.drop k) : Nat)) ∧ w' = (w.alloc (.cells #[.string s] 9)).alloc (.cells #[.int .i64 (x + (Plain.run (s.data.toList.drop k) : Nat))] 3) := by
  subst hx; exact closure_any s k w hs hk

theorem run_le (s : ByteArray) (k : Nat) : k + Plain.run (s.data.toList.drop k) ≤ s.size ∨ Plain.run (s.data.toList.drop k) = 0 := by
  obtain ⟨ds, r, e, _, _, h⟩ := Plain.split (s.data.toList.drop k)
  have hl := congrArg List.length e
  have e1 : s.data.toList.length = s.size := by simp
  rw [List.length_drop, List.length_append, e1] at hl
  omega

theorem ilen_zero (s : ByteArray) (h : Plain.run (s.data.toList.drop 1) = 0) : Plain.ilen s.data.toList = 0 := by
  unfold Plain.ilen; rw [if_pos h]

theorem ilen_pos (s : ByteArray) (N : Nat) (h : Plain.run (s.data.toList.drop 1) = N) (hN : ¬ N = 0) : Plain.ilen s.data.toList =
    match s.data.toList.drop (1 + N) with
    | [] => 0
    | c :: u => if c.toNat = 44 then Plain.brace (N + 2 + Plain.run u) (u.drop (Plain.run u)) else Plain.brace (N + 1) (c :: u) := by
  unfold Plain.ilen; rw [h, if_neg hN, List.drop_drop]; cases List.drop (1 + N) s.data.toList <;> rfl

theorem ilen_end (s : ByteArray) (N : Nat) (h : Plain.run (s.data.toList.drop 1) = N) (hN : ¬ N = 0) (hp : s.size ≤ 1 + N) : Plain.ilen s.data.toList = 0 := by
  rw [ilen_pos s N h hN, drop_end s _ hp]

theorem ilen_brace (s : ByteArray) (N : Nat) (h : Plain.run (s.data.toList.drop 1) = N) (hN : ¬ N = 0) (hp : 1 + N < s.size) (hc : s[1 + N].toNat = 125) : Plain.ilen s.data.toList = 1 + N + 1 := by
  rw [ilen_pos s N h hN, drop_cons s _ hp]
  simp only [hc]
  rw [if_neg (by decide), Plain.brace, if_pos hc]; omega

theorem ilen_other (s : ByteArray) (N : Nat) (h : Plain.run (s.data.toList.drop 1) = N) (hN : ¬ N = 0) (hp : 1 + N < s.size) (hc : s[1 + N].toNat ≠ 125) (hd : s[1 + N].toNat ≠ 44) : Plain.ilen s.data.toList = 0 := by
  rw [ilen_pos s N h hN, drop_cons s _ hp]
  simp only [hd, if_false]
  rw [Plain.brace, if_neg hc]

theorem ilen_comma (s : ByteArray) (N M : Nat) (h : Plain.run (s.data.toList.drop 1) = N) (hN : ¬ N = 0) (hp : 1 + N < s.size) (hc : s[1 + N].toNat = 44) (hM : Plain.run (s.data.toList.drop (1 + N + 1)) = M) :
    Plain.ilen s.data.toList = Plain.brace (1 + N + 1 + M) (s.data.toList.drop (1 + N + 1 + M)) := by
  rw [ilen_pos s N h hN, drop_cons s _ hp]
  simp only [hc, if_true]
  rw [hM, List.drop_drop, show N + 2 + M = 1 + N + 1 + M from by omega]

theorem brace_end (s : ByteArray) (p q : Nat) (h : s.size ≤ q) : Plain.brace p (s.data.toList.drop q) = 0 := by
  rw [drop_end s q h]; rfl

theorem brace_yes (s : ByteArray) (p q : Nat) (h : q < s.size) (hc : s[q].toNat = 125) : Plain.brace p (s.data.toList.drop q) = p + 1 := by
  rw [drop_cons s q h, Plain.brace, if_pos hc]

theorem brace_no (s : ByteArray) (p q : Nat) (h : q < s.size) (hc : s[q].toNat ≠ 125) : Plain.brace p (s.data.toList.drop q) = 0 := by
  rw [drop_cons s q h, Plain.brace, if_neg hc]

set_option maxHeartbeats 1000000 in
theorem intervalLen_any (s : ByteArray) (w : World) (hs : s.size ≤ 1048576) :
    Calls Try.prog 27 #[.string s] w fun e w' => e = .returned (.int .i64 (Plain.ilen s.data.toList : Nat)) ∧ Below w.heap.size w w' := by
  have hmf : ∀ (fn : Fn) (first cap : Array Value) (w : World), (Instr.makeFunc fn first cap).run Try.prog w = .ok (.func fn first cap) w := fun _ _ _ _ => rfl
  have hbel : ∀ x : Int, Below w.heap.size w ((w.alloc (.cells #[.string s] 9)).alloc (.cells #[.int .i64 x] 3)) := fun x => ((Below.refl _ _).alloc (Nat.le_refl _) _).alloc (by simp) _
  have HB : Hid (∀ x : Int, Below w.heap.size w ((w.alloc (.cells #[.string s] 9)).alloc (.cells #[.int .i64 x] 3))) := hbel
  clear hbel
  obtain ⟨D, hD⟩ : ∃ D, Plain.ilen s.data.toList = D := ⟨_, rfl⟩
  rw [hD]
  have HD : Hid (Plain.ilen s.data.toList = D) := hD
  clear hD
  obtain ⟨N, hN⟩ : ∃ N, Plain.run (s.data.toList.drop 1) = N := ⟨_, rfl⟩
  have HN : Hid (Plain.run (s.data.toList.drop 1) = N) := hN
  have hNl := run_le s 1
  rw [hN] at hNl
  clear hN
  have C1 : Hid (Calls Try.prog 33 #[.pointer (some ⟨w.heap.size + 1, 0, none⟩), .pointer (some ⟨w.heap.size, 0, none⟩)] ((w.alloc (.cells #[.string s] 9)).alloc (.cells #[.int .i64 1] 3))
      fun e w' => e = .returned (.int .i64 (N : Int)) ∧ w' = (w.alloc (.cells #[.string s] 9)).alloc (.cells #[.int .i64 (1 + (N : Int))] 3)) := by
    have := closure_at s 1 1 w (by rfl) hs (by omega)
    rw [HN.out] at this; exact this
  by_cases h0 : N = 0
  · have HF : Hid (0 = D) := (ilen_zero s (HN.out.trans h0)).symm.trans HD.out
    subst h0
    clear hNl
    go_enter Try.func27, Try.ntmps27
    go_wp2_with fail
    refine C1.out.mono ?_
    rintro e w' ⟨rfl, rfl⟩
    go_wp2_with fail
    go_ret
    exact ⟨ret_int (by rw [← HF.out]; rfl), HB.out _⟩
  · have hNle : 1 + N ≤ s.size := by omega
    have hN0 : 1 ≤ N := by omega
    have hNb : ((N : Int) == 0) = false := by rw [beq_eq_false_iff_ne]; omega
    clear hNl
    by_cases hp : 1 + N < s.size
    · by_cases hc : s[1 + N].toNat = 44
      · obtain ⟨M, hM⟩ : ∃ M, Plain.run (s.data.toList.drop (1 + N + 1)) = M := ⟨_, rfl⟩
        have hMl := run_le s (1 + N + 1)
        rw [hM] at hMl
        have C2 : Hid (Calls Try.prog 33 #[.pointer (some ⟨w.heap.size + 1, 0, none⟩), .pointer (some ⟨w.heap.size, 0, none⟩)] ((w.alloc (.cells #[.string s] 9)).alloc (.cells #[.int .i64 (1 + (N : Int) + 1)] 3))
            fun e w' => e = .returned (.int .i64 (M : Int)) ∧ w' = (w.alloc (.cells #[.string s] 9)).alloc (.cells #[.int .i64 (1 + (N : Int) + 1 + (M : Int))] 3)) := by
          have := closure_at s (1 + N + 1) (1 + (N : Int) + 1) w (by omega) hs (by omega)
          rw [hM] at this; exact this
        have HI : Hid (Plain.brace (1 + N + 1 + M) (s.data.toList.drop (1 + N + 1 + M)) = D) := (ilen_comma s N M HN.out h0 hp hc hM).symm.trans HD.out
        have hM1 : M ≤ s.size := by omega
        have hc1 : 44 ≤ s[1 + N].toNat := by omega
        have hc2 : s[1 + N].toNat ≤ 44 := by omega
        clear hM hMl hc h0
        by_cases hq : 1 + N + 1 + M < s.size
        · by_cases h5 : s[1 + N + 1 + M].toNat = 125
          · have HF : Hid (1 + N + 1 + M + 1 = D) := (brace_yes s _ _ hq h5).symm.trans HI.out
            have h51 : 125 ≤ s[1 + N + 1 + M].toNat := by omega
            have h52 : s[1 + N + 1 + M].toNat ≤ 125 := by omega
            clear h5
            go_enter Try.func27, Try.ntmps27
            go_wp2_with fail
            refine C1.out.mono ?_
            rintro e w' ⟨rfl, rfl⟩
            go_wp2_with fail
            refine C2.out.mono ?_
            rintro e w' ⟨rfl, rfl⟩
            go_wp2_with fail
            go_ret
            exact ⟨ret_int (by rw [← HF.out]; omega), HB.out _⟩
          · have HF : Hid (0 = D) := (brace_no s _ _ hq h5).symm.trans HI.out
            go_enter Try.func27, Try.ntmps27
            go_wp2_with fail
            refine C1.out.mono ?_
            rintro e w' ⟨rfl, rfl⟩
            go_wp2_with fail
            refine C2.out.mono ?_
            rintro e w' ⟨rfl, rfl⟩
            go_wp2_with fail
            go_ret
            exact ⟨ret_int (by rw [← HF.out]; rfl), HB.out _⟩
        · have HF : Hid (0 = D) := (brace_end s _ _ (by omega)).symm.trans HI.out
          go_enter Try.func27, Try.ntmps27
          go_wp2_with fail
          refine C1.out.mono ?_
          rintro e w' ⟨rfl, rfl⟩
          go_wp2_with fail
          refine C2.out.mono ?_
          rintro e w' ⟨rfl, rfl⟩
          go_wp2_with fail
          go_ret
          exact ⟨ret_int (by rw [← HF.out]; rfl), HB.out _⟩
      · by_cases h5 : s[1 + N].toNat = 125
        · have HF : Hid (1 + N + 1 = D) := (ilen_brace s N HN.out h0 hp h5).symm.trans HD.out
          have h51 : 125 ≤ s[1 + N].toNat := by omega
          have h52 : s[1 + N].toNat ≤ 125 := by omega
          clear h5 h0 hc
          go_enter Try.func27, Try.ntmps27
          go_wp2_with fail
          refine C1.out.mono ?_
          rintro e w' ⟨rfl, rfl⟩
          go_wp2_with fail
          go_ret
          exact ⟨ret_int (by rw [← HF.out]; omega), HB.out _⟩
        · have HF : Hid (0 = D) := (ilen_other s N HN.out h0 hp h5 hc).symm.trans HD.out
          go_enter Try.func27, Try.ntmps27
          go_wp2_with fail
          refine C1.out.mono ?_
          rintro e w' ⟨rfl, rfl⟩
          go_wp2_with fail
          go_ret
          exact ⟨ret_int (by rw [← HF.out]; rfl), HB.out _⟩
    · have HF : Hid (0 = D) := (ilen_end s N HN.out h0 (by omega)).symm.trans HD.out
      go_enter Try.func27, Try.ntmps27
      go_wp2_with fail
      refine C1.out.mono ?_
      rintro e w' ⟨rfl, rfl⟩
      go_wp2_with fail
      go_ret
      exact ⟨ret_int (by rw [← HF.out]; rfl), HB.out _⟩

end Go.Proofs.Qxb6602100a
