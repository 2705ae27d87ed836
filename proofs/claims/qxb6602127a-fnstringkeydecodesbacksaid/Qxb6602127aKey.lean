import Derived.Test.Qxb6602127aBuild
import Derived.Test.Qxb6602127aPlain
namespace Go.Proofs.Qxb6602127a
open Go.RowKit
set_option linter.unusedVariables false

theorem drop_cons (s : ByteArray) (k : Nat) (h : k < s.size) : s.data.toList.drop k = s[k] :: s.data.toList.drop (k + 1) := by
  rw [List.drop_eq_getElem_cons (by simpa using h)]; rfl

theorem drop_end (s : ByteArray) (k : Nat) (h : s.size ≤ k) : s.data.toList.drop k = [] := by
  rw [List.drop_eq_nil_iff]; simpa using h

theorem esc_at (s : ByteArray) (k : Nat) (h : k < s.size) : Plain.esc (s.data.toList.drop k) = Plain.piece s[k] (Plain.hd (s.data.toList.drop (k + 1))) ++ Plain.esc (s.data.toList.drop (k + 1)) := by
  rw [drop_cons s k h]; rfl

theorem hd_end (s : ByteArray) (k : Nat) (h : s.size ≤ k) : Plain.hd (s.data.toList.drop k) = false := by
  rw [drop_end s k h]; rfl

theorem hd_at (s : ByteArray) (k : Nat) (h : k < s.size) : Plain.hd (s.data.toList.drop k) = (s[k].toNat == 123) := by
  rw [drop_cons s k h]; rfl

/-- what the builder holds when the loop stands at k -/
def Holds (w : World) (s : ByteArray) (k : Nat) (wr : World) : Prop :=
  ∃ l : List UInt8, Lib.BuilderAt 31 5 w.heap.size w.heap.size (.pointer (some ⟨w.heap.size, 0, none⟩)) (Lib.byteCells l) wr ∧ Below w.heap.size w wr ∧ l.length ≤ 2 + 2 * k ∧ l ++ Plain.esc (s.data.toList.drop k) = [91, 34] ++ Plain.esc s.data.toList

theorem holds_step (w : World) (s : ByteArray) (k : Nat) (wr w1 : World) (p : List UInt8) (l : List UInt8) (hk : k < s.size) (hb : Lib.BuilderAt 31 5 w.heap.size w.heap.size (.pointer (some ⟨w.heap.size, 0, none⟩)) (Lib.byteCells l ++ Lib.byteCells p) w1) (h0 : Below w.heap.size w wr) (h1 : Below w.heap.size wr w1)
    (hl : l.length ≤ 2 + 2 * k) (he : l ++ Plain.esc (s.data.toList.drop k) = [91, 34] ++ Plain.esc s.data.toList) (hp : Plain.piece s[k] (Plain.hd (s.data.toList.drop (k + 1))) = p) : Holds w s (k + 1) w1 := by
  refine ⟨l ++ p, ?_, h0.trans h1, ?_, ?_⟩
  · rw [Lib.byteCells_append]; exact hb
  · have := Plain.piece_len s[k] (Plain.hd (s.data.toList.drop (k + 1)))
    rw [hp] at this
    simp; omega
  · rw [esc_at s k hk, hp] at he
    rw [List.append_assoc]; exact he

theorem piece_at (c : UInt8) (n : Bool) (v : Nat) (p : List UInt8) (h : c.toNat = v) (hp : (v = 92 ∧ p = [92, 92]) ∨ (v = 34 ∧ p = [92, 34]) ∨ (v = 10 ∧ p = [92, 110]) ∨ (v = 13 ∧ p = [92, 114]) ∨ (v = 9 ∧ p = [92, 116])) : Plain.piece c n = p := by
  unfold Plain.piece
  rcases hp with ⟨rfl, rfl⟩ | ⟨rfl, rfl⟩ | ⟨rfl, rfl⟩ | ⟨rfl, rfl⟩ | ⟨rfl, rfl⟩ <;> simp [h]

theorem piece_sig (c : UInt8) (n : Bool) (h : c.toNat = 36 ∨ c.toNat = 37) : Plain.piece c n = if n then [c, c] else [c] := by
  unfold Plain.piece Plain.sig
  rcases h with h | h <;> simp [h]

theorem piece_other (c : UInt8) (n : Bool) (h1 : c.toNat ≠ 92) (h2 : c.toNat ≠ 34) (h3 : c.toNat ≠ 10) (h4 : c.toNat ≠ 13) (h5 : c.toNat ≠ 9) (h6 : c.toNat ≠ 36) (h7 : c.toNat ≠ 37) : Plain.piece c n = [c] := by
  unfold Plain.piece Plain.sig; simp [h1, h2, h3, h4, h5, h6, h7]

def keyStr (s : ByteArray) : ByteArray := ⟨(Plain.key s.data.toList).toArray⟩

set_option maxRecDepth 100000 in
set_option maxHeartbeats 4000000 in
theorem key_any (s : ByteArray) (w : World) (hs : s.size ≤ 1048576) :
    Calls Try.prog 7 #[.string s] w fun e w' => e = .returned (.string (keyStr s)) ∧ Below w.heap.size w w' := by
  go_enter Try.func7, Try.ntmps7
  go_wp2_with fail
  have hg := Try.Builder_Grow_fresh w.heap.size w.heap.size (s.size + 4) (w.alloc (.cells #[.pointer none, .slice none 0 0] 31)) (Nat.le_refl _) (heap_alloc_new w _) (by simp) (by omega)
  have hg' : Hid (Calls Try.prog 13 #[.pointer (some ⟨w.heap.size, 0, none⟩), .int .i64 ((s.size : Int) + 4)] (w.alloc (.cells #[.pointer none, .slice none 0 0] 31)) fun e w' => e = .returned (.tuple #[]) ∧ (Lib.BuilderAt 31 5 w.heap.size w.heap.size (.pointer (some ⟨w.heap.size, 0, none⟩)) [] w' ∧ Below w.heap.size (w.alloc (.cells #[.pointer none, .slice none 0 0] 31)) w')) := hg
  clear hg
  refine hg'.out.mono ?_
  rintro e w1 ⟨rfl, hb1, hbel1⟩
  have hbl1 : Below w.heap.size w w1 := ((Below.refl _ _).alloc (Nat.le_refl _) _).trans hbel1
  clear hg' hbel1
  go_wp2_with fail
  refine (writeString w.heap.size w.heap.size [] ⟨#[91, 34]⟩ w1 hb1 (by simp [ByteArray.size]) hbl1.size).mono ?_
  rintro e w2 ⟨rfl, hb2, hbel2⟩
  have H0 : Hid (Holds w s 0 w2) := ⟨[91, 34], hb2, hbl1.trans hbel2, by simp, rfl⟩
  clear hb1 hbl1 hb2 hbel2
  go_wp2_with fail
  go_loopw [4] (fun i wr => ∃ k : Nat, k ≤ s.size ∧ i = .int .i64 k ∧ Hid (Holds w s k wr)) (fun i _ => s.size - (intOf i).toNat)
  case atStart => exact ⟨0, by omega, rfl, H0⟩
  case round =>
    obtain ⟨k, hk, rfl, HK⟩ := hrel
    obtain ⟨l, hb, hbl, hll, hle⟩ := HK.out
    clear HK H0
    have HB : Hid (Lib.BuilderAt 31 5 w.heap.size w.heap.size (.pointer (some ⟨w.heap.size, 0, none⟩)) (Lib.byteCells l) wr) := hb
    have HL : Hid (Below w.heap.size w wr) := hbl
    have HE : Hid (l ++ Plain.esc (s.data.toList.drop k) = [91, 34] ++ Plain.esc s.data.toList) := hle
    have HZ : Hid (w.heap.size ≤ wr.heap.size) := hbl.size
    clear hb hbl hle
    have hlen1 : (Lib.byteCells l).length + 2 ≤ 140737488355328 := by rw [Lib.byteCells_length]; omega
    have HN : Hid ((Lib.byteCells l).length + 2 ≤ 140737488355328) := hlen1
    clear hlen1
    by_cases hlt : k < s.size
    · by_cases e92 : s[k].toNat = 92
      · have HV : Hid (s[k].toNat = 92) := e92
        have hc1 : 92 ≤ s[k].toNat := by omega
        have hc2 : s[k].toNat ≤ 92 := by omega
        clear e92
        go_wp2_with (go_at_call 14; refine (writeString w.heap.size w.heap.size (Lib.byteCells l) ⟨#[92, 92]⟩ _ HB.out HN.out HZ.out).mono ?_; rintro e w3 ⟨rfl, hb3, hbel3⟩)
        go_roundw
        case rel => exact ⟨k + 1, by omega, by go_num, holds_step w s k wr w3 [92, 92] l hlt hb3 HL.out hbel3 hll HE.out (piece_at _ _ 92 _ HV.out (by simp))⟩
        case measure => simp [intOf]; omega
      by_cases e34 : s[k].toNat = 34
      · have HV : Hid (s[k].toNat = 34) := e34
        have hc1 : 34 ≤ s[k].toNat := by omega
        have hc2 : s[k].toNat ≤ 34 := by omega
        clear e34
        go_wp2_with (go_at_call 14; refine (writeString w.heap.size w.heap.size (Lib.byteCells l) ⟨#[92, 34]⟩ _ HB.out HN.out HZ.out).mono ?_; rintro e w3 ⟨rfl, hb3, hbel3⟩)
        go_roundw
        case rel => exact ⟨k + 1, by omega, by go_num, holds_step w s k wr w3 [92, 34] l hlt hb3 HL.out hbel3 hll HE.out (piece_at _ _ 34 _ HV.out (by simp))⟩
        case measure => simp [intOf]; omega
      by_cases e10 : s[k].toNat = 10
      · have HV : Hid (s[k].toNat = 10) := e10
        have hc1 : 10 ≤ s[k].toNat := by omega
        have hc2 : s[k].toNat ≤ 10 := by omega
        clear e10
        go_wp2_with (go_at_call 14; refine (writeString w.heap.size w.heap.size (Lib.byteCells l) ⟨#[92, 110]⟩ _ HB.out HN.out HZ.out).mono ?_; rintro e w3 ⟨rfl, hb3, hbel3⟩)
        go_roundw
        case rel => exact ⟨k + 1, by omega, by go_num, holds_step w s k wr w3 [92, 110] l hlt hb3 HL.out hbel3 hll HE.out (piece_at _ _ 10 _ HV.out (by simp))⟩
        case measure => simp [intOf]; omega
      by_cases e13 : s[k].toNat = 13
      · have HV : Hid (s[k].toNat = 13) := e13
        have hc1 : 13 ≤ s[k].toNat := by omega
        have hc2 : s[k].toNat ≤ 13 := by omega
        clear e13
        go_wp2_with (go_at_call 14; refine (writeString w.heap.size w.heap.size (Lib.byteCells l) ⟨#[92, 114]⟩ _ HB.out HN.out HZ.out).mono ?_; rintro e w3 ⟨rfl, hb3, hbel3⟩)
        go_roundw
        case rel => exact ⟨k + 1, by omega, by go_num, holds_step w s k wr w3 [92, 114] l hlt hb3 HL.out hbel3 hll HE.out (piece_at _ _ 13 _ HV.out (by simp))⟩
        case measure => simp [intOf]; omega
      by_cases e9 : s[k].toNat = 9
      · have HV : Hid (s[k].toNat = 9) := e9
        have hc1 : 9 ≤ s[k].toNat := by omega
        have hc2 : s[k].toNat ≤ 9 := by omega
        clear e9
        go_wp2_with (go_at_call 14; refine (writeString w.heap.size w.heap.size (Lib.byteCells l) ⟨#[92, 116]⟩ _ HB.out HN.out HZ.out).mono ?_; rintro e w3 ⟨rfl, hb3, hbel3⟩)
        go_roundw
        case rel => exact ⟨k + 1, by omega, by go_num, holds_step w s k wr w3 [92, 116] l hlt hb3 HL.out hbel3 hll HE.out (piece_at _ _ 9 _ HV.out (by simp))⟩
        case measure => simp [intOf]; omega
      by_cases hsig : s[k].toNat = 36 ∨ s[k].toNat = 37
      · by_cases hn : k + 1 < s.size
        · by_cases hnb : s[k + 1].toNat = 123
          · have hp : Plain.piece s[k] (Plain.hd (s.data.toList.drop (k + 1))) = [s[k], s[k]] := by
              rw [piece_sig _ _ hsig, hd_at s (k + 1) hn, hnb]; rfl
            have HP : Hid (Plain.piece s[k] (Plain.hd (s.data.toList.drop (k + 1))) = [s[k], s[k]]) := hp
            have hx1 : 123 ≤ s[k + 1].toNat := by omega
            have hx2 : s[k + 1].toNat ≤ 123 := by omega
            clear hp hnb
            rcases hsig with h36 | h36
            · have hc1 : 36 ≤ s[k].toNat := by omega
              have hc2 : s[k].toNat ≤ 36 := by omega
              clear h36
              go_wp2_with fail
              refine (writeByte w.heap.size w.heap.size (Lib.byteCells l) (s[k].toNat : Int) _ HB.out (Nat.le_trans (by omega) HN.out) HZ.out).mono ?_
              rintro e w3 ⟨rfl, hb3, hbel3⟩
              have HB3 : Hid (Lib.BuilderAt 31 5 w.heap.size w.heap.size (.pointer (some ⟨w.heap.size, 0, none⟩)) (Lib.byteCells l ++ [.int .u8 (s[k].toNat : Int)]) w3) := hb3
              have HL3 : Hid (Below w.heap.size wr w3) := hbel3
              have HZ3 : Hid (w.heap.size ≤ w3.heap.size) := Nat.le_trans HZ.out hbel3.size
              clear hb3 hbel3
              go_wp2_with fail
              refine (writeByte w.heap.size w.heap.size (Lib.byteCells l ++ [.int .u8 (s[k].toNat : Int)]) (s[k].toNat : Int) _ HB3.out (by rw [List.length_append]; exact HN.out) HZ3.out).mono ?_
              rintro e w4 ⟨rfl, hb4, hbel4⟩
              go_wp2_with fail
              go_roundw
              case rel => exact ⟨k + 1, by omega, by go_num, holds_step w s k wr w4 [s[k], s[k]] l hlt (by rw [List.append_assoc] at hb4; exact hb4) HL.out (HL3.out.trans hbel4) hll HE.out HP.out⟩
              case measure => simp [intOf]; omega
            · have hc1 : 37 ≤ s[k].toNat := by omega
              have hc2 : s[k].toNat ≤ 37 := by omega
              clear h36
              go_wp2_with fail
              refine (writeByte w.heap.size w.heap.size (Lib.byteCells l) (s[k].toNat : Int) _ HB.out (Nat.le_trans (by omega) HN.out) HZ.out).mono ?_
              rintro e w3 ⟨rfl, hb3, hbel3⟩
              have HB3 : Hid (Lib.BuilderAt 31 5 w.heap.size w.heap.size (.pointer (some ⟨w.heap.size, 0, none⟩)) (Lib.byteCells l ++ [.int .u8 (s[k].toNat : Int)]) w3) := hb3
              have HL3 : Hid (Below w.heap.size wr w3) := hbel3
              have HZ3 : Hid (w.heap.size ≤ w3.heap.size) := Nat.le_trans HZ.out hbel3.size
              clear hb3 hbel3
              go_wp2_with fail
              refine (writeByte w.heap.size w.heap.size (Lib.byteCells l ++ [.int .u8 (s[k].toNat : Int)]) (s[k].toNat : Int) _ HB3.out (by rw [List.length_append]; exact HN.out) HZ3.out).mono ?_
              rintro e w4 ⟨rfl, hb4, hbel4⟩
              go_wp2_with fail
              go_roundw
              case rel => exact ⟨k + 1, by omega, by go_num, holds_step w s k wr w4 [s[k], s[k]] l hlt (by rw [List.append_assoc] at hb4; exact hb4) HL.out (HL3.out.trans hbel4) hll HE.out HP.out⟩
              case measure => simp [intOf]; omega
          · have hp : Plain.piece s[k] (Plain.hd (s.data.toList.drop (k + 1))) = [s[k]] := by
              rw [piece_sig _ _ hsig, hd_at s (k + 1) hn]; simp [hnb]
            have HP : Hid (Plain.piece s[k] (Plain.hd (s.data.toList.drop (k + 1))) = [s[k]]) := hp
            clear hp
            rcases hsig with h36 | h36
            · have hc1 : 36 ≤ s[k].toNat := by omega
              have hc2 : s[k].toNat ≤ 36 := by omega
              clear h36
              go_wp2_with fail
              refine (writeByte w.heap.size w.heap.size (Lib.byteCells l) (s[k].toNat : Int) _ HB.out (Nat.le_trans (by omega) HN.out) HZ.out).mono ?_
              rintro e w3 ⟨rfl, hb3, hbel3⟩
              go_wp2_with fail
              go_roundw
              case rel => exact ⟨k + 1, by omega, by go_num, holds_step w s k wr w3 [s[k]] l hlt hb3 HL.out hbel3 hll HE.out HP.out⟩
              case measure => simp [intOf]; omega
            · have hc1 : 37 ≤ s[k].toNat := by omega
              have hc2 : s[k].toNat ≤ 37 := by omega
              clear h36
              go_wp2_with fail
              refine (writeByte w.heap.size w.heap.size (Lib.byteCells l) (s[k].toNat : Int) _ HB.out (Nat.le_trans (by omega) HN.out) HZ.out).mono ?_
              rintro e w3 ⟨rfl, hb3, hbel3⟩
              go_wp2_with fail
              go_roundw
              case rel => exact ⟨k + 1, by omega, by go_num, holds_step w s k wr w3 [s[k]] l hlt hb3 HL.out hbel3 hll HE.out HP.out⟩
              case measure => simp [intOf]; omega
        · have hp : Plain.piece s[k] (Plain.hd (s.data.toList.drop (k + 1))) = [s[k]] := by
            rw [piece_sig _ _ hsig, hd_end s (k + 1) (by omega)]; rfl
          have HP : Hid (Plain.piece s[k] (Plain.hd (s.data.toList.drop (k + 1))) = [s[k]]) := hp
          clear hp
          rcases hsig with h36 | h36
          · have hc1 : 36 ≤ s[k].toNat := by omega
            have hc2 : s[k].toNat ≤ 36 := by omega
            clear h36
            go_wp2_with fail
            refine (writeByte w.heap.size w.heap.size (Lib.byteCells l) (s[k].toNat : Int) _ HB.out (Nat.le_trans (by omega) HN.out) HZ.out).mono ?_
            rintro e w3 ⟨rfl, hb3, hbel3⟩
            go_wp2_with fail
            go_roundw
            case rel => exact ⟨k + 1, by omega, by go_num, holds_step w s k wr w3 [s[k]] l hlt hb3 HL.out hbel3 hll HE.out HP.out⟩
            case measure => simp [intOf]; omega
          · have hc1 : 37 ≤ s[k].toNat := by omega
            have hc2 : s[k].toNat ≤ 37 := by omega
            clear h36
            go_wp2_with fail
            refine (writeByte w.heap.size w.heap.size (Lib.byteCells l) (s[k].toNat : Int) _ HB.out (Nat.le_trans (by omega) HN.out) HZ.out).mono ?_
            rintro e w3 ⟨rfl, hb3, hbel3⟩
            go_wp2_with fail
            go_roundw
            case rel => exact ⟨k + 1, by omega, by go_num, holds_step w s k wr w3 [s[k]] l hlt hb3 HL.out hbel3 hll HE.out HP.out⟩
            case measure => simp [intOf]; omega
      · have h36 : s[k].toNat ≠ 36 := fun h => hsig (Or.inl h)
        have h37 : s[k].toNat ≠ 37 := fun h => hsig (Or.inr h)
        clear hsig
        have HP : Hid (Plain.piece s[k] (Plain.hd (s.data.toList.drop (k + 1))) = [s[k]]) := piece_other _ _ e92 e34 e10 e13 e9 h36 h37
        go_wp2_with fail
        refine (writeByte w.heap.size w.heap.size (Lib.byteCells l) (s[k].toNat : Int) _ HB.out (Nat.le_trans (by omega) HN.out) HZ.out).mono ?_
        rintro e w3 ⟨rfl, hb3, hbel3⟩
        go_wp2_with fail
        go_roundw
        case rel => exact ⟨k + 1, by omega, by go_num, holds_step w s k wr w3 [s[k]] l hlt hb3 HL.out hbel3 hll HE.out HP.out⟩
        case measure => simp [intOf]; omega
    · have HF : Hid (l = [91, 34] ++ Plain.esc s.data.toList) := by
        have := HE.out
        rw [drop_end s k (by omega)] at this
        unfold Hid; simpa [Plain.esc] using this
      go_wp2_with fail
      refine (writeString w.heap.size w.heap.size (Lib.byteCells l) ⟨#[34, 93]⟩ _ HB.out HN.out HZ.out).mono ?_
      rintro e w3 ⟨rfl, hb3, hbel3⟩
      have HB3 : Hid (Lib.IsBuilder 31 5 w.heap.size w.heap.size (Lib.byteCells (Plain.key s.data.toList)) w3) := by
        right
        have e2 : Lib.byteCells (Plain.key s.data.toList) = Lib.byteCells l ++ Lib.strCells ⟨#[34, 93]⟩ := by
          rw [HF.out]; show Lib.byteCells ([91, 34] ++ Plain.esc s.data.toList ++ [34, 93]) = _
          rw [Lib.byteCells_append]; rfl
        rw [e2]; exact hb3
      have HL3 : Hid (Below w.heap.size w w3) := HL.out.trans hbel3
      clear hb3 hbel3
      go_wp2_with fail
      refine (Try.Builder_String_any w.heap.size w.heap.size (Plain.key s.data.toList) _ HB3.out HL3.out.size).mono ?_
      rintro e w4 ⟨rfl, hbel4⟩
      go_wp2_with fail
      go_ret
      exact ⟨rfl, HL3.out.trans hbel4⟩

end Go.Proofs.Qxb6602127a
