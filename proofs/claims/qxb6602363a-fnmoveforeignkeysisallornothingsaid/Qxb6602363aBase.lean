import Derived.Test.Qxb6602363aProg
import Derived.WalkKit
import Derived.WalkSpells
import Derived.Deep.QuietTactic
import Derived.BigQuiet
import Derived.WalkSmall
import Derived.LoopN
namespace Go.Proofs.Qxb6602363a
open Go.RowKit
set_option linter.unusedVariables false

/-- A slice value v of n elements, readable in w: element j is 'g j'. -/
def Sl (w : World) (v : Value) (n : Nat) (g : Nat → Value) : Prop :=
  ∃ a cap, v = .slice a n cap ∧ n ≤ cap ∧ cap ≤ maxLen ∧ (a = none → cap = 0) ∧ (n = 0 ∨ ∃ b off, a = some ⟨b, off, none⟩ ∧ ∀ j, j < n → w.cell? ⟨b, off + j, none⟩ = some (g j))

def ints (z : Nat → Int) : Nat → Value := fun j => .int .i64 (z j)
def bools (z : Nat → Bool) : Nat → Value := fun j => .bool (z j)

def preB (np : Nat) (zp : Nat → Int) (ns : Nat) (zs : Nat → Int) : Bool := decide (np ≤ ns) && (List.range np).all fun j => zp j == zs j

theorem preB_iff (np : Nat) (zp : Nat → Int) (ns : Nat) (zs : Nat → Int) : preB np zp ns zs = true ↔ np ≤ ns ∧ ∀ j, j < np → zp j = zs j := by
  unfold preB; simp

theorem preB_no (np : Nat) (zp : Nat → Int) (ns : Nat) (zs : Nat → Int) (j : Nat) (hj : j < np) (h : zp j ≠ zs j) : preB np zp ns zs = false := by
  rw [Bool.eq_false_iff]; intro e; exact h (((preB_iff _ _ _ _).1 e).2 j hj)

theorem ret_bool {a b : Bool} (h : a = b) : Ending.returned (.bool a) = .returned (.bool b) := by rw [h]
theorem hide {p : Prop} (h : p) : Hid p := h
theorem unhide {p : Prop} (h : Hid p) : p := h

set_option maxHeartbeats 1000000 in
theorem isPrefix_any (vp vs : Value) (np ns : Nat) (zp zs : Nat → Int) (w : World) (hp : Sl w vp np (ints zp)) (hs : Sl w vs ns (ints zs)) :
    Calls Try.prog 13 #[vp, vs] w fun e w' => e = .returned (.bool (preB np zp ns zs)) ∧ ∃ q, w' = w.drewN q := by
  obtain ⟨ap, cp, rfl, hp1, hp2, hp4, hp3⟩ := hp
  obtain ⟨a2, cs, rfl, hs1, hs2, hs4, hs3⟩ := hs
  unfold maxLen at hp2 hs2
  clear hp4 hs4
  obtain ⟨D, hD⟩ : ∃ D, preB np zp ns zs = D := ⟨_, rfl⟩
  rw [hD]
  by_cases hle : np ≤ ns
  · by_cases h0 : np = 0
    · subst h0
      have HF : Hid (true = D) := by rw [← hD]; unfold Hid preB; simp
      clear hp3 hs3 hD
      go_enter Try.func13, Try.ntmps13
      go_wp2_with fail
      refine wp_loop_rounds 1 ?_
      rw [rounds_succ]
      go_wp2
      go_ret
      exact ⟨ret_bool HF.out, 0, rfl⟩
    · obtain ⟨bp, op, rfl, hcp⟩ := hp3.resolve_left h0
      obtain ⟨bs, os, rfl, hcs⟩ := hs3.resolve_left (by omega)
      have HD := hide hD
      clear hp3 hs3 hD h0
      go_enter Try.func13, Try.ntmps13
      go_wp2_with fail
      go_loopw [5] (fun i wr => ∃ k q : Nat, k ≤ np ∧ i = .int .i64 k ∧ wr = w.drewN q ∧ Hid (∀ j, j < k → zp j = zs j)) (fun i _ => np - (intOf i).toNat)
      case atStart => exact ⟨0, 0, by omega, rfl, rfl, fun j hj => absurd hj (by omega)⟩
      case round =>
        obtain ⟨k, q, hk, rfl, rfl, HK⟩ := hrel
        by_cases hlt : k < np
        · have h1 := hcp k hlt
          have h2 := hcs k (by omega)
          unfold ints at h1 h2
          by_cases he : zp k = zs k
          · have hb : (zp k != zs k) = false := by rw [bne_eq_false_iff_eq]; exact he
            have HN : Hid (∀ j, j < k + 1 → zp j = zs j) := by
              intro j hj
              by_cases e : j = k
              · subst e; exact he
              · exact HK.out j (by omega)
            clear he hcp hcs
            go_wp2_with fail
            go_quiet (fail)
            go_wp2_with fail
            go_roundw
            case rel => exact ⟨k + 1, _, by omega, by go_num, rfl, HN⟩
            case measure => simp [intOf]; omega
          · have hb : (zp k != zs k) = true := by rw [bne_iff_ne]; exact he
            have HF : Hid (false = D) := by rw [← HD.out]; exact (preB_no np zp ns zs k hlt he).symm
            clear he hcp hcs
            go_wp2_with fail
            go_quiet (fail)
            go_wp2_with fail
            go_ret
            exact ⟨ret_bool HF.out, _, World.drewN_drewN _ _ _⟩
        · have HF : Hid (true = D) := by
            rw [← HD.out]; exact ((preB_iff _ _ _ _).2 ⟨hle, fun j hj => HK.out j (by omega)⟩).symm
          clear hcp hcs
          go_wp2_with fail
          go_ret
          exact ⟨ret_bool HF.out, _, rfl⟩
  · have HF : Hid (false = D) := by rw [← hD]; unfold Hid preB; simp; omega
    clear hp3 hs3 hD
    go_enter Try.func13, Try.ntmps13
    go_wp2_with fail
    go_ret
    exact ⟨ret_bool HF.out, 0, rfl⟩

set_option maxHeartbeats 1000000 in
/-- slices.Equal at two slices of one length -/
theorem equal_any (vp vs : Value) (n : Nat) (zp zs : Nat → Int) (w : World) (hp : Sl w vp n (ints zp)) (hs : Sl w vs n (ints zs)) :
    Calls Try.prog 22 #[vp, vs] w fun e w' => e = .returned (.bool (preB n zs n zp)) ∧ ∃ q, w' = w.drewN q := by
  obtain ⟨ap, cp, rfl, hp1, hp2, hp4, hp3⟩ := hp
  obtain ⟨a2, cs, rfl, hs1, hs2, hs4, hs3⟩ := hs
  unfold maxLen at hp2 hs2
  clear hp4 hs4
  obtain ⟨D, hD⟩ : ∃ D, preB n zs n zp = D := ⟨_, rfl⟩
  rw [hD]
  by_cases h0 : n = 0
  · subst h0
    have HF : Hid (true = D) := by rw [← hD]; unfold Hid preB; simp
    clear hp3 hs3 hD
    go_enter Try.func22, Try.ntmps22
    go_wp2_with fail
    refine wp_loop_rounds 1 ?_
    rw [rounds_succ]
    go_wp2
    go_ret
    exact ⟨ret_bool HF.out, 0, rfl⟩
  · obtain ⟨bp, op, rfl, hcp⟩ := hp3.resolve_left h0
    obtain ⟨bs, os, rfl, hcs⟩ := hs3.resolve_left h0
    have HD := hide hD
    have hnn : ((n : Int) != (n : Int)) = false := by simp
    clear hp3 hs3 hD h0
    go_enter Try.func22, Try.ntmps22
    go_wp2_with fail
    go_loopw [13] (fun i wr => ∃ k q : Nat, k ≤ n ∧ i = .int .i64 k ∧ wr = w.drewN q ∧ Hid (∀ j, j < k → zs j = zp j)) (fun i _ => n - (intOf i).toNat)
    case atStart => exact ⟨0, 0, by omega, rfl, rfl, fun j hj => absurd hj (by omega)⟩
    case round =>
      obtain ⟨k, q, hk, rfl, rfl, HK⟩ := hrel
      by_cases hlt : k < n
      · have h1 := hcp k hlt
        have h2 := hcs k hlt
        unfold ints at h1 h2
        by_cases he : zp k = zs k
        · have hb : (zp k != zs k) = false := by rw [bne_eq_false_iff_eq]; exact he
          have HN : Hid (∀ j, j < k + 1 → zs j = zp j) := by
            intro j hj
            by_cases e : j = k
            · subst e; exact he.symm
            · exact HK.out j (by omega)
          clear he hcp hcs
          go_wp2_with fail
          go_quiet (fail)
          go_wp2_with fail
          go_roundw
          case rel => exact ⟨k + 1, _, by omega, by go_num, rfl, HN⟩
          case measure => simp [intOf]; omega
        · have hb : (zp k != zs k) = true := by rw [bne_iff_ne]; exact he
          have HF : Hid (false = D) := by rw [← HD.out]; exact (preB_no n zs n zp k hlt (fun h => he h.symm)).symm
          clear he hcp hcs
          go_wp2_with fail
          go_quiet (fail)
          go_wp2_with fail
          go_ret
          exact ⟨ret_bool HF.out, _, World.drewN_drewN _ _ _⟩
      · have HF : Hid (true = D) := by
          rw [← HD.out]; exact ((preB_iff _ _ _ _).2 ⟨Nat.le_refl _, fun j hj => HK.out j (by omega)⟩).symm
        clear hcp hcs
        go_wp2_with fail
        go_ret
        exact ⟨ret_bool HF.out, _, rfl⟩

/-- the cells of a foreign key, an index, a table that the law makes -/
def kcells (c ci r pi : Value) : Array Value := #[.string ⟨#[]⟩, .pointer none, c, ci, .string ⟨#[]⟩, .slice none 0 0, .pointer none, r, pi, .int .u8 0, .int .u8 0]
def icells (c : Value) : Array Value := #[.string ⟨#[]⟩, c, .bool false, .bool false, .slice none 0 0, .slice none 0 0, .slice none 0 0]
def tcells (f r : Value) : Array Value := #[.pointer none, .string ⟨#[]⟩, .slice none 0 0, .slice none 0 0, .pointer none, f, r, .slice none 0 0, .int .u64 0, .int .u64 0]

theorem childIndex_any (kb : Nat) (w : World) (v : Value) (h : w.cell? ⟨kb, 3, none⟩ = some v) :
    Calls Try.prog 14 #[.pointer (some ⟨kb, 0, none⟩)] w fun e w' => e = .returned v ∧ w' = w := by
  go_enter Try.func14, Try.ntmps14
  go_wp2_with fail
  go_ret
  exact ⟨rfl, rfl⟩

theorem parentIndex_any (kb : Nat) (w : World) (v : Value) (h : w.cell? ⟨kb, 8, none⟩ = some v) :
    Calls Try.prog 15 #[.pointer (some ⟨kb, 0, none⟩)] w fun e w' => e = .returned v ∧ w' = w := by
  go_enter Try.func15, Try.ntmps15
  go_wp2_with fail
  go_ret
  exact ⟨rfl, rfl⟩

theorem newIndex_any (a : Option Addr) (n c : Nat) (w : World) :
    Calls Try.prog 10 #[.slice a n c] w fun e w' => e = .returned (.pointer (some ⟨w.heap.size, 0, none⟩)) ∧ w' = w.alloc (.cells (icells (.slice a n c)) 44) := by
  go_enter Try.func10, Try.ntmps10
  go_wp2_with fail
  go_ret
  exact ⟨rfl, rfl⟩

theorem newKey_any (a a2 : Option Addr) (n c n2 c2 : Nat) (p q : Option Addr) (w : World) :
    Calls Try.prog 18 #[.slice a n c, .pointer p, .slice a2 n2 c2, .pointer q] w fun e w' => e = .returned (.pointer (some ⟨w.heap.size, 0, none⟩)) ∧ w' = w.alloc (.cells (kcells (.slice a n c) (.pointer p) (.slice a2 n2 c2) (.pointer q)) 51) := by
  go_enter Try.func18, Try.ntmps18
  go_wp2_with fail
  go_ret
  exact ⟨rfl, rfl⟩

theorem newTable_any (a a2 : Option Addr) (n c n2 c2 : Nat) (w : World) :
    Calls Try.prog 19 #[.slice a n c, .slice a2 n2 c2] w fun e w' => e = .returned (.pointer (some ⟨w.heap.size, 0, none⟩)) ∧ w' = w.alloc (.cells (tcells (.slice a n c) (.slice a2 n2 c2)) 58) := by
  go_enter Try.func19, Try.ntmps19
  go_wp2_with fail
  go_ret
  exact ⟨rfl, rfl⟩

set_option maxHeartbeats 1000000 in
theorem serves_any (ib : Nat) (vs vc : Value) (ns nc : Nat) (zs zc : Nat → Int) (w : World) (hi : w.cell? ⟨ib, 1, none⟩ = some vs) (hs : Sl w vs ns (ints zs)) (hc : Sl w vc nc (ints zc)) :
    Calls Try.prog 21 #[.pointer (some ⟨ib, 0, none⟩), vc] w fun e w' => e = .returned (.bool (preB nc zc ns zs)) ∧ ∃ q, w' = w.drewN q := by
  have hs0 := hs
  have hc0 := hc
  obtain ⟨ap, cp, rfl, hp1, hp2, hp4, hp3⟩ := hc
  obtain ⟨a2, cs, rfl, hs1, hs2, hs4, hs3⟩ := hs
  unfold maxLen at hp2 hs2
  by_cases hle : nc ≤ ns
  · have hsl : Sl w (.slice a2 nc cs) nc (ints zs) := by
      refine ⟨a2, cs, rfl, by omega, by unfold maxLen; omega, hs4, ?_⟩
      rcases hs3 with h | ⟨b, off, h1, h2⟩
      · left; omega
      · right; exact ⟨b, off, h1, fun j hj => h2 j (by omega)⟩
    have he := equal_any _ _ nc zs zc w hsl hc0
    have hpre : preB nc zc nc zs = preB nc zc ns zs := by
      rw [Bool.eq_iff_iff, preB_iff, preB_iff]
      exact ⟨fun h => ⟨hle, h.2⟩, fun h => ⟨Nat.le_refl _, h.2⟩⟩
    rw [hpre] at he
    generalize preB nc zc ns zs = D at *
    have HE := hide he
    clear hs3 hp3 hs0 hc0 hsl he hpre hs4 hp4
    go_enter Try.func21, Try.ntmps21
    go_wp2_with fail
    refine HE.out.mono ?_
    rintro e w' ⟨rfl, q, rfl⟩
    go_wp2_with fail
    go_ret
    exact ⟨rfl, q, rfl⟩
  · have HF : Hid (false = preB nc zc ns zs) := by unfold Hid preB; simp; omega
    clear hs3 hp3 hs0 hc0 hs4 hp4
    go_enter Try.func21, Try.ntmps21
    go_wp2_with fail
    go_ret
    exact ⟨ret_bool HF.out, 0, rfl⟩

end Go.Proofs.Qxb6602363a
