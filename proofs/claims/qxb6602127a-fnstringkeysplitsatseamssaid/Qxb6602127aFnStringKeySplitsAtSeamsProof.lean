/-
  The proof of one statement of this seat. The frame is the guide's template for this function; the walk is ours.
-/
import Derived.Test.Qxb6602127aRows
import Derived.WalkKit
import Derived.ProofKit
import Derived.OpenShut
import Derived.ShutString
import Derived.Test.Qxb6602127aKey
import Derived.ChangeOld
import Derived.Below
namespace Go.Proofs.Qxb6602127a.fnStringKeySplitsAtSeams
open Go.ChangeShapes Go.WideShapes Go.ChangeAt Go.RowKit
open Go.ChangeMaps (open_string shut_string)
set_option linter.unusedVariables false      -- a walk need not use every 'w<i>' (that an integer argument fits its kind)

theorem own : ownKnob Try.prog.godebug = none := by kernel_rfl

theorem ret_bool {a b : Bool} (h : a = b) : Ending.returned (.bool a) = .returned (.bool b) := by rw [h]

def escStr (s : ByteArray) : ByteArray := ⟨(Plain.esc s.data.toList).toArray⟩

theorem key_parts (s : ByteArray) : 4 ≤ (keyStr s).size ∧ (keyStr s).size ≤ 2 * s.size + 4 ∧ ((keyStr s).extract 0 2).toList = [91, 34] ∧ ((keyStr s).extract ((keyStr s).size - 2) (keyStr s).size).toList = [34, 93] ∧ (keyStr s).extract 2 ((keyStr s).size - 2) = escStr s := by
  have h := Plain.esc_len s.data.toList
  have h2 := Plain.key_len s.data.toList
  have e1 : s.data.toList.length = s.size := by simp
  have e2 : (keyStr s).size = (Plain.key s.data.toList).length := by simp [keyStr, ByteArray.size]
  have e3 : (keyStr s).data.toList = 91 :: 34 :: (Plain.esc s.data.toList ++ [34, 93]) := rfl
  have key : ∀ i j, ((keyStr s).extract i j).data.toList = ((91 :: 34 :: (Plain.esc s.data.toList ++ [34, 93])).take j).drop i := by
    intro i j
    rw [ByteArray.data_extract, Array.toList_extract, e3, List.extract_eq_take_drop, List.drop_take]
  refine ⟨by omega, by omega, ?_, ?_, ?_⟩
  · rw [ByteArray.toList_eq, key]; rfl
  · rw [ByteArray.toList_eq, key, e2, h2]
    rw [List.take_of_length_le (by simp)]
    rw [show (Plain.esc s.data.toList).length + 4 - 2 = (Plain.esc s.data.toList).length + 2 from by omega]
    rw [List.drop_succ_cons, List.drop_succ_cons, List.drop_left]
  · apply ByteArray.ext
    apply Array.ext'
    rw [key, e2, h2, show (Plain.esc s.data.toList).length + 4 - 2 = (Plain.esc s.data.toList).length + 2 from by omega]
    rw [List.take_succ_cons, List.take_succ_cons, List.drop_succ_cons, List.drop_succ_cons, List.drop_zero, List.take_left]
    rfl

set_option maxHeartbeats 1000000 in
theorem inner_any (s : ByteArray) (w : World) (hs : s.size ≤ 1048576) :
    Calls Try.prog 10 #[.string (keyStr s)] w fun e w' => e = .returned (.tuple #[.string (escStr s), .bool true]) ∧ w' = w := by
  obtain ⟨h4, h5, p1, p2, p3⟩ := key_parts s
  have q1 : (((keyStr s).extract 0 2).toList == [91, 34]) = true := by rw [p1]; rfl
  have q2 : (((keyStr s).extract ((keyStr s).size - 2) (keyStr s).size).toList == [34, 93]) = true := by rw [p2]; rfl
  have P3 : Hid ((keyStr s).extract 2 ((keyStr s).size - 2) = escStr s) := p3
  clear p1 p2 p3
  generalize keyStr s = K at *
  go_enter Try.func10, Try.ntmps10
  go_wp2_with fail
  go_ret2
  exact ⟨by rw [P3.out]; rfl, rfl⟩

theorem seam_yes (a b : ByteArray) (h0 : 0 < a.size) (h1 : 0 < b.size) (hs : a[a.size - 1].toNat = 36 ∨ a[a.size - 1].toNat = 37) (hb : b[0].toNat = 123) : Plain.seam a.data.toList b.data.toList = [a[a.size - 1]] := by
  have e1 : a.data.toList.getLast? = some a[a.size - 1] := by
    rw [List.getLast?_eq_getElem?]
    have : a.data.toList.length = a.size := by simp
    rw [this, Array.getElem?_toList, Array.getElem?_eq_getElem (by exact Nat.sub_lt h0 (by omega))]
    rfl
  have e2 : Plain.hd b.data.toList = true := by
    have : b.data.toList = b[0] :: b.data.toList.drop 1 := drop_cons b 0 h1
    rw [this]; simp [Plain.hd, hb]
  unfold Plain.seam; rw [e1, e2]; simp [Plain.sig]; omega

theorem seam_no (a b : ByteArray) (h : ∀ (h0 : 0 < a.size) (h1 : 0 < b.size), (a[a.size - 1].toNat = 36 ∨ a[a.size - 1].toNat = 37) → b[0].toNat ≠ 123) : Plain.seam a.data.toList b.data.toList = [] := by
  by_cases h0 : 0 < a.size
  · have e1 : a.data.toList.getLast? = some a[a.size - 1] := by
      rw [List.getLast?_eq_getElem?]
      have : a.data.toList.length = a.size := by simp
      rw [this, Array.getElem?_toList, Array.getElem?_eq_getElem (by exact Nat.sub_lt h0 (by omega))]
      rfl
    unfold Plain.seam; rw [e1]
    by_cases h1 : 0 < b.size
    · have hb : b.data.toList = b[0] :: b.data.toList.drop 1 := drop_cons b 0 h1
      rw [hb]
      have := h h0 h1
      simp [Plain.sig, Plain.hd]
      intro hh; exact this hh
    · have hb : b.data.toList = [] := drop_end b 0 (by omega)
      rw [hb]; simp [Plain.hd]
  · have ha : a.data.toList = [] := drop_end a 0 (by omega)
    rw [ha]; rfl

theorem app_data (a b : ByteArray) : (a ++ b).data.toList = a.data.toList ++ b.data.toList := by
  rw [ByteArray.data_append, Array.toList_append]

theorem whole_no (a b : ByteArray) (h : Plain.seam a.data.toList b.data.toList = []) :
    ((keyStr (a ++ b)).toList == ((⟨#[91, 34]⟩ : ByteArray) ++ escStr a ++ escStr b ++ (⟨#[34, 93]⟩ : ByteArray)).toList) = true := by
  rw [beq_iff_eq, ByteArray.toList_eq, ByteArray.toList_eq, app_data, app_data, app_data]
  show Plain.key (a ++ b).data.toList = _
  rw [app_data]
  unfold Plain.key
  rw [Plain.esc_app, h]
  simp [escStr]

theorem whole_yes (a b : ByteArray) (h0 : 0 < a.size) (h : Plain.seam a.data.toList b.data.toList = [a[a.size - 1]]) :
    ((keyStr (a ++ b)).toList == ((⟨#[91, 34]⟩ : ByteArray) ++ escStr a ++ a.extract (a.size - 1) a.size ++ escStr b ++ (⟨#[34, 93]⟩ : ByteArray)).toList) = true := by
  have e1 : (a.extract (a.size - 1) a.size).data.toList = [a[a.size - 1]] := by
    rw [ByteArray.data_extract, Array.toList_extract, List.extract_eq_take_drop]
    rw [drop_cons a (a.size - 1) (by omega), drop_end a (a.size - 1 + 1) (by omega), show a.size - (a.size - 1) = 1 from by omega]
    rfl
  rw [beq_iff_eq, ByteArray.toList_eq, ByteArray.toList_eq, app_data, app_data, app_data, app_data, e1]
  show Plain.key (a ++ b).data.toList = _
  rw [app_data]
  unfold Plain.key
  rw [Plain.esc_app, h]
  simp [escStr]

theorem esc_size (a : ByteArray) : (escStr a).size ≤ 2 * a.size := by
  have h := Plain.esc_len a.data.toList
  have e1 : a.data.toList.length = a.size := by simp
  have e2 : (escStr a).size = (Plain.esc a.data.toList).length := by simp [escStr, ByteArray.size]
  omega

set_option maxHeartbeats 2000000 in
/-- the law behind the two guards, as far as the last test -/
theorem walk (a0 : ByteArray) (a1 : ByteArray) (w0 : a0.size ≤ maxLen) (w1 : a1.size ≤ maxLen) (w : World) :
    Calls Try.prog 4 #[.string a0, .string a1] w fun e w' => e = .returned (.bool true) ∧ Below w.heap.size w w' := by
  by_cases h : a0.size ≤ 524288 ∧ a1.size ≤ 524288
  · obtain ⟨h0, h1⟩ := h
    have z0 := esc_size a0
    have z1 := esc_size a1
    have HY : Hid (∀ (g0 : 0 < a0.size), Plain.seam a0.data.toList a1.data.toList = [a0[a0.size - 1]] → ((keyStr (a0 ++ a1)).toList == ((⟨#[91, 34]⟩ : ByteArray) ++ escStr a0 ++ a0.extract (a0.size - 1) a0.size ++ escStr a1 ++ (⟨#[34, 93]⟩ : ByteArray)).toList) = true) := whole_yes a0 a1
    have HN : Hid (Plain.seam a0.data.toList a1.data.toList = [] → ((keyStr (a0 ++ a1)).toList == ((⟨#[91, 34]⟩ : ByteArray) ++ escStr a0 ++ escStr a1 ++ (⟨#[34, 93]⟩ : ByteArray)).toList) = true) := whole_no a0 a1
    have k0 := fun w => key_any a0 w (by omega)
    have k1 := fun w => key_any a1 w (by omega)
    have k2 := fun w => key_any (a0 ++ a1) w (by rw [ByteArray.size_append]; omega)
    have i0 := fun w => inner_any a0 w (by omega)
    have i1 := fun w => inner_any a1 w (by omega)
    generalize keyStr (a0 ++ a1) = K2 at *
    generalize keyStr a0 = K0 at *
    generalize keyStr a1 = K1 at *
    generalize escStr a0 = E0 at *
    generalize escStr a1 = E1 at *
    have KK0 : Hid (∀ w : World, Calls Try.prog 7 #[.string a0] w fun e w' => e = .returned (.string K0) ∧ Below w.heap.size w w') := k0
    have KK1 : Hid (∀ w : World, Calls Try.prog 7 #[.string a1] w fun e w' => e = .returned (.string K1) ∧ Below w.heap.size w w') := k1
    have KK2 : Hid (∀ w : World, Calls Try.prog 7 #[.string (a0 ++ a1)] w fun e w' => e = .returned (.string K2) ∧ Below w.heap.size w w') := k2
    have II0 : Hid (∀ w : World, Calls Try.prog 10 #[.string K0] w fun e w' => e = .returned (.tuple #[.string E0, .bool true]) ∧ w' = w) := i0
    have II1 : Hid (∀ w : World, Calls Try.prog 10 #[.string K1] w fun e w' => e = .returned (.tuple #[.string E1, .bool true]) ∧ w' = w) := i1
    clear k0 k1 k2 i0 i1
    go_enter Try.func4, Try.ntmps4
    go_wp2_with (go_at_call 9; go_in)
    refine (KK0.out _).mono ?_
    rintro e w2 ⟨rfl, hb2⟩
    go_wp2_with fail
    refine (II0.out _).mono ?_
    rintro e w3 ⟨rfl, rfl⟩
    go_wp2_with fail
    refine (KK1.out _).mono ?_
    rintro e w4 ⟨rfl, hb4⟩
    go_wp2_with fail
    refine (II1.out _).mono ?_
    rintro e w5 ⟨rfl, rfl⟩
    go_wp2_with fail
    refine (KK2.out _).mono ?_
    rintro e w6 ⟨rfl, hb6⟩
    have HB : Hid (Below w.heap.size w w6) := (hb2.trans (hb4.mono hb2.size)).trans (hb6.mono (Nat.le_trans hb2.size hb4.size))
    clear hb2 hb4 hb6 KK0 KK1 KK2 II0 II1
    by_cases g0 : 0 < a0.size
    · by_cases gs : a0[a0.size - 1].toNat = 36 ∨ a0[a0.size - 1].toNat = 37
      · by_cases g1 : 0 < a1.size
        · by_cases gb : a1[0].toNat = 123
          · have HF := HY.out g0 (seam_yes a0 a1 g0 g1 gs gb)
            have HF' : Hid ((K2.toList == ((⟨#[91, 34]⟩ : ByteArray) ++ E0 ++ a0.extract (a0.size - 1) a0.size ++ E1 ++ (⟨#[34, 93]⟩ : ByteArray)).toList) = true) := HF
            have b123 : ((a1[0].toNat : Int) == 123) = true := by rw [beq_iff_eq]; omega
            clear HF HY HN gb
            rcases gs with g | g
            · have b36 : ((a0[a0.size - 1].toNat : Int) == 36) = true := by rw [beq_iff_eq]; omega
              clear g
              go_wp2_with fail
              go_ret
              exact ⟨ret_bool HF'.out, HB.out⟩
            · have b36 : ((a0[a0.size - 1].toNat : Int) == 36) = false := by rw [beq_eq_false_iff_ne]; omega
              have b37 : ((a0[a0.size - 1].toNat : Int) == 37) = true := by rw [beq_iff_eq]; omega
              clear g
              go_wp2_with fail
              go_ret
              exact ⟨ret_bool HF'.out, HB.out⟩
          · have HF' : Hid ((K2.toList == ((⟨#[91, 34]⟩ : ByteArray) ++ E0 ++ E1 ++ (⟨#[34, 93]⟩ : ByteArray)).toList) = true) := HN.out (seam_no a0 a1 (fun _ _ _ => gb))
            have b123 : ((a1[0].toNat : Int) == 123) = false := by rw [beq_eq_false_iff_ne]; omega
            clear HY HN
            rcases gs with g | g
            · have b36 : ((a0[a0.size - 1].toNat : Int) == 36) = true := by rw [beq_iff_eq]; omega
              clear g
              go_wp2_with fail
              go_ret
              exact ⟨ret_bool HF'.out, HB.out⟩
            · have b36 : ((a0[a0.size - 1].toNat : Int) == 36) = false := by rw [beq_eq_false_iff_ne]; omega
              have b37 : ((a0[a0.size - 1].toNat : Int) == 37) = true := by rw [beq_iff_eq]; omega
              clear g
              go_wp2_with fail
              go_ret
              exact ⟨ret_bool HF'.out, HB.out⟩
        · have HF' : Hid ((K2.toList == ((⟨#[91, 34]⟩ : ByteArray) ++ E0 ++ E1 ++ (⟨#[34, 93]⟩ : ByteArray)).toList) = true) := HN.out (seam_no a0 a1 (fun _ h _ => absurd h g1))
          clear HY HN
          rcases gs with g | g
          · have b36 : ((a0[a0.size - 1].toNat : Int) == 36) = true := by rw [beq_iff_eq]; omega
            clear g
            go_wp2_with fail
            go_ret
            exact ⟨ret_bool HF'.out, HB.out⟩
          · have b36 : ((a0[a0.size - 1].toNat : Int) == 36) = false := by rw [beq_eq_false_iff_ne]; omega
            have b37 : ((a0[a0.size - 1].toNat : Int) == 37) = true := by rw [beq_iff_eq]; omega
            clear g
            go_wp2_with fail
            go_ret
            exact ⟨ret_bool HF'.out, HB.out⟩
      · have HF' : Hid ((K2.toList == ((⟨#[91, 34]⟩ : ByteArray) ++ E0 ++ E1 ++ (⟨#[34, 93]⟩ : ByteArray)).toList) = true) := HN.out (seam_no a0 a1 (fun _ _ h => absurd h gs))
        have b36 : ((a0[a0.size - 1].toNat : Int) == 36) = false := by rw [beq_eq_false_iff_ne]; omega
        have b37 : ((a0[a0.size - 1].toNat : Int) == 37) = false := by rw [beq_eq_false_iff_ne]; omega
        clear HY HN gs
        go_wp2_with fail
        go_ret
        exact ⟨ret_bool HF'.out, HB.out⟩
    · have HF' : Hid ((K2.toList == ((⟨#[91, 34]⟩ : ByteArray) ++ E0 ++ E1 ++ (⟨#[34, 93]⟩ : ByteArray)).toList) = true) := HN.out (seam_no a0 a1 (fun h _ _ => absurd h g0))
      clear HY HN
      go_wp2_with fail
      go_ret
      exact ⟨ret_bool HF'.out, HB.out⟩
  · go_enter Try.func4, Try.ntmps4
    go_wp2
    all_goals (go_ret; exact ⟨rfl, Below.refl _ _⟩)

/-! ### the row's step -/
set_option maxRecDepth 100000 in
theorem lifted (os : Os) (started : os.Started) (H : Type) (enc : TypeId × Value → H) :
    ReturnsInHanded {} Try.checked os 4 .any (Rows.fnStringKeySplitsAtSeamsSpec.pre6 enc Try.prog Try.f4 Rows.fnStringKeySplitsAtSeamsRow.domain false) (Rows.fnStringKeySplitsAtSeamsSpec.post enc Try.prog Try.f4 false true false false) := by
  refine returnsInHanded_of_change (C := Try.checked) own started (by kernel_rfl) Try.func4
    (ChangeSpec.witness6 (enc := enc) (C := Try.checked) false ⟨#[], #[.string ByteArray.empty, .string ByteArray.empty], []⟩ 8 (by kernel_rfl) (by kernel_rfl) (by kernel_rfl) (by kernel_rfl)) ?_
  intro W base args ds gs before hval0 hW hcnd _
  have hval : ∀ (j : Nat) t v, Try.f4.params[j]? = some t → args[j]? = some v → Value.okWide Try.prog W .any base t v := hval0
  have hW' := hW
  obtain ⟨p, q, hA0, hV, rfl, hfz, hnd⟩ := hW
  have hA : DataW.TrodAll enc Try.prog W 0 (fun _ => true) true Try.f4.params.toList args.toList ds p := hA0
  rw [Try.params4] at hA hval
  obtain ⟨v0, vs0, d0, ds0, p0, q0, hargs, rfl, rfl, h0, r0⟩ := trodAll_cons hA
  obtain ⟨v1, vs1, d1, ds1, p1, q1, rfl, rfl, rfl, h1, r1⟩ := trodAll_cons r0
  obtain ⟨rfl, rfl, rfl⟩ := trodAll_nil r1
  obtain rfl : args = #[v0, v1] := by cases args; simp_all
  obtain ⟨rfl, rfl⟩ := trodVars_none hV
  obtain ⟨a0, rfl, rfl, rfl, w0⟩ := open_string Try.underlying9 (hval 0 9 v0 rfl rfl) h0
  obtain ⟨a1, rfl, rfl, rfl, w1⟩ := open_string Try.underlying9 (hval 1 9 v1 rfl rfl) h1
  clear hA0 hval0
  refine (walk a0 a1 w0 w1 W).mono fun e W' ⟨he, bel⟩ => ?_
  subst he
  exact ⟨_, rfl, _, _, _, [], _, [], hW', (trodAll_cons_mk (shut_bool Try.underlying4 _) trodAll_mk0), (trodAll_cons_mk (shut_string Try.underlying9 w0) (trodAll_cons_mk (shut_string Try.underlying9 w1) trodAll_mk0)), rfl, bel.frame _, fun h => by cases h⟩

theorem over : Rows.fnStringKeySplitsAtSeamsRow.holds Try.pinned (OpenSpec.ofChange Rows.fnStringKeySplitsAtSeamsSpec) :=
  OpenClaim.holds_of_wide 4 Try.f4 rfl rfl rfl rfl rfl rfl rfl ⟨rfl, rfl, rfl, rfl, rfl⟩ rfl rfl rfl rfl rfl (by kernel_rfl) Try.func4 (by kernel_rfl)
    (of_decide_eq_true (by kernel_rfl)) (by unfold Func.isWrapper; first | (rw [if_pos (by decide +kernel)]; kernel_rfl) | (rw [if_neg (by decide +kernel)]; exact ⟨rfl, rfl⟩))
    (fun os started H enc _ => lifted os started H enc)

/-- the statement -/
theorem proved : Rows.FnStringKeySplitsAtSeamsSaid :=
  over
end Go.Proofs.Qxb6602127a.fnStringKeySplitsAtSeams
