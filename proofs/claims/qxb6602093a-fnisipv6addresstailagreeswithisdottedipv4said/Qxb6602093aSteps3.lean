import Derived.Test.Qxb6602093aSteps
namespace Go.Proofs.Qxb6602093a.Plain
set_option linter.unusedVariables false

theorem isH_iff (c : UInt8) : isH c = true ↔ (48 ≤ c.toNat ∧ c.toNat ≤ 57) ∨ (97 ≤ c.toNat ∧ c.toNat ≤ 102) ∨ (65 ≤ c.toNat ∧ c.toNat ≤ 70) := by
  unfold isH isD; simp; omega

theorem v6_end (s : ByteArray) (f p k : Nat) (z : Bool) (h : s.size ≤ k) : v6 (f + 1) p z (s.data.toList.drop k) = (z || ((p : Int) == 8)) := by
  rw [drop_end s k h, v6]
  have : (p == 8) = ((p : Int) == 8) := by rw [Bool.eq_iff_iff]; simp; omega
  rw [this]

theorem v6_full (s : ByteArray) (f p k : Nat) (z : Bool) (h : k < s.size) (hp : p = 8) : v6 (f + 1) p z (s.data.toList.drop k) = false := by
  rw [drop_cons s k h, v6]; simp [hp]

theorem v6_colon2 (s : ByteArray) (f p k : Nat) (h : k < s.size) (hp : p ≠ 8) (hc : s[k].toNat = 58) : v6 (f + 1) p true (s.data.toList.drop k) = false := by
  rw [drop_cons s k h, v6]; simp [hc]

theorem v6_colon (s : ByteArray) (f p k : Nat) (h : k < s.size) (hp : p ≠ 8) (hc : s[k].toNat = 58) : v6 (f + 1) p false (s.data.toList.drop k) = v6 f (p + 1) true (s.data.toList.drop (k + 1)) := by
  rw [drop_cons s k h, v6]; simp [hp, hc]

/-- what the round comes to behind the hex digits, which end at j -/
def behind (s : ByteArray) (f p k j : Nat) (z : Bool) : Bool :=
  match s.data.toList.drop j with
  | [] => v6 f (p + 1) z []
  | d :: u =>
    if d.toNat == 46 then
      if decide ((d :: u).length = (s.data.toList.drop k).length) || decide (6 < p) then false
      else dotted (s.data.toList.drop k) && (z || p + 2 == 8)
    else if d.toNat == 58 then
      if u.isEmpty then false else v6 f (p + 1) z u
    else false

theorem v6_hex (s : ByteArray) (f p k j : Nat) (z : Bool) (h : k < s.size) (hp : p ≠ 8) (hc : s[k].toNat ≠ 58) (hr : hexrun 4 (s.data.toList.drop k) = s.data.toList.drop j) :
    v6 (f + 1) p z (s.data.toList.drop k) = behind s f p k j z := by
  unfold behind
  rw [← hr, drop_cons s k h, v6, if_neg (by simpa using hp), if_neg (by simpa using hc)]
  cases hexrun 4 (s[k] :: List.drop (k + 1) s.data.toList) <;> rfl

theorem behind_end (s : ByteArray) (f p k j : Nat) (z : Bool) (h : s.size ≤ j) : behind s f p k j z = v6 f (p + 1) z (s.data.toList.drop j) := by
  unfold behind; rw [drop_end s j h]

theorem behind_dot_no (s : ByteArray) (f p k j : Nat) (z : Bool) (h : j < s.size) (hc : s[j].toNat = 46) (hn : j = k ∨ 6 < p) : behind s f p k j z = false := by
  unfold behind; rw [drop_cons s j h]
  simp only [hc]
  rw [if_pos (by rfl), if_pos ?_]
  rcases hn with rfl | hn
  · rw [drop_cons s j h]; simp
  · simp [hn]

theorem behind_dot (s : ByteArray) (f p k j : Nat) (z : Bool) (h : j < s.size) (hk : k < j) (hc : s[j].toNat = 46) (hp : p ≤ 6) : behind s f p k j z = (dotted (s.data.toList.drop k) && (z || ((p : Int) + 2 == 8))) := by
  unfold behind; rw [drop_cons s j h]
  simp only [hc]
  have : (p + 2 == 8) = ((p : Int) + 2 == 8) := by rw [Bool.eq_iff_iff]; simp; omega
  rw [if_pos (by rfl), if_neg ?_, this]
  rw [← drop_cons s j h]
  have e1 : s.data.toList.length = s.size := by simp
  simp only [List.length_drop, e1, Bool.or_eq_true, decide_eq_true_eq, not_or]
  omega

theorem behind_colon_end (s : ByteArray) (f p k j : Nat) (z : Bool) (h : j < s.size) (hc : s[j].toNat = 58) (he : j + 1 = s.size) : behind s f p k j z = false := by
  unfold behind; rw [drop_cons s j h, drop_end s (j + 1) (by omega)]
  simp only [hc]
  rw [if_neg (by decide), if_pos (by rfl)]; rfl

theorem behind_colon (s : ByteArray) (f p k j : Nat) (z : Bool) (h : j + 1 < s.size) (hc : s[j].toNat = 58) : behind s f p k j z = v6 f (p + 1) z (s.data.toList.drop (j + 1)) := by
  unfold behind; rw [drop_cons s j (by omega)]
  simp only [hc]
  rw [if_neg (by decide), if_pos (by rfl), if_neg ?_]
  rw [drop_cons s (j + 1) h]; simp

theorem behind_other (s : ByteArray) (f p k j : Nat) (z : Bool) (h : j < s.size) (h1 : s[j].toNat ≠ 46) (h2 : s[j].toNat ≠ 58) : behind s f p k j z = false := by
  unfold behind; rw [drop_cons s j h]
  simp [h1, h2]

theorem hex_go (s : ByteArray) (n j : Nat) (h : j < s.size) (hh : isH s[j] = true) : hexrun (n + 1) (s.data.toList.drop j) = hexrun n (s.data.toList.drop (j + 1)) := by
  rw [drop_cons s j h, hexrun, if_pos hh]

theorem hex_not (s : ByteArray) (n j : Nat) (h : j < s.size) (hh : isH s[j] = false) : hexrun n (s.data.toList.drop j) = s.data.toList.drop j := by
  cases n with
  | zero => rfl
  | succ n => rw [drop_cons s j h, hexrun, if_neg (by simp [hh])]

theorem hex_end (s : ByteArray) (n j : Nat) (h : s.size ≤ j) : hexrun n (s.data.toList.drop j) = s.data.toList.drop j := by
  rw [drop_end s j h]; cases n <;> rfl

theorem extract_drop (s : ByteArray) (k : Nat) : (s.extract k s.size).data.toList = s.data.toList.drop k := by
  rw [ByteArray.data_extract, Array.toList_extract]
  have e1 : s.data.toList.length = s.size := by simp
  simp [List.extract]
  rw [List.take_of_length_le (by simp)]

theorem hasDot_take (s : ByteArray) (k : Nat) (h : ∀ i (hi : i < s.size), i < k → s[i].toNat ≠ 46) (he : s.size ≤ k) : hasDot s.data.toList = false := by
  unfold hasDot
  rw [List.any_eq_false]
  intro x hx
  obtain ⟨i, hi, rfl⟩ := List.getElem_of_mem hx
  have e1 : s.data.toList.length = s.size := by simp
  have := h i (by omega) (by omega)
  simp
  exact this

theorem hasDot_at (s : ByteArray) (k : Nat) (h : k < s.size) (hc : s[k].toNat = 46) : hasDot s.data.toList = true := by
  unfold hasDot
  rw [List.any_eq_true]
  refine ⟨s[k], ?_, by simp [hc]⟩
  exact Array.getElem_mem_toList (by exact h)

end Go.Proofs.Qxb6602093a.Plain
