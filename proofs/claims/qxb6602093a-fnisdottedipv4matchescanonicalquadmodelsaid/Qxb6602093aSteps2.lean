import Derived.Test.Qxb6602093aSteps
namespace Go.Proofs.Qxb6602093a.Plain

def modelOf (o : Option (List Nat)) (l : List UInt8) : Bool :=
  match o with
  | some [a, b, c, d] => join a b c d == l
  | _ => false

theorem model_of (l : List UInt8) : model l = modelOf (mdl [] [] l) l := rfl

def cur (s : ByteArray) (st k : Nat) : List UInt8 := (s.data.toList.take k).drop st

def Inv (s : ByteArray) (k st : Nat) (vals : List Nat) (R : Option (List Nat)) : Prop :=
  (k ≤ s.size ∧ mdl vals (cur s st k) (s.data.toList.drop k) = R) ∨ (k = s.size + 1 ∧ some vals = R)

theorem inv_start (s : ByteArray) : Inv s 0 0 [] (mdl [] [] s.data.toList) := by
  left; exact ⟨by omega, by simp [cur]⟩

theorem cur_snoc (s : ByteArray) (st k : Nat) (h : k < s.size) (hst : st ≤ k) : cur s st (k + 1) = cur s st k ++ [s[k]] := by
  unfold cur
  rw [List.take_succ_eq_append_getElem (by simpa using h), List.drop_append]
  have : (List.take k s.data.toList).length = k := by
    rw [List.length_take]
    have : s.data.toList.length = s.size := by simp
    omega
  rw [this, show st - k = 0 from by omega]
  rfl

theorem cur_self (s : ByteArray) (k : Nat) : cur s k k = [] := by
  unfold cur; rw [List.drop_eq_nil_iff]; exact List.length_take_le _ _

theorem cur_len (s : ByteArray) (st k : Nat) (h : k ≤ s.size) : (cur s st k).length = k - st := by
  unfold cur; rw [List.length_drop, List.length_take]
  have : s.data.toList.length = s.size := by simp
  omega

theorem inv_skip (s : ByteArray) (k st : Nat) (vals : List Nat) (R : Option (List Nat)) (h : k < s.size) (hc : s[k].toNat ≠ 46) (hst : st ≤ k) (hi : Inv s k st vals R) : Inv s (k + 1) st vals R := by
  rcases hi with ⟨_, hi⟩ | ⟨hk, _⟩
  · left
    refine ⟨by omega, ?_⟩
    rw [drop_cons s k h, mdl, if_neg (by simpa using hc)] at hi
    rw [cur_snoc s st k h hst]; exact hi
  · omega

theorem inv_step (s : ByteArray) (k st : Nat) (vals : List Nat) (R : Option (List Nat)) (h : k ≤ s.size) (hc : ∀ hk : k < s.size, s[k].toNat = 46) (hi : Inv s k st vals R) :
    (vals.length = 4 → none = R) ∧ (fld (cur s st k) = none → none = R) ∧ ∀ v, vals.length ≠ 4 → fld (cur s st k) = some v → Inv s (k + 1) (k + 1) (vals ++ [v]) R := by
  rcases hi with ⟨_, hi⟩ | ⟨hk, _⟩
  · by_cases hk : k < s.size
    · have hc' := hc hk
      rw [drop_cons s k hk, mdl, if_pos (by simpa using hc')] at hi
      refine ⟨fun hl => ?_, fun hf => ?_, fun v hl hf => ?_⟩
      · rw [if_pos (by simpa using hl)] at hi; exact hi
      · by_cases hl : vals.length = 4
        · rw [if_pos (by simpa using hl)] at hi; exact hi
        · rw [if_neg (by simpa using hl), hf] at hi; exact hi
      · rw [if_neg (by simpa using hl), hf] at hi
        left; refine ⟨by omega, ?_⟩
        rw [cur_self]; exact hi
    · rw [drop_end s k (by omega), mdl] at hi
      refine ⟨fun hl => ?_, fun hf => ?_, fun v hl hf => ?_⟩
      · rw [if_pos (by simpa using hl)] at hi; exact hi
      · by_cases hl : vals.length = 4
        · rw [if_pos (by simpa using hl)] at hi; exact hi
        · rw [if_neg (by simpa using hl), hf] at hi; exact hi
      · rw [if_neg (by simpa using hl), hf] at hi
        right; exact ⟨by omega, hi⟩
  · omega

theorem inv_end (s : ByteArray) (k st : Nat) (vals : List Nat) (R : Option (List Nat)) (h : s.size < k) (hi : Inv s k st vals R) : some vals = R := by
  rcases hi with ⟨_, _⟩ | ⟨_, hi⟩
  · omega
  · exact hi

theorem cur_cons (s : ByteArray) (j k : Nat) (h : j < k) (hk : k ≤ s.size) : cur s j k = s[j] :: cur s (j + 1) k := by
  unfold cur
  have hl : (List.take k s.data.toList).length = k := by
    rw [List.length_take]
    have : s.data.toList.length = s.size := by simp
    omega
  rw [List.drop_eq_getElem_cons (by omega)]
  congr 1
  rw [List.getElem_take]; rfl

theorem vald_not (s : ByteArray) (n j k : Nat) (h : j < k) (hk : k ≤ s.size) (hd : s[j].toNat < 48 ∨ 57 < s[j].toNat) : vald n (cur s j k) = none := by
  rw [cur_cons s j k h hk, vald]
  have : isD s[j] = false := by unfold isD; simp; omega
  simp [this]

theorem vald_go (s : ByteArray) (n j k : Nat) (h : j < k) (hk : k ≤ s.size) (h1 : 48 ≤ s[j].toNat) (h2 : s[j].toNat ≤ 57) : vald n (cur s j k) = vald (n * 10 + (s[j].toNat - 48)) (cur s (j + 1) k) := by
  rw [cur_cons s j k h hk, vald]
  have : isD s[j] = true := by unfold isD; simp; omega
  simp [this]

theorem vald_end (s : ByteArray) (n k : Nat) : vald n (cur s k k) = some n := by
  rw [cur_self]; rfl

theorem fld_short (s : ByteArray) (st k : Nat) (hk : k ≤ s.size) (h : k - st < 1 ∨ 3 < k - st) : fld (cur s st k) = none := by
  unfold fld
  rw [cur_len s st k hk]
  rcases h with h | h
  · rw [if_pos h]
  · rw [if_neg (by omega), if_pos h]

theorem fld_not (s : ByteArray) (st k : Nat) (h : vald 0 (cur s st k) = none) : fld (cur s st k) = none := by
  unfold fld; rw [h]; split
  · rfl
  · split <;> rfl

theorem fld_big (s : ByteArray) (st k v : Nat) (h : vald 0 (cur s st k) = some v) (hv : 255 < v) : fld (cur s st k) = none := by
  unfold fld; rw [h]; split
  · rfl
  · split
    · rfl
    · simp [hv]

theorem fld_some (s : ByteArray) (st k v : Nat) (hk : k ≤ s.size) (h1 : ¬ k - st < 1) (h3 : ¬ 3 < k - st) (h : vald 0 (cur s st k) = some v) (hv : v ≤ 255) : fld (cur s st k) = some v := by
  unfold fld; rw [cur_len s st k hk, if_neg h1, if_neg h3, h]; simp; omega

theorem modelOf_short (a b c d F : Nat) (h : F ≤ 4) (h4 : ¬ F = 4) (l : List UInt8) : modelOf (some ([a, b, c, d].take F)) l = false := by
  have : F = 0 ∨ F = 1 ∨ F = 2 ∨ F = 3 := by omega
  rcases this with rfl | rfl | rfl | rfl <;> rfl

end Go.Proofs.Qxb6602093a.Plain
