import Derived.Test.Qxb6602093aPlain
namespace Go.Proofs.Qxb6602093a.Plain

theorem drop_cons (s : ByteArray) (k : Nat) (h : k < s.size) : s.data.toList.drop k = s[k] :: s.data.toList.drop (k + 1) := by
  rw [List.drop_eq_getElem_cons (by simpa using h)]; rfl

theorem drop_end (s : ByteArray) (k : Nat) (h : s.size ≤ k) : s.data.toList.drop k = [] := by
  rw [List.drop_eq_nil_iff]; simpa using h

theorem outer_end (s : ByteArray) (f m k : Nat) (h : s.size ≤ k) : outer (f + 1) m (s.data.toList.drop k) = ((m : Int) == 4) := by
  rw [drop_end s k h, outer, Bool.eq_iff_iff]; simp; omega

theorem outer_nodot (s : ByteArray) (f m k : Nat) (h : k < s.size) (hm : 0 < m) (hc : s[k].toNat ≠ 46) : outer (f + 1) m (s.data.toList.drop k) = false := by
  rw [drop_cons s k h, outer]; simp [strip, hm, hc]

def cont (f m : Nat) (o : Option (List UInt8)) : Bool :=
  match o with
  | none => false
  | some l2 => outer f (m + 1) l2

theorem outer_dot (s : ByteArray) (f m k : Nat) (h : k < s.size) (hm : 0 < m) (hc1 : 46 ≤ s[k].toNat) (hc2 : s[k].toNat ≤ 46) :
    outer (f + 1) m (s.data.toList.drop k) = cont f m (number (s.data.toList.drop (k + 1))) := by
  have hc : s[k].toNat = 46 := by omega
  rw [drop_cons s k h, outer]; simp only [strip, hm, hc, if_true]; rfl

theorem outer_first (s : ByteArray) (f m k : Nat) (h : k < s.size) (hm : ¬ 0 < m) :
    outer (f + 1) m (s.data.toList.drop k) = cont f m (number (s.data.toList.drop k)) := by
  rw [drop_cons s k h, outer]; simp only [strip, hm, if_false]; rfl

theorem number_end (s : ByteArray) (p : Nat) (h : s.size ≤ p) : number (s.data.toList.drop p) = none := by
  rw [drop_end s p h]; rfl

theorem number_not (s : ByteArray) (p : Nat) (h : p < s.size) (hd : s[p].toNat < 48 ∨ 57 < s[p].toNat) : number (s.data.toList.drop p) = none := by
  rw [drop_cons s p h, number]
  have : isD s[p] = false := by unfold isD; simp; omega
  simp [this]

theorem number_in (s : ByteArray) (p : Nat) (h : p < s.size) (h1 : 48 ≤ s[p].toNat) (h2 : s[p].toNat ≤ 57) : number (s.data.toList.drop p) = inner (s[p].toNat == 48) 0 0 (s.data.toList.drop p) := by
  rw [drop_cons s p h, number]
  have : isD s[p] = true := by unfold isD; simp; omega
  simp [this]

theorem inner_end (s : ByteArray) (z : Bool) (k n j : Nat) (h : s.size ≤ j) : inner z k n (s.data.toList.drop j) = some (s.data.toList.drop j) := by
  rw [drop_end s j h]; rfl

theorem inner_not (s : ByteArray) (z : Bool) (k n j : Nat) (h : j < s.size) (hd : s[j].toNat < 48 ∨ 57 < s[j].toNat) : inner z k n (s.data.toList.drop j) = some (s.data.toList.drop j) := by
  rw [drop_cons s j h, inner]
  have : isD s[j] = false := by unfold isD; simp; omega
  simp [this]

theorem inner_zero (s : ByteArray) (z : Bool) (k n j : Nat) (h : j < s.size) (h1 : 48 ≤ s[j].toNat) (h2 : s[j].toNat ≤ 57) (hk : 0 < k) (hz : z = true) : inner z k n (s.data.toList.drop j) = none := by
  rw [drop_cons s j h, inner]
  have : isD s[j] = true := by unfold isD; simp; omega
  simp [this, hk, hz]

theorem inner_big (s : ByteArray) (z : Bool) (k n j : Nat) (h : j < s.size) (h1 : 48 ≤ s[j].toNat) (h2 : s[j].toNat ≤ 57) (hv : 255 < n * 10 + (s[j].toNat - 48)) : inner z k n (s.data.toList.drop j) = none := by
  rw [drop_cons s j h, inner]
  have : isD s[j] = true := by unfold isD; simp; omega
  rw [if_pos this]
  cases (decide (0 < k) && z)
  · rw [if_neg (by simp), if_pos hv]
  · rfl

theorem inner_go (s : ByteArray) (z : Bool) (k n j : Nat) (h : j < s.size) (h1 : 48 ≤ s[j].toNat) (h2 : s[j].toNat ≤ 57) (hk : k = 0 ∨ z = false) (hv : n * 10 + (s[j].toNat - 48) ≤ 255) :
    inner z k n (s.data.toList.drop j) = inner z (k + 1) (n * 10 + (s[j].toNat - 48)) (s.data.toList.drop (j + 1)) := by
  rw [drop_cons s j h, inner]
  have : isD s[j] = true := by unfold isD; simp; omega
  rw [if_pos this, if_neg (by rcases hk with hk | hk <;> simp [hk]), if_neg (by omega)]

end Go.Proofs.Qxb6602093a.Plain
