namespace Go.Proofs.Qxb6602093a.Plain

def isD (c : UInt8) : Bool := decide (48 ≤ c.toNat) && decide (c.toNat ≤ 57)

/-- the digits of one number: 'z': its first byte is 0; 'k': how many are read; 'n': their value -/
def inner (z : Bool) : Nat → Nat → List UInt8 → Option (List UInt8)
  | _, _, [] => some []
  | k, n, c :: t =>
    if isD c then
      if decide (0 < k) && z then none
      else if 255 < n * 10 + (c.toNat - 48) then none
      else inner z (k + 1) (n * 10 + (c.toNat - 48)) t
    else some (c :: t)

def number (l : List UInt8) : Option (List UInt8) :=
  match l with
  | [] => none
  | c :: t => if isD c then inner (c.toNat == 48) 0 0 (c :: t) else none

def strip (m : Nat) (l : List UInt8) : Option (List UInt8) :=
  match l with
  | [] => none
  | c :: t => if 0 < m then (if c.toNat == 46 then some t else none) else some (c :: t)

def outer : Nat → Nat → List UInt8 → Bool
  | 0, _, _ => false
  | _ + 1, m, [] => m == 4
  | f + 1, m, c :: t =>
    match strip m (c :: t) with
    | none => false
    | some l1 =>
      match number l1 with
      | none => false
      | some l2 => outer f (m + 1) l2

def dotted (l : List UInt8) : Bool := outer (l.length + 1) 0 l

/-! the canonical decimal -/
def dg (n : Nat) : UInt8 := UInt8.ofNat (48 + n)

def utoa (v : Nat) : List UInt8 :=
  if v < 10 then [dg v] else if v < 100 then [dg (v / 10), dg (v % 10)] else [dg (v / 100), dg (v / 10 % 10), dg (v % 10)]

theorem dg_nat (n : Nat) (h : n < 10) : (dg n).toNat = 48 + n := by
  unfold dg; simp; omega

theorem isD_dg (n : Nat) (h : n < 10) : isD (dg n) = true := by
  unfold isD; rw [dg_nat n h]; simp; omega

theorem dg_of (c : UInt8) (h : isD c = true) : c = dg (c.toNat - 48) := by
  unfold isD at h
  simp at h
  apply UInt8.toNat_inj.1
  rw [dg_nat _ (by omega)]; omega

theorem isD_bd (c : UInt8) (h : isD c = true) : 48 ≤ c.toNat ∧ c.toNat ≤ 57 := by
  unfold isD at h; simpa using h

def nd (r : List UInt8) : Prop := ∀ c t, r = c :: t → isD c = false

theorem nd_nil : nd [] := by intro c t h; cases h
theorem nd_cons (c : UInt8) (t : List UInt8) (h : isD c = false) : nd (c :: t) := by
  intro c' t' e; cases e; exact h

theorem inner_nd (z : Bool) (k n : Nat) (r : List UInt8) (h : nd r) : inner z k n r = some r := by
  cases r with
  | nil => rfl
  | cons c t => simp [inner, h c t rfl]

theorem inner_stop (z : Bool) (k n : Nat) (r r' : List UInt8) (h : 100 ≤ n) (e : inner z k n r = some r') : r' = r ∧ nd r := by
  cases r with
  | nil => simp [inner] at e; exact ⟨e, nd_nil⟩
  | cons c t =>
    unfold inner at e
    cases hd : isD c with
    | false => rw [hd] at e; simp at e; exact ⟨e.symm, nd_cons _ _ hd⟩
    | true =>
      rw [hd] at e
      rw [if_pos rfl] at e
      cases hz : (decide (0 < k) && z) with
      | true => rw [hz] at e; simp at e
      | false => rw [hz, if_neg (by simp), if_pos (by omega)] at e; cases e

theorem number_some (l r : List UInt8) (e : number l = some r) : ∃ v, v ≤ 255 ∧ l = utoa v ++ r ∧ nd r := by
  cases l with
  | nil => simp [number] at e
  | cons c t =>
    unfold number at e
    cases hc : isD c with
    | false => simp [hc] at e
    | true =>
      have hb := isD_bd c hc
      have hcd := dg_of c hc
      simp only [hc, if_true] at e
      unfold inner at e
      rw [if_pos hc, if_neg (by simp), if_neg (by omega)] at e
      cases t with
      | nil =>
        simp [inner] at e
        subst e
        refine ⟨c.toNat - 48, by omega, ?_, nd_nil⟩
        unfold utoa; rw [if_pos (by omega)]; simp [← hcd]
      | cons c1 t1 =>
        unfold inner at e
        cases hc1 : isD c1 with
        | false =>
          simp [hc1] at e
          refine ⟨c.toNat - 48, by omega, ?_, by rw [← e]; exact nd_cons _ _ hc1⟩
          rw [← e]; unfold utoa; rw [if_pos (by omega)]; simp [← hcd]
        | true =>
          have hb1 := isD_bd c1 hc1
          have hcd1 := dg_of c1 hc1
          rw [if_pos hc1] at e
          cases hz : (c.toNat == 48) with
          | true => simp [hz] at e
          | false =>
            rw [hz] at e
            have hz' : c.toNat ≠ 48 := by simpa using hz
            rw [if_neg (by simp), if_neg (by omega)] at e
            cases t1 with
            | nil =>
              simp [inner] at e
              subst e
              refine ⟨(c.toNat - 48) * 10 + (c1.toNat - 48), by omega, ?_, nd_nil⟩
              unfold utoa; rw [if_neg (by omega), if_pos (by omega)]
              rw [show ((c.toNat - 48) * 10 + (c1.toNat - 48)) / 10 = c.toNat - 48 from by omega, show ((c.toNat - 48) * 10 + (c1.toNat - 48)) % 10 = c1.toNat - 48 from by omega, ← hcd, ← hcd1]; rfl
            | cons c2 t2 =>
              unfold inner at e
              cases hc2 : isD c2 with
              | false =>
                simp [hc2] at e
                refine ⟨(c.toNat - 48) * 10 + (c1.toNat - 48), by omega, ?_, by rw [← e]; exact nd_cons _ _ hc2⟩
                rw [← e]; unfold utoa; rw [if_neg (by omega), if_pos (by omega)]
                rw [show ((c.toNat - 48) * 10 + (c1.toNat - 48)) / 10 = c.toNat - 48 from by omega, show ((c.toNat - 48) * 10 + (c1.toNat - 48)) % 10 = c1.toNat - 48 from by omega, ← hcd, ← hcd1]; rfl
              | true =>
                have hb2 := isD_bd c2 hc2
                have hcd2 := dg_of c2 hc2
                rw [if_pos hc2, if_neg (by simp)] at e
                by_cases hv : 255 < ((0 * 10 + (c.toNat - 48)) * 10 + (c1.toNat - 48)) * 10 + (c2.toNat - 48)
                · rw [if_pos hv] at e; cases e
                · rw [if_neg hv] at e
                  obtain ⟨rfl, hn⟩ := inner_stop _ _ _ _ _ (by omega) e
                  refine ⟨((c.toNat - 48) * 10 + (c1.toNat - 48)) * 10 + (c2.toNat - 48), by omega, ?_, hn⟩
                  unfold utoa; rw [if_neg (by omega), if_neg (by omega)]
                  generalize hx : c.toNat - 48 = x at *
                  generalize hy : c1.toNat - 48 = y at *
                  generalize hw : c2.toNat - 48 = u at *
                  rw [show ((x * 10 + y) * 10 + u) / 100 = x from by omega, show ((x * 10 + y) * 10 + u) / 10 % 10 = y from by omega, show ((x * 10 + y) * 10 + u) % 10 = u from by omega, ← hcd, ← hcd1, ← hcd2]; rfl

theorem number_of (v : Nat) (r : List UInt8) (hv : v ≤ 255) (h : nd r) : number (utoa v ++ r) = some r := by
  unfold utoa
  by_cases h1 : v < 10
  · rw [if_pos h1]
    simp only [List.cons_append, List.nil_append, number, isD_dg v h1, if_true]
    unfold inner
    rw [if_pos (isD_dg v h1), if_neg (by simp), dg_nat v h1, if_neg (by omega)]
    exact inner_nd _ _ _ _ h
  · rw [if_neg h1]
    by_cases h2 : v < 100
    · rw [if_pos h2]
      simp only [List.cons_append, List.nil_append, number, isD_dg (v / 10) (by omega), if_true]
      unfold inner
      rw [if_pos (isD_dg _ (by omega)), if_neg (by simp), dg_nat (v / 10) (by omega), if_neg (by omega)]
      unfold inner
      rw [if_pos (isD_dg _ (by omega)), if_neg (by simp; omega), dg_nat (v % 10) (by omega), if_neg (by omega)]
      exact inner_nd _ _ _ _ h
    · rw [if_neg h2]
      simp only [List.cons_append, List.nil_append, number, isD_dg (v / 100) (by omega), if_true]
      unfold inner
      rw [if_pos (isD_dg _ (by omega)), if_neg (by simp), dg_nat (v / 100) (by omega), if_neg (by omega)]
      unfold inner
      rw [if_pos (isD_dg _ (by omega)), if_neg (by simp; omega), dg_nat (v / 10 % 10) (by omega), if_neg (by omega)]
      unfold inner
      rw [if_pos (isD_dg _ (by omega)), if_neg (by simp; omega), dg_nat (v % 10) (by omega), if_neg (by omega)]
      exact inner_nd _ _ _ _ h

/-! the four numbers -/
def join (a b c d : Nat) : List UInt8 := utoa a ++ 46 :: (utoa b ++ 46 :: (utoa c ++ 46 :: utoa d))

theorem utoa_cons (v : Nat) : ∃ c t, utoa v = c :: t ∧ True := by
  unfold utoa; split
  · exact ⟨_, _, rfl, trivial⟩
  · split <;> exact ⟨_, _, rfl, trivial⟩

theorem outer_cons (f m : Nat) (c : UInt8) (t l1 l2 : List UInt8) (h1 : strip m (c :: t) = some l1) (h2 : number l1 = some l2) :
    outer (f + 1) m (c :: t) = outer f (m + 1) l2 := by
  simp only [outer, h1, h2]

theorem outer_inv (f m : Nat) (l : List UInt8) (h : outer f m l = true) :
    (l = [] ∧ m = 4) ∨ ∃ f' l1 l2, strip m l = some l1 ∧ number l1 = some l2 ∧ outer f' (m + 1) l2 = true := by
  cases f with
  | zero => simp [outer] at h
  | succ f =>
    cases l with
    | nil => left; simp [outer] at h; exact ⟨rfl, h⟩
    | cons c t =>
      right
      unfold outer at h
      cases h1 : strip m (c :: t) with
      | none => rw [h1] at h; simp at h
      | some l1 =>
        rw [h1] at h
        cases h2 : number l1 with
        | none => simp [h2] at h
        | some l2 => simp only [h2] at h; exact ⟨f, l1, l2, rfl, h2, h⟩

theorem outer_many (f : Nat) : ∀ m l, 5 ≤ m → outer f m l = false := by
  induction f with
  | zero => intros; rfl
  | succ f ih =>
    intro m l hm
    cases hh : outer (f + 1) m l with
    | false => rfl
    | true =>
      cases l with
      | nil => simp [outer] at hh; omega
      | cons c t =>
        unfold outer at hh
        cases h1 : strip m (c :: t) with
        | none => rw [h1] at hh; simp at hh
        | some l1 =>
          rw [h1] at hh
          cases h2 : number l1 with
          | none => simp [h2] at hh
          | some l2 => simp only [h2] at hh; rw [ih _ _ (by omega)] at hh; cases hh

theorem strip_pos (m : Nat) (l l1 : List UInt8) (hm : 0 < m) (h : strip m l = some l1) : l = 46 :: l1 := by
  cases l with
  | nil => simp [strip] at h
  | cons c t =>
    unfold strip at h
    simp only [hm, if_true] at h
    by_cases hc : c.toNat == 46
    · simp only [hc, if_true, Option.some.injEq] at h
      have : c = 46 := UInt8.toNat_inj.1 (by simpa using hc)
      rw [this, h]
    · simp [hc] at h

theorem dotted_inv (l : List UInt8) (h : dotted l = true) : ∃ a b c d, a ≤ 255 ∧ b ≤ 255 ∧ c ≤ 255 ∧ d ≤ 255 ∧ l = join a b c d := by
  unfold dotted at h
  rcases outer_inv _ _ _ h with ⟨_, h'⟩ | ⟨f1, l1, l2, s1, n1, o1⟩
  · cases h'
  rcases outer_inv _ _ _ o1 with ⟨_, h'⟩ | ⟨f2, l3, l4, s2, n2, o2⟩
  · cases h'
  rcases outer_inv _ _ _ o2 with ⟨_, h'⟩ | ⟨f3, l5, l6, s3, n3, o3⟩
  · cases h'
  rcases outer_inv _ _ _ o3 with ⟨_, h'⟩ | ⟨f4, l7, l8, s4, n4, o4⟩
  · cases h'
  rcases outer_inv _ _ _ o4 with ⟨e8, _⟩ | ⟨f5, l9, l10, s5, n5, o5⟩
  · have e1 : l = l1 := by
      cases l with
      | nil => simp [strip] at s1
      | cons c t => simp [strip] at s1; exact s1
    have e2 := strip_pos _ _ _ (by omega) s2
    have e3 := strip_pos _ _ _ (by omega) s3
    have e4 := strip_pos _ _ _ (by omega) s4
    obtain ⟨a, ha, ea, _⟩ := number_some _ _ n1
    obtain ⟨b, hb, eb, _⟩ := number_some _ _ n2
    obtain ⟨c, hc, ec, _⟩ := number_some _ _ n3
    obtain ⟨d, hd, ed, _⟩ := number_some _ _ n4
    refine ⟨a, b, c, d, ha, hb, hc, hd, ?_⟩
    subst e8
    unfold join
    rw [e1, ea, e2, eb, e3, ec, e4, ed]; simp
  · rw [outer_many _ _ _ (by omega)] at o5; cases o5

theorem isD_dot : isD 46 = false := by decide

theorem utoa_len (v : Nat) : 1 ≤ (utoa v).length := by
  unfold utoa; split
  · simp
  · split <;> simp

theorem outer_pos (f m v : Nat) (r : List UInt8) (hm : 0 < m) (hv : v ≤ 255) (hr : nd r) : outer (f + 1) m (46 :: (utoa v ++ r)) = outer f (m + 1) r :=
  outer_cons f m 46 (utoa v ++ r) (utoa v ++ r) r (by simp [strip, hm]) (number_of v r hv hr)

theorem outer_zero (f v : Nat) (r : List UInt8) (hv : v ≤ 255) (hr : nd r) : outer (f + 1) 0 (utoa v ++ r) = outer f 1 r := by
  obtain ⟨c, t, e, _⟩ := utoa_cons v
  rw [e]
  refine outer_cons f 0 c (t ++ r) (c :: (t ++ r)) r (by simp [strip]) ?_
  have := number_of v r hv hr
  rw [e] at this
  exact this

theorem dotted_join (a b c d : Nat) (ha : a ≤ 255) (hb : b ≤ 255) (hc : c ≤ 255) (hd : d ≤ 255) : dotted (join a b c d) = true := by
  have key : ∀ f, outer (f + 5) 0 (join a b c d) = true := by
    intro f
    unfold join
    rw [outer_zero _ a _ ha (nd_cons _ _ isD_dot), outer_pos _ _ b _ (by omega) hb (nd_cons _ _ isD_dot), outer_pos _ _ c _ (by omega) hc (nd_cons _ _ isD_dot)]
    have := outer_pos (f + 1) 3 d [] (by omega) hd nd_nil
    rw [List.append_nil] at this
    rw [this]; rfl
  unfold dotted
  have hl : 4 ≤ (join a b c d).length := by
    unfold join
    have := utoa_len a; have := utoa_len b; have := utoa_len c; have := utoa_len d
    simp; omega
  obtain ⟨f, hf⟩ : ∃ f, (join a b c d).length + 1 = f + 5 := ⟨(join a b c d).length - 4, by omega⟩
  rw [hf]; exact key f

/-! the model -/
def vald : Nat → List UInt8 → Option Nat
  | n, [] => some n
  | n, c :: t => if isD c then vald (n * 10 + (c.toNat - 48)) t else none

def fld (cur : List UInt8) : Option Nat :=
  if cur.length < 1 then none else if 3 < cur.length then none else
  match vald 0 cur with
  | none => none
  | some v => if 255 < v then none else some v

def mdl : List Nat → List UInt8 → List UInt8 → Option (List Nat)
  | vals, cur, [] => if vals.length == 4 then none else (fld cur).map (fun v => vals ++ [v])
  | vals, cur, c :: t =>
    if c.toNat == 46 then
      if vals.length == 4 then none else
      match fld cur with
      | none => none
      | some v => mdl (vals ++ [v]) [] t
    else mdl vals (cur ++ [c]) t

def model (l : List UInt8) : Bool :=
  match mdl [] [] l with
  | some [a, b, c, d] => join a b c d == l
  | _ => false

theorem vald_dg (n v : Nat) (t : List UInt8) (h : v < 10) : vald n (dg v :: t) = vald (n * 10 + v) t := by
  simp [vald, isD_dg v h, dg_nat v h]

theorem fld_utoa (v : Nat) (hv : v ≤ 255) : fld (utoa v) = some v := by
  unfold utoa
  by_cases h1 : v < 10
  · rw [if_pos h1]; unfold fld; rw [vald_dg _ _ _ h1]; simp [vald]; omega
  · rw [if_neg h1]
    by_cases h2 : v < 100
    · rw [if_pos h2]; unfold fld; rw [vald_dg _ _ _ (by omega), vald_dg _ _ _ (by omega)]; simp [vald]; omega
    · rw [if_neg h2]; unfold fld; rw [vald_dg _ _ _ (by omega), vald_dg _ _ _ (by omega), vald_dg _ _ _ (by omega)]; simp [vald]; omega

theorem mdl_app (vals : List Nat) (ds : List UInt8) : ∀ (cur r : List UInt8), (∀ c ∈ ds, c.toNat ≠ 46) → mdl vals cur (ds ++ r) = mdl vals (cur ++ ds) r := by
  induction ds with
  | nil => intro cur r _; simp
  | cons c t ih =>
    intro cur r h
    have hc : c.toNat ≠ 46 := h c (by simp)
    rw [List.cons_append, mdl, if_neg (by simpa using hc), ih (cur ++ [c]) r (fun x hx => h x (by simp [hx])), List.append_assoc]
    rfl

theorem utoa_nodot (v : Nat) (hv : v ≤ 255) : ∀ c ∈ utoa v, c.toNat ≠ 46 := by
  intro c hc
  have : ∃ n, n < 10 ∧ c = dg n := by
    unfold utoa at hc
    by_cases h1 : v < 10
    · rw [if_pos h1] at hc; simp at hc; exact ⟨_, h1, hc⟩
    · rw [if_neg h1] at hc
      by_cases h2 : v < 100
      · rw [if_pos h2] at hc; simp at hc; rcases hc with h | h
        · exact ⟨_, by omega, h⟩
        · exact ⟨_, by omega, h⟩
      · rw [if_neg h2] at hc; simp at hc; rcases hc with h | h | h
        · exact ⟨v / 100, by omega, h⟩
        · exact ⟨_, by omega, h⟩
        · exact ⟨_, by omega, h⟩
  obtain ⟨n, hn, rfl⟩ := this
  rw [dg_nat n hn]; omega

theorem mdl_step (vals : List Nat) (v : Nat) (r : List UInt8) (hv : v ≤ 255) (hl : vals.length < 4) : mdl vals [] (utoa v ++ 46 :: r) = mdl (vals ++ [v]) [] r := by
  rw [mdl_app _ _ _ _ (utoa_nodot v hv), List.nil_append]
  rw [mdl]
  rw [if_pos (by rfl), if_neg (by simp; omega), fld_utoa v hv]

theorem mdl_last (vals : List Nat) (v : Nat) (hv : v ≤ 255) (hl : vals.length < 4) : mdl vals [] (utoa v) = some (vals ++ [v]) := by
  have := mdl_app vals (utoa v) [] [] (utoa_nodot v hv)
  rw [List.append_nil, List.nil_append] at this
  rw [this, mdl, if_neg (by simp; omega), fld_utoa v hv]; rfl

theorem model_join (a b c d : Nat) (ha : a ≤ 255) (hb : b ≤ 255) (hc : c ≤ 255) (hd : d ≤ 255) : model (join a b c d) = true := by
  have e : mdl [] [] (join a b c d) = some [a, b, c, d] := by
    unfold join
    rw [mdl_step _ a _ ha (by simp), mdl_step _ b _ hb (by simp), mdl_step _ c _ hc (by simp), mdl_last _ d hd (by simp)]; rfl
  unfold model
  rw [e]; simp

theorem fld_le (cur : List UInt8) (v : Nat) (h : fld cur = some v) : v ≤ 255 := by
  unfold fld at h
  split at h
  · cases h
  · split at h
    · cases h
    · split at h
      · cases h
      · split at h
        · cases h
        · simp at h; omega

theorem mdl_le (l : List UInt8) : ∀ (vals : List Nat) (cur : List UInt8) (r : List Nat), (∀ x ∈ vals, x ≤ 255) → mdl vals cur l = some r → ∀ x ∈ r, x ≤ 255 := by
  induction l with
  | nil =>
    intro vals cur r hv h x hx
    unfold mdl at h
    split at h
    · cases h
    · cases hf : fld cur with
      | none => rw [hf] at h; cases h
      | some v =>
        rw [hf] at h
        simp at h
        subst h
        simp at hx
        rcases hx with hx | hx
        · exact hv x hx
        · rw [hx]; exact fld_le _ _ hf
  | cons c t ih =>
    intro vals cur r hv h
    unfold mdl at h
    split at h
    · split at h
      · cases h
      · cases hf : fld cur with
        | none => rw [hf] at h; cases h
        | some v =>
          rw [hf] at h
          refine ih _ _ _ ?_ h
          intro x hx
          simp at hx
          rcases hx with hx | hx
          · exact hv x hx
          · rw [hx]; exact fld_le _ _ hf
    · exact ih _ _ _ hv h

theorem model_inv (l : List UInt8) (h : model l = true) : ∃ a b c d, a ≤ 255 ∧ b ≤ 255 ∧ c ≤ 255 ∧ d ≤ 255 ∧ l = join a b c d := by
  unfold model at h
  split at h
  · rename_i a b c d e
    have hx := mdl_le l [] [] _ (by simp) e
    exact ⟨a, b, c, d, hx a (by simp), hx b (by simp), hx c (by simp), hx d (by simp), by simpa using (beq_iff_eq.1 h).symm⟩
  · cases h

theorem dotted_eq_model (l : List UInt8) : dotted l = model l := by
  rw [Bool.eq_iff_iff]
  constructor
  · intro h
    obtain ⟨a, b, c, d, ha, hb, hc, hd, rfl⟩ := dotted_inv l h
    exact model_join a b c d ha hb hc hd
  · intro h
    obtain ⟨a, b, c, d, ha, hb, hc, hd, rfl⟩ := model_inv l h
    exact dotted_join a b c d ha hb hc hd


def isH (c : UInt8) : Bool := isD c || (decide (97 ≤ c.toNat) && decide (c.toNat ≤ 102)) || (decide (65 ≤ c.toNat) && decide (c.toNat ≤ 70))

def hexrun : Nat → List UInt8 → List UInt8
  | 0, l => l
  | _ + 1, [] => []
  | k + 1, c :: t => if isH c then hexrun k t else c :: t

def v6 : Nat → Nat → Bool → List UInt8 → Bool
  | 0, _, _, _ => false
  | _ + 1, p, z, [] => z || p == 8
  | f + 1, p, z, c :: t =>
    if p == 8 then false
    else if c.toNat == 58 then (if z then false else v6 f (p + 1) true t)
    else
      match hexrun 4 (c :: t) with
      | [] => v6 f (p + 1) z []
      | d :: u =>
        if d.toNat == 46 then
          if decide ((d :: u).length = (c :: t).length) || decide (6 < p) then false
          else dotted (c :: t) && (z || p + 2 == 8)
        else if d.toNat == 58 then
          if u.isEmpty then false else v6 f (p + 1) z u
        else false

def ipv6 (l : List UInt8) : Bool :=
  if l.take 2 == [58, 58] then v6 (l.length + 1) 1 true (l.drop 2)
  else if l.take 1 == [58] then false
  else v6 (l.length + 1) 0 false l

def hasDot (l : List UInt8) : Bool := l.any (fun c => c.toNat == 46)

theorem hasDot_hexrun (k : Nat) : ∀ l, hasDot l = true → hasDot (hexrun k l) = true := by
  induction k with
  | zero => intro l h; exact h
  | succ k ih =>
    intro l h
    cases l with
    | nil => simp [hasDot] at h
    | cons c t =>
      unfold hexrun
      cases hc : isH c with
      | false => simpa using h
      | true =>
        simp only [if_true]
        apply ih
        unfold hasDot at h ⊢
        rw [List.any_cons] at h
        have : (c.toNat == 46) = false := by
          unfold isH isD at hc
          simp at hc ⊢
          omega
        simpa [this] using h

theorem v6_late (f : Nat) : ∀ p z l, 7 ≤ p → hasDot l = true → v6 f p z l = false := by
  induction f with
  | zero => intros; rfl
  | succ f ih =>
    intro p z l hp h
    cases l with
    | nil => simp [hasDot] at h
    | cons c t =>
      unfold v6
      by_cases h8 : (p == 8) = true
      · rw [if_pos h8]
      rw [if_neg h8]
      by_cases hc : (c.toNat == 58) = true
      · rw [if_pos hc]
        cases z with
        | true => rfl
        | false =>
          have ht : hasDot t = true := by
            unfold hasDot at h ⊢
            rw [List.any_cons] at h
            have : (c.toNat == 46) = false := by simp at hc ⊢; omega
            simpa [this] using h
          simpa using ih (p + 1) true t (by omega) ht
      rw [if_neg hc]
      have hr := hasDot_hexrun 4 _ h
      cases he : hexrun 4 (c :: t) with
      | nil => rw [he] at hr; simp [hasDot] at hr
      | cons d u =>
        simp only []
        by_cases hd : (d.toNat == 46) = true
        · rw [if_pos hd, if_pos (by simp; omega)]
        rw [if_neg hd]
        by_cases hd5 : (d.toNat == 58) = true
        · rw [if_pos hd5]
          have hu : hasDot u = true := by
            rw [he] at hr
            unfold hasDot at hr ⊢
            rw [List.any_cons] at hr
            simpa [hd] using hr
          cases u with
          | nil => rfl
          | cons x y => simpa using ih (p + 1) z _ (by omega) hu
        · rw [if_neg hd5]

theorem isH_dg (n : Nat) (h : n < 10) : isH (dg n) = true := by
  unfold isH; rw [isD_dg n h]; rfl

theorem isH_dot : isH 46 = false := by decide

theorem hexrun_utoa (v : Nat) (hv : v ≤ 255) (r : List UInt8) : hexrun 4 (utoa v ++ 46 :: r) = 46 :: r := by
  unfold utoa
  by_cases h1 : v < 10
  · rw [if_pos h1]; simp [hexrun, isH_dg v h1, isH_dot]
  · rw [if_neg h1]
    by_cases h2 : v < 100
    · rw [if_pos h2]; simp [hexrun, isH_dg (v / 10) (by omega), isH_dg (v % 10) (by omega), isH_dot]
    · rw [if_neg h2]; simp [hexrun, isH_dg (v / 100) (by omega), isH_dg (v / 10 % 10) (by omega), isH_dg (v % 10) (by omega), isH_dot]

theorem utoa_head (v : Nat) (hv : v ≤ 255) : ∃ c t, utoa v = c :: t ∧ 48 ≤ c.toNat ∧ c.toNat ≤ 57 := by
  unfold utoa
  by_cases h1 : v < 10
  · rw [if_pos h1]; exact ⟨_, _, rfl, by rw [dg_nat _ h1]; omega, by rw [dg_nat _ h1]; omega⟩
  · rw [if_neg h1]
    by_cases h2 : v < 100
    · rw [if_pos h2]; exact ⟨_, _, rfl, by rw [dg_nat _ (by omega)]; omega, by rw [dg_nat _ (by omega)]; omega⟩
    · rw [if_neg h2]; exact ⟨_, _, rfl, by rw [dg_nat _ (by omega)]; omega, by rw [dg_nat _ (by omega)]; omega⟩

theorem v6_six (f : Nat) (l : List UInt8) (h : hasDot l = true) : v6 (f + 1) 6 false l = dotted l := by
  cases l with
  | nil => simp [hasDot] at h
  | cons c t =>
    cases hdt : dotted (c :: t) with
    | true =>
      obtain ⟨a, b, c', d, ha, hb, hc, hd, e⟩ := dotted_inv _ hdt
      have hx : hexrun 4 (c :: t) = 46 :: (utoa b ++ 46 :: (utoa c' ++ 46 :: utoa d)) := by
        rw [e]; exact hexrun_utoa a ha _
      obtain ⟨c0, t0, e0, hc1, hc2⟩ := utoa_head a ha
      have hcc : c = c0 := by
        unfold join at e
        rw [e0] at e
        simp at e; exact e.1
      have hlen : ¬ (46 :: (utoa b ++ 46 :: (utoa c' ++ 46 :: utoa d))).length = (c :: t).length := by
        rw [e]; unfold join; rw [e0]; simp; omega
      unfold v6
      rw [if_neg (by simp), if_neg (by rw [hcc]; simp; omega), hx]
      simp only []
      rw [if_pos (by rfl), if_neg (by simp at hlen ⊢; exact hlen), hdt]; rfl
    | false =>
      unfold v6
      rw [if_neg (by simp)]
      by_cases hc : (c.toNat == 58) = true
      · rw [if_pos hc]
        have ht : hasDot t = true := by
          unfold hasDot at h ⊢
          rw [List.any_cons] at h
          have : (c.toNat == 46) = false := by simp at hc ⊢; omega
          simpa [this] using h
        simpa using v6_late f 7 true t (by omega) ht
      rw [if_neg hc]
      have hr := hasDot_hexrun 4 _ h
      cases he : hexrun 4 (c :: t) with
      | nil => rw [he] at hr; simp [hasDot] at hr
      | cons d u =>
        simp only []
        by_cases hd : (d.toNat == 46) = true
        · rw [if_pos hd, hdt]; split <;> rfl
        rw [if_neg hd]
        by_cases hd5 : (d.toNat == 58) = true
        · rw [if_pos hd5]
          have hu : hasDot u = true := by
            rw [he] at hr
            unfold hasDot at hr ⊢
            rw [List.any_cons] at hr
            simpa [hd] using hr
          cases u with
          | nil => rfl
          | cons x y => simpa using v6_late f 7 false _ (by omega) hu
        · rw [if_neg hd5]

def pre : List UInt8 := [49, 58, 50, 58, 51, 58, 52, 58, 53, 58, 54, 58]

theorem v6_group (f p : Nat) (c : UInt8) (l : List UInt8) (hc : isH c = true) (h5 : (c.toNat == 58) = false) (hp : (p == 8) = false) (hl : l.isEmpty = false) :
    v6 (f + 1) p false (c :: 58 :: l) = v6 f (p + 1) false l := by
  have hx : hexrun 4 (c :: 58 :: l) = 58 :: l := by
    simp [hexrun, hc, show isH 58 = false from by decide]
  rw [v6, if_neg (by simp [hp]), if_neg (by simp [h5]), hx]
  simp only []
  rw [if_neg (by decide), if_pos (by rfl), if_neg (by simp [hl])]

theorem ipv6_tail (l : List UInt8) (h : hasDot l = true) : ipv6 (pre ++ l) = dotted l := by
  have hl : l.isEmpty = false := by cases l with
    | nil => simp [hasDot] at h
    | cons c t => rfl
  unfold ipv6
  rw [if_neg (by simp [pre]), if_neg (by simp [pre])]
  have e : (pre ++ l).length + 1 = l.length + 6 + 1 + 1 + 1 + 1 + 1 + 1 + 1 := by simp [pre]
  rw [e]
  show v6 _ 0 false (49 :: 58 :: (50 :: 58 :: (51 :: 58 :: (52 :: 58 :: (53 :: 58 :: (54 :: 58 :: l)))))) = _
  rw [v6_group _ _ _ _ (by decide) (by decide) (by decide) (by simp), v6_group _ _ _ _ (by decide) (by decide) (by decide) (by simp), v6_group _ _ _ _ (by decide) (by decide) (by decide) (by simp), v6_group _ _ _ _ (by decide) (by decide) (by decide) (by simp), v6_group _ _ _ _ (by decide) (by decide) (by decide) (by simp), v6_group _ _ _ _ (by decide) (by decide) (by decide) hl]
  exact v6_six _ l h

end Go.Proofs.Qxb6602093a.Plain
