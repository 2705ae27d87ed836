namespace Go.Proofs.Qxb6602127a.Plain
set_option linter.unusedVariables false

def hd (t : List UInt8) : Bool :=
  match t with
  | [] => false
  | d :: _ => d.toNat == 123

def sig (c : UInt8) : Bool := decide (c.toNat = 36) || decide (c.toNat = 37)

def piece (c : UInt8) (n : Bool) : List UInt8 :=
  if c.toNat = 92 then [92, 92]
  else if c.toNat = 34 then [92, 34]
  else if c.toNat = 10 then [92, 110]
  else if c.toNat = 13 then [92, 114]
  else if c.toNat = 9 then [92, 116]
  else if sig c then (if n then [c, c] else [c])
  else [c]

def esc : List UInt8 → List UInt8
  | [] => []
  | c :: t => piece c (hd t) ++ esc t

def key (l : List UInt8) : List UInt8 := 91 :: 34 :: (esc l ++ [34, 93])

def bad (c : UInt8) : Bool := decide (c.toNat = 92) || decide (c.toNat = 34) || decide (c.toNat = 10) || decide (c.toNat = 13) || decide (c.toNat = 9)

def plain : List UInt8 → Bool
  | [] => true
  | c :: t => if bad c then false else if sig c && hd t then false else plain t

/-! ### lengths -/
theorem piece_len (c : UInt8) (n : Bool) : 1 ≤ (piece c n).length ∧ (piece c n).length ≤ 2 := by
  unfold piece
  repeat' split
  all_goals simp

theorem esc_len (l : List UInt8) : l.length ≤ (esc l).length ∧ (esc l).length ≤ 2 * l.length := by
  induction l with
  | nil => simp [esc]
  | cons c t ih =>
    have := piece_len c (hd t)
    simp only [esc, List.length_append, List.length_cons]
    omega

theorem key_len (l : List UInt8) : (key l).length = (esc l).length + 4 := by
  simp [key]

/-! ### verbatim -/
theorem piece_plain (c : UInt8) (n : Bool) (hb : bad c = false) (hs : (sig c && n) = false) : piece c n = [c] := by
  unfold bad at hb
  simp at hb
  unfold piece
  rw [if_neg hb.1.1.1.1, if_neg hb.1.1.1.2, if_neg hb.1.1.2, if_neg hb.1.2, if_neg hb.2]
  cases h : sig c with
  | false => simp
  | true => simp [h] at hs; simp [hs]

theorem piece_two (c : UInt8) (n : Bool) (h : bad c = true ∨ (sig c && n) = true) : (piece c n).length = 2 := by
  unfold piece
  by_cases h1 : c.toNat = 92
  · rw [if_pos h1]; rfl
  by_cases h2 : c.toNat = 34
  · rw [if_neg h1, if_pos h2]; rfl
  by_cases h3 : c.toNat = 10
  · rw [if_neg h1, if_neg h2, if_pos h3]; rfl
  by_cases h4 : c.toNat = 13
  · rw [if_neg h1, if_neg h2, if_neg h3, if_pos h4]; rfl
  by_cases h5 : c.toNat = 9
  · rw [if_neg h1, if_neg h2, if_neg h3, if_neg h4, if_pos h5]; rfl
  rw [if_neg h1, if_neg h2, if_neg h3, if_neg h4, if_neg h5]
  rcases h with h | h
  · simp [bad, h1, h2, h3, h4, h5] at h
  · simp at h; simp [h.1, h.2]

theorem esc_plain (l : List UInt8) (h : plain l = true) : esc l = l := by
  induction l with
  | nil => rfl
  | cons c t ih =>
    unfold plain at h
    cases hb : bad c with
    | true => simp [hb] at h
    | false =>
      cases hs : (sig c && hd t) with
      | true => rw [hb, hs] at h; simp at h
      | false =>
        rw [hb, hs] at h
        simp at h
        rw [esc, piece_plain c _ hb hs, ih h]; rfl

theorem esc_not (l : List UInt8) (h : plain l = false) : l.length < (esc l).length := by
  induction l with
  | nil => simp [plain] at h
  | cons c t ih =>
    unfold plain at h
    have ht := esc_len t
    simp only [esc, List.length_append, List.length_cons]
    cases hb : bad c with
    | true => have := piece_two c (hd t) (Or.inl hb); omega
    | false =>
      cases hs : (sig c && hd t) with
      | true => have := piece_two c (hd t) (Or.inr hs); omega
      | false =>
        rw [hb, hs] at h
        simp at h
        have := ih h
        have := piece_len c (hd t)
        omega

theorem verbatim (l : List UInt8) : (key l == 91 :: 34 :: (l ++ [34, 93])) = plain l := by
  cases h : plain l with
  | true => unfold key; rw [esc_plain l h]; simp
  | false =>
    rw [beq_eq_false_iff_ne]
    intro e
    have := congrArg List.length e
    have h2 := esc_not l h
    simp [key] at this
    omega

/-! ### seams -/
def seam (a b : List UInt8) : List UInt8 :=
  match a.getLast? with
  | none => []
  | some c => if sig c && hd b then [c] else []

theorem piece_true (c : UInt8) : piece c true = piece c false ++ (if sig c then [c] else []) := by
  unfold piece
  by_cases h1 : c.toNat = 92
  · simp [h1, sig]
  by_cases h2 : c.toNat = 34
  · simp [h2, sig]
  by_cases h3 : c.toNat = 10
  · simp [h3, sig]
  by_cases h4 : c.toNat = 13
  · simp [h4, sig]
  by_cases h5 : c.toNat = 9
  · simp [h5, sig]
  simp only [h1, h2, h3, h4, h5, if_false]
  cases sig c <;> simp

theorem esc_app (a b : List UInt8) : esc (a ++ b) = esc a ++ seam a b ++ esc b := by
  induction a with
  | nil => simp [esc, seam]
  | cons c t ih =>
    cases t with
    | nil =>
      have h0 : hd ([] : List UInt8) = false := rfl
      simp only [List.cons_append, List.nil_append, esc, seam, List.getLast?_singleton, List.append_nil, h0]
      cases h : hd b with
      | true => rw [piece_true]; simp
      | false => simp
    | cons d u =>
      have h1 : hd (d :: u ++ b) = hd (d :: u) := rfl
      have h2 : seam (c :: d :: u) b = seam (d :: u) b := by
        unfold seam; rw [List.getLast?_cons_cons]
      rw [List.cons_append, esc, h1, ih, h2, show esc (c :: d :: u) = piece c (hd (d :: u)) ++ esc (d :: u) from rfl]
      simp only [List.append_assoc]

/-! ### reading back -/
def escaped (d : UInt8) : Option UInt8 :=
  if d.toNat = 92 then some 92 else if d.toNat = 34 then some 34 else if d.toNat = 110 then some 10 else if d.toNat = 114 then some 13 else if d.toNat = 116 then some 9 else none

/-- c and then the opening brace -/
def dbl (c : UInt8) (t : List UInt8) : Bool :=
  match t with
  | d :: e :: _ => decide (d.toNat = c.toNat) && decide (e.toNat = 123)
  | _ => false

def unq : Nat → List UInt8 → List UInt8 → Option (List UInt8)
  | 0, _, _ => none
  | _ + 1, out, [] => some out
  | f + 1, out, c :: t =>
    if c.toNat = 92 then
      match t with
      | [] => none
      | d :: u =>
        match escaped d with
        | none => none
        | some v => unq f (out ++ [v]) u
    else if bad c then none
    else if sig c && dbl c t then unq f (out ++ [c] ++ [123]) (t.drop 2)
    else if sig c && hd t then none
    else unq f (out ++ [c]) t

theorem unq_cons (f : Nat) (out : List UInt8) (c : UInt8) (t : List UInt8) (h1 : ¬ c.toNat = 92) : unq (f + 1) out (c :: t) =
    if bad c then none
    else if sig c && dbl c t then unq f (out ++ [c] ++ [123]) (t.drop 2)
    else if sig c && hd t then none
    else unq f (out ++ [c]) t := by
  have : unq (f + 1) out (c :: t) = if c.toNat = 92 then (match t with
      | [] => none
      | d :: u =>
        match escaped d with
        | none => none
        | some v => unq f (out ++ [v]) u)
    else if bad c then none
    else if sig c && dbl c t then unq f (out ++ [c] ++ [123]) (t.drop 2)
    else if sig c && hd t then none
    else unq f (out ++ [c]) t := rfl
  rw [this, if_neg h1]

theorem u8_of (c : UInt8) (n : Nat) (h : c.toNat = n) (m : UInt8) (hm : m.toNat = n) : c = m := UInt8.toNat_inj.1 (h.trans hm.symm)

theorem hd_esc (l : List UInt8) : hd (esc l) = hd l := by
  cases l with
  | nil => rfl
  | cons c t =>
    rw [esc]
    unfold piece
    by_cases h1 : c.toNat = 92
    · simp [h1, hd]
    by_cases h2 : c.toNat = 34
    · simp [h2, hd]
    by_cases h3 : c.toNat = 10
    · simp [h3, hd]
    by_cases h4 : c.toNat = 13
    · simp [h4, hd]
    by_cases h5 : c.toNat = 9
    · simp [h5, hd]
    simp only [h1, h2, h3, h4, h5, if_false]
    cases sig c <;> cases hd t <;> simp [hd]

theorem dbl_esc (c : UInt8) (t : List UInt8) (hc : sig c = true) (ht : hd t = false) : dbl c (esc t) = false := by
  have hcn : c.toNat = 36 ∨ c.toNat = 37 := by unfold sig at hc; simpa using hc
  cases t with
  | nil => rfl
  | cons d u =>
    rw [esc]
    unfold piece
    by_cases h1 : d.toNat = 92
    · simp [h1, dbl]
    by_cases h2 : d.toNat = 34
    · simp [h2, dbl]
    by_cases h3 : d.toNat = 10
    · simp [h3, dbl]
    by_cases h4 : d.toNat = 13
    · simp [h4, dbl]
    by_cases h5 : d.toNat = 9
    · simp [h5, dbl]
    simp only [h1, h2, h3, h4, h5, if_false]
    cases hs : sig d with
    | true =>
      have hdn : d.toNat = 36 ∨ d.toNat = 37 := by unfold sig at hs; simpa using hs
      cases hu : hd u with
      | true => simp [dbl]; omega
      | false =>
        simp only [if_true, Bool.false_eq_true, if_false, List.cons_append, List.nil_append]
        have := hd_esc u
        rw [hu] at this
        cases he : esc u with
        | nil => rfl
        | cons x y => rw [he] at this; simp [hd] at this; simp [dbl, this]
    | false =>
      simp only [Bool.false_eq_true, if_false, List.cons_append, List.nil_append]
      cases he : esc u with
      | nil => rfl
      | cons x y =>
        simp [dbl]
        intro h
        exfalso
        unfold sig at hs
        simp at hs
        omega

theorem unq_esc (n : Nat) : ∀ (l out : List UInt8) (f : Nat), l.length ≤ n → l.length < f → unq f out (esc l) = some (out ++ l) := by
  induction n with
  | zero =>
    intro l out f hl hf
    obtain ⟨f, rfl⟩ : ∃ g, f = g + 1 := ⟨f - 1, by omega⟩
    have : l = [] := List.length_eq_zero_iff.1 (by omega)
    subst this
    simp [esc, unq]
  | succ n ih =>
    intro l out f hl hf
    obtain ⟨f, rfl⟩ : ∃ g, f = g + 1 := ⟨f - 1, by omega⟩
    cases l with
    | nil => simp [esc, unq]
    | cons c t =>
      simp only [List.length_cons] at hl hf
      have fin : ∀ v : UInt8, v = c → unq f (out ++ [v]) (esc t) = some (out ++ c :: t) := by
        intro v hv
        rw [hv, ih t (out ++ [c]) f (by omega) (by omega)]; simp
      rw [esc]
      by_cases h1 : c.toNat = 92
      · have e : piece c (hd t) = [92, 92] := by unfold piece; rw [if_pos h1]
        rw [e]
        exact fin 92 (u8_of c 92 h1 92 rfl).symm
      by_cases h2 : c.toNat = 34
      · have e : piece c (hd t) = [92, 34] := by unfold piece; rw [if_neg h1, if_pos h2]
        rw [e]
        exact fin 34 (u8_of c 34 h2 34 rfl).symm
      by_cases h3 : c.toNat = 10
      · have e : piece c (hd t) = [92, 110] := by unfold piece; rw [if_neg h1, if_neg h2, if_pos h3]
        rw [e]
        exact fin 10 (u8_of c 10 h3 10 rfl).symm
      by_cases h4 : c.toNat = 13
      · have e : piece c (hd t) = [92, 114] := by unfold piece; rw [if_neg h1, if_neg h2, if_neg h3, if_pos h4]
        rw [e]
        exact fin 13 (u8_of c 13 h4 13 rfl).symm
      by_cases h5 : c.toNat = 9
      · have e : piece c (hd t) = [92, 116] := by unfold piece; rw [if_neg h1, if_neg h2, if_neg h3, if_neg h4, if_pos h5]
        rw [e]
        exact fin 9 (u8_of c 9 h5 9 rfl).symm
      have hb : bad c = false := by simp [bad, h1, h2, h3, h4, h5]
      cases hs : sig c with
      | false =>
        rw [piece_plain c _ hb (by simp [hs]), List.cons_append, List.nil_append, unq_cons _ _ _ _ h1, if_neg (by simp [hb]), if_neg (by simp [hs]), if_neg (by simp [hs])]
        exact fin c rfl
      | true =>
        cases ht : hd t with
        | false =>
          rw [piece_plain c _ hb (by simp), List.cons_append, List.nil_append, unq_cons _ _ _ _ h1, if_neg (by simp [hb]), if_neg (by simp [dbl_esc c t hs ht]), if_neg (by simp [hd_esc, ht])]
          exact fin c rfl
        | true =>
          cases t with
          | nil => simp [hd] at ht
          | cons d u =>
            have hd3 : d.toNat = 123 := by simpa [hd] using ht
            have e : piece c true = [c, c] := by
              unfold piece; rw [if_neg h1, if_neg h2, if_neg h3, if_neg h4, if_neg h5, if_pos hs, if_pos rfl]
            have e2 : piece d (hd u) = [d] := piece_plain d _ (by simp [bad, hd3]) (by simp [sig, hd3])
            have ed : d = 123 := u8_of d 123 hd3 123 rfl
            rw [e, esc, e2, List.cons_append, List.cons_append, List.nil_append, List.cons_append, List.nil_append, unq_cons _ _ _ _ h1, if_neg (by simp [hb]), if_pos (by simp [hs, dbl, hd3])]
            simp only [List.drop_succ_cons, List.drop_zero]
            simp only [List.length_cons] at hl hf
            rw [ih u _ f (by omega) (by omega), ed]; simp

end Go.Proofs.Qxb6602127a.Plain
