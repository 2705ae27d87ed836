namespace Go.Proofs.Qxb6602100a.Plain

def isD (c : UInt8) : Bool := decide (48 ≤ c.toNat) && decide (c.toNat ≤ 57)

theorem isD_iff (c : UInt8) : isD c = true ↔ 48 ≤ c.toNat ∧ c.toNat ≤ 57 := by unfold isD; simp

def run : List UInt8 → Nat
  | [] => 0
  | c :: t => if isD c then run t + 1 else 0

def brace (p : Nat) (r : List UInt8) : Nat :=
  match r with
  | [] => 0
  | c :: _ => if c.toNat = 125 then p + 1 else 0

def ilen (l : List UInt8) : Nat :=
  if run (l.drop 1) = 0 then 0
  else
    match (l.drop 1).drop (run (l.drop 1)) with
    | [] => 0
    | c :: u => if c.toNat = 44 then brace (run (l.drop 1) + 2 + run u) (u.drop (run u)) else brace (run (l.drop 1) + 1) (c :: u)

def fnd : List UInt8 → Nat
  | [] => 0
  | c :: t => if c.toNat = 125 then 0 else fnd t + 1

def scan : Nat → List UInt8 → Option Nat
  | k, [] => some k
  | k, c :: t => if c.toNat = 44 then scan (k + 1) t else if isD c then scan k t else none

def fin (j : Nat) (o : Option Nat) : Nat :=
  match o with
  | none => 0
  | some k => if 1 < k then 0 else j + 1

def head (b : List UInt8) : Bool :=
  match b with
  | [] => false
  | c :: _ => isD c

def model (l : List UInt8) : Nat :=
  if l.length ≤ 1 + fnd (l.drop 1) then 0
  else if head ((l.drop 1).take (fnd (l.drop 1))) then fin (1 + fnd (l.drop 1)) (scan 0 ((l.drop 1).take (fnd (l.drop 1))))
  else 0

theorem split (t : List UInt8) : ∃ ds r, t = ds ++ r ∧ (∀ c ∈ ds, isD c = true) ∧ (∀ c u, r = c :: u → isD c = false) ∧ run t = ds.length := by
  induction t with
  | nil => exact ⟨[], [], rfl, by simp, (by intro c u h; cases h), rfl⟩
  | cons c t ih =>
    cases hc : isD c with
    | false => exact ⟨[], c :: t, rfl, by simp, (by intro c' u h; cases h; exact hc), by simp [run, hc]⟩
    | true =>
      obtain ⟨ds, r, e, h1, h2, h3⟩ := ih
      refine ⟨c :: ds, r, by rw [e]; rfl, ?_, h2, by simp [run, hc, h3]⟩
      intro x hx
      rcases List.mem_cons.1 hx with rfl | hx
      · exact hc
      · exact h1 x hx

theorem fnd_app (ds r : List UInt8) (h : ∀ c ∈ ds, isD c = true) : fnd (ds ++ r) = ds.length + fnd r := by
  induction ds with
  | nil => simp
  | cons c t ih =>
    have hc := (isD_iff c).1 (h c (by simp))
    rw [List.cons_append, fnd, if_neg (by omega), ih (fun x hx => h x (by simp [hx]))]
    simp; omega

theorem scan_app (k : Nat) (ds r : List UInt8) (h : ∀ c ∈ ds, isD c = true) : scan k (ds ++ r) = scan k r := by
  induction ds with
  | nil => simp
  | cons c t ih =>
    have hc := (isD_iff c).1 (h c (by simp))
    rw [List.cons_append, scan, if_neg (by omega), if_pos (h c (by simp)), ih (fun x hx => h x (by simp [hx]))]

theorem take_app (ds r : List UInt8) (n : Nat) : (ds ++ r).take (ds.length + n) = ds ++ r.take n := by
  rw [List.take_append, List.take_of_length_le (by omega), show ds.length + n - ds.length = n from by omega]

theorem scan_le (l : List UInt8) : ∀ k m, scan k l = some m → k ≤ m := by
  induction l with
  | nil => intro k m h; simp [scan] at h; omega
  | cons c t ih =>
    intro k m h
    unfold scan at h
    split at h
    · have := ih _ _ h; omega
    · split at h
      · exact ih _ _ h
      · cases h

theorem fin_none (j : Nat) : fin j none = 0 := rfl

theorem fin_big (j k : Nat) (l : List UInt8) (h : 1 < k) : fin j (scan k l) = 0 := by
  cases hs : scan k l with
  | none => rfl
  | some m => have := scan_le l k m hs; simp [fin]; omega

theorem fnd_le (t : List UInt8) : fnd t ≤ t.length := by
  induction t with
  | nil => simp [fnd]
  | cons c t ih => unfold fnd; split <;> simp; omega

theorem ilen_eq_model (l : List UInt8) : ilen l = model l := by
  cases l with
  | nil => rfl
  | cons c0 t =>
    unfold ilen model
    simp only [List.drop_succ_cons, List.drop_zero, List.length_cons]
    obtain ⟨ds, r, e, h1, h2, h3⟩ := split t
    rw [h3]
    subst e
    rw [fnd_app ds r h1, take_app, scan_app 0 ds _ h1, List.drop_left]
    cases ds with
    | nil =>
      simp only [List.length_nil, if_true, List.nil_append, Nat.zero_add]
      cases r with
      | nil => simp [fnd]
      | cons c u =>
        have hc := h2 c u rfl
        rw [if_neg (c := head _ = true) ?_]
        · split <;> rfl
        · unfold fnd
          split
          · simp [head]
          · simp [head, hc]
    | cons d0 ds' =>
      have hh : head (d0 :: ds' ++ r.take (fnd r)) = true := h1 d0 (by simp)
      rw [if_neg (by simp), hh]
      simp only [if_true]
      cases r with
      | nil =>
        simp only [fnd, List.append_nil]
        rw [if_pos (by simp; omega)]
      | cons c u =>
        have hc := h2 c u rfl
        by_cases h44 : c.toNat = 44
        · simp only [h44, if_true]
          obtain ⟨es, v, e2, g1, g2, g3⟩ := split u
          have hf : fnd (c :: u) = 1 + (es.length + fnd v) := by
            rw [fnd, if_neg (by omega), e2, fnd_app es v g1]; omega
          have ht : (c :: u).take (fnd (c :: u)) = c :: (es ++ v.take (fnd v)) := by
            rw [hf, show 1 + (es.length + fnd v) = (es.length + fnd v) + 1 from by omega, List.take_succ_cons, e2, take_app]
          rw [ht, hf, scan, if_pos h44, scan_app _ es _ g1, g3, e2, List.drop_left]
          cases v with
          | nil =>
            rw [if_pos (by simp [fnd]; omega)]; rfl
          | cons x y =>
            have hx := g2 x y rfl
            by_cases hx5 : x.toNat = 125
            · rw [if_neg (by simp [fnd, hx5]; omega)]
              simp [fnd, hx5, scan, fin, brace]; omega
            · have e0 : brace ((d0 :: ds').length + 2 + es.length) (x :: y) = 0 := by simp [brace, hx5]
              rw [e0]
              split
              · rfl
              · have : fnd (x :: y) = fnd y + 1 := by rw [fnd, if_neg hx5]
                rw [this, List.take_succ_cons, scan]
                split
                · rw [fin_big _ _ _ (by omega)]
                · simp [hx, fin]
        · simp only [h44, if_false]
          by_cases h5 : c.toNat = 125
          · have hf : fnd (c :: u) = 0 := by rw [fnd, if_pos h5]
            rw [hf, if_neg (by simp; omega)]
            simp [scan, fin, brace, h5]; omega
          · have e0 : brace ((d0 :: ds').length + 1) (c :: u) = 0 := by simp [brace, h5]
            rw [e0]
            split
            · rfl
            · have : fnd (c :: u) = fnd u + 1 := by rw [fnd, if_neg h5]
              rw [this, List.take_succ_cons, scan, if_neg h44, if_neg (by simp [hc])]; rfl

end Go.Proofs.Qxb6602100a.Plain
