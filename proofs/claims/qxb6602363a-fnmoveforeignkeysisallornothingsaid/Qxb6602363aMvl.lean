import Derived.Test.Qxb6602363aMv
import Derived.LaidEqlPtr
namespace Go.Proofs.Qxb6602363a
open Go.RowKit
set_option linter.unusedVariables false
set_option linter.unusedSimpArgs false

theorem info44 : ∃ j, Try.prog.info? 44 = some j ∧ j.size ≠ 0 := by
  have h : (Try.prog.info? 44).map (·.size) = some 7 := by kernel_rfl
  obtain ⟨j, hj, hs⟩ := Option.map_eq_some_iff.1 h
  exact ⟨j, hj, by rw [hs]; decide⟩

/-- what moveForeignKeys is handed -/
structure MvIn (w : World) (tb A T n : Nat) (kb : Nat → Nat) (cv rv : Nat → Value) (σ π : Nat → Nat) (i2 i3 : List Nat) (v2 v3 vt : Value) (L1 L2 : Nat → Nat) (Z1 Z2 : Nat → Nat → Int) (nt : Nat) (zt : Nat → Int) : Prop where
  tab : w.heap[tb]? = some (.cells (tcells v2 v3) 58 (0, 0))
  key : KeysAt w n kb cv rv σ π
  inj : ∀ i j, i < n → j < n → kb i = kb j → i = j
  r2 : Sl w v2 i2.length (fun j => kp (kb (i2.getD j 0)))
  r3 : Sl w v3 i3.length (fun j => kp (kb (i3.getD j 0)))
  l2 : ∀ j ∈ i2, j < n
  l3 : ∀ j ∈ i3, j < n
  ixA : ∃ c, w.heap[A]? = some (.cells (icells c) 44 (0, 0))
  ixs : ∀ j, j < n → ∃ c, w.heap[σ j]? = some (.cells (icells c) 44 (0, 0))
  ixp : ∀ j, j < n → ∃ c, w.heap[π j]? = some (.cells (icells c) 44 (0, 0))
  to : w.heap[T]? = some (.cells (icells vt) 44 (0, 0))
  st : Sl w vt nt (ints zt)
  sc : ∀ j, j < n → Sl w (cv j) (L1 j) (ints (Z1 j))
  sr : ∀ j, j < n → Sl w (rv j) (L2 j) (ints (Z2 j))
  n2 : i2.length ≤ 65536
  n3 : i3.length ≤ 65536

def onA (σ : Nat → Nat) (A : Nat) (l : List Nat) : List Nat := l.filter fun j => σ j == A
def allPre (L : Nat → Nat) (Z : Nat → Nat → Int) (nt : Nat) (zt : Nat → Int) (l : List Nat) : Bool := l.all fun j => preB (L j) (Z j) nt zt

def mvB (A : Nat) (σ π : Nat → Nat) (i2 i3 : List Nat) (L1 L2 : Nat → Nat) (Z1 Z2 : Nat → Nat → Int) (nt : Nat) (zt : Nat → Int) : Bool :=
  allPre L1 Z1 nt zt (onA σ A i2) && allPre L2 Z2 nt zt (onA π A i3) && !(onA σ A i2).isEmpty

theorem take_snoc (l : List Nat) (k : Nat) (h : k < l.length) : l.take (k + 1) = l.take k ++ [l.getD k 0] := by
  rw [List.take_succ_eq_append_getElem h, ← List.getElem_eq_getD (h := h) 0]

theorem onA_snoc (σ : Nat → Nat) (A : Nat) (l : List Nat) (k J : Nat) (h : k < l.length) (hJ : l.getD k 0 = J) : onA σ A (l.take (k + 1)) = onA σ A (l.take k) ++ (if σ J = A then [J] else []) := by
  unfold onA
  rw [take_snoc l k h, hJ, List.filter_append]
  by_cases e : σ J = A
  · rw [if_pos e, List.filter_cons_of_pos (by simp [e])]; rfl
  · rw [if_neg e, List.filter_cons_of_neg (by simp [e])]; rfl

theorem getD_mem (l : List Nat) (k : Nat) (h : k < l.length) : l.getD k 0 ∈ l := by
  rw [← List.getElem_eq_getD (h := h) 0]; exact List.getElem_mem h

theorem all_no (L : Nat → Nat) (Z : Nat → Nat → Int) (nt : Nat) (zt : Nat → Int) (σ : Nat → Nat) (A : Nat) (l : List Nat) (J : Nat) (hm : J ∈ l) (hs : σ J = A) (hp : preB (L J) (Z J) nt zt = false) : allPre L Z nt zt (onA σ A l) = false := by
  unfold allPre
  rw [List.all_eq_false]
  refine ⟨J, ?_, by rw [hp]; decide⟩
  unfold onA
  rw [List.mem_filter]
  exact ⟨hm, beq_iff_eq.2 hs⟩

theorem all_snoc (L : Nat → Nat) (Z : Nat → Nat → Int) (nt : Nat) (zt : Nat → Int) (l : List Nat) (J : Nat) (h1 : allPre L Z nt zt l = true) (h2 : preB (L J) (Z J) nt zt = true) : allPre L Z nt zt (l ++ [J]) = true := by
  unfold allPre at *; rw [List.all_append, h1]; simp [h2]

theorem onA_len (σ : Nat → Nat) (A : Nat) (l : List Nat) (k : Nat) : (onA σ A (l.take k)).length ≤ l.length := by
  unfold onA
  refine Nat.le_trans (List.length_filter_le _ _) ?_
  rw [List.length_take]; omega

theorem onA_lt {σ : Nat → Nat} {A n : Nat} {l : List Nat} (h : ∀ j ∈ l, j < n) : ∀ j ∈ onA σ A l, j < n := fun j hj => h j (List.mem_filter.1 hj).1

/-- the first two loops -/
def RL (w : World) (n : Nat) (kb : Nat → Nat) (cv rv : Nat → Value) (σ π : Nat → Nat) (τ : Nat → Nat) (A : Nat) (il : List Nat) (L : Nat → Nat) (Z : Nat → Nat → Int) (nt : Nat) (zt : Nat → Int) (oth : List Nat) (vo : Value) (k : Nat) (v : Value) (wr : World) : Prop :=
  MV w wr n kb cv rv σ π (onA τ A (il.take k)) oth v vo ∧ Below w.heap.size w wr ∧ allPre L Z nt zt (onA τ A (il.take k)) = true

theorem cell_b {w wr : World} {a : Addr} {v : Value} (h : Below w.heap.size w wr) (hc : w.cell? a = some v) : wr.cell? a = some v := by
  rw [h.cell (World.block_lt_of_cell? w a hc)]; exact hc

theorem RL.step {w : World} {n : Nat} {kb : Nat → Nat} {cv rv : Nat → Value} {σ π : Nat → Nat} {τ : Nat → Nat} {A : Nat} {il : List Nat} {L : Nat → Nat} {Z : Nat → Nat → Int} {nt : Nat} {zt : Nat → Int} {oth : List Nat} {vo : Value} {k : Nat} {v : Value} {wr : World}
    (h : RL w n kb cv rv σ π τ A il L Z nt zt oth vo k v wr) (hlt : k < il.length) (hl : ∀ j ∈ il, j < n) (h16 : il.length ≤ 65536)
    (ixA : ∃ c, w.heap[A]? = some (.cells (icells c) 44 (0, 0))) (ixt : ∀ j, j < n → ∃ c, w.heap[τ j]? = some (.cells (icells c) 44 (0, 0)))
    (cw : Nat → Value) (sc : ∀ j, j < n → Sl w (cw j) (L j) (ints (Z j))) {b o : Nat} (g : w.cell? ⟨b, o + k, none⟩ = some (kp (kb (il.getD k 0)))) :
    ∃ J va vm, J < n ∧ cw J = .slice va (L J) vm ∧ wr.cell? ⟨b, o + k, none⟩ = some (.pointer (some ⟨kb J, 0, none⟩)) ∧
      wr.heap[kb J]? = some (.cells (kcells (cv J) (kp (σ J)) (rv J) (kp (π J))) 51 (0, 0)) ∧ Sl wr (.slice va (L J) vm) (L J) (ints (Z J)) ∧ Below w.heap.size w wr ∧
      ((τ J = A ∧ (binOp .eql 30 (.pointer (some ⟨τ J, 0, none⟩)) (.pointer (some ⟨A, 0, none⟩))).run Try.prog wr = .ok (.bool true) wr ∧ preB (L J) (Z J) nt zt = false ∧ Hid (allPre L Z nt zt (onA τ A il) = false)) ∨
       (τ J = A ∧ (binOp .eql 30 (.pointer (some ⟨τ J, 0, none⟩)) (.pointer (some ⟨A, 0, none⟩))).run Try.prog wr = .ok (.bool true) wr ∧ preB (L J) (Z J) nt zt = true ∧
          ∃ m X, Hid (wr.ownsRow w.heap.size 39 1 v m X) ∧ m ≤ 65536 ∧ Hid (w.heap.size ≤ wr.heap.size) ∧ Hid (∀ v' w', Appd w.heap.size wr v m X (kb J) v' w' → RL w n kb cv rv σ π τ A il L Z nt zt oth vo (k + 1) v' w')) ∨
       ((binOp .eql 30 (.pointer (some ⟨τ J, 0, none⟩)) (.pointer (some ⟨A, 0, none⟩))).run Try.prog wr = .ok (.bool false) wr ∧ Hid (RL w n kb cv rv σ π τ A il L Z nt zt oth vo (k + 1) v wr))) := by
  obtain ⟨hM, hbel, hall⟩ := h
  obtain ⟨J, hJ⟩ : ∃ J, il.getD k 0 = J := ⟨_, rfl⟩
  have hm : J ∈ il := hJ ▸ getD_mem il k hlt
  have hn := hl J hm
  rw [hJ] at g
  obtain ⟨va, vm, hva⟩ := (sc J hn).form
  obtain ⟨ti, hti, hts⟩ := info44
  obtain ⟨cA, hA⟩ := ixA
  obtain ⟨cS, hS⟩ := ixt J hn
  have hA' : wr.heap[A]? = some (.cells (icells cA) 44 (0, 0)) := by rw [hbel.block _ (lt_of_heap hA)]; exact hA
  have hS' : wr.heap[τ J]? = some (.cells (icells cS) 44 (0, 0)) := by rw [hbel.block _ (lt_of_heap hS)]; exact hS
  refine ⟨J, va, vm, hn, hva, cell_b hbel g, hM.key J hn, by rw [← hva]; exact (sc J hn).below hbel, hbel, ?_⟩
  by_cases hs : τ J = A
  · have he : (binOp .eql 30 (.pointer (some ⟨τ J, 0, none⟩)) (.pointer (some ⟨A, 0, none⟩))).run Try.prog wr = .ok (.bool true) wr := by
      rw [hs]; exact run_eql_ptr_same wr _ Try.underlying30 hti
    cases hp : preB (L J) (Z J) nt zt with
    | false => exact Or.inl ⟨hs, he, rfl, all_no L Z nt zt τ A il J hm hs hp⟩
    | true =>
      refine Or.inr (Or.inl ⟨hs, he, rfl, ?_⟩)
      obtain ⟨m, X, h1, h2, h3⟩ := hM.open1 65536 (Nat.le_trans (onA_len _ _ _ _) h16)
      refine ⟨m, X, h1, h2, hbel.size, fun v' w' ha => ?_⟩
      obtain ⟨h4, h5⟩ := h3 J v' w' ha
      unfold RL
      rw [onA_snoc τ A il k J hlt hJ, if_pos hs]
      exact ⟨h4, hbel.trans h5, all_snoc L Z nt zt _ J hall hp⟩
  · refine Or.inr (Or.inr ⟨run_eql_ptr_other wr Try.underlying30 hti hts (fun e => hs (congrArg Addr.block e)) hS' hA', ?_⟩)
    show RL _ _ _ _ _ _ _ _ _ _ _ _ _ _ _ _ _ _ _
    unfold RL
    rw [onA_snoc τ A il k J hlt hJ, if_neg hs, List.append_nil]
    exact ⟨hM, hbel, hall⟩

end Go.Proofs.Qxb6602363a
