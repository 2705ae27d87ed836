import Derived.Test.Qxb6602363aStage
import Derived.Test.Qxb6602363aBytes
import Derived.Test.Qxb6602363aFits
import Derived.Lib.Builder
namespace Go.Proofs.Qxb6602363a
open Go.RowKit
set_option linter.unusedVariables false
set_option linter.unusedSimpArgs false

theorem Below.next {w a b : World} (h : Below w.heap.size w a) (k : Below a.heap.size a b) : Below w.heap.size w b := h.trans (k.mono h.size)

def Idx (w w' : World) (F : Nat) (v : Value) : Prop :=
  w'.heap[F]? = some (.cells (icells v) 44 (0, 0)) ∧ Below w.heap.size w w' ∧ F = w.heap.size ∧ F < w'.heap.size

theorem newIdx (a : Option Addr) (n c : Nat) (w : World) :
    Calls Try.prog 10 #[.slice a n c] w fun e w' => ∃ F, e = .returned (.pointer (some ⟨F, 0, none⟩)) ∧ Idx w w' F (.slice a n c) :=
  (newIndex_any a n c w).mono (by
    rintro e w' ⟨rfl, rfl⟩
    exact ⟨_, rfl, heap_alloc_new _ _, (Below.refl _ _).alloc (Nat.le_refl _) _, rfl, by simp⟩)

/-- all that stands when the table is built -/
structure Pre (w z : World) (F O n0 n1 n : Nat) (u0 u1 u2 u3 u4 u5 u6 u7 : Value) (z0 z1 : Nat → Int) (cv rv : Nat → Value) (L1 L2 : Nat → Nat) (Z1 Z2 : Nat → Nat → Int) (ic ip cof pof : Nat → Bool) : Prop where
  bel : Below w.heap.size w z
  ne : F ≠ O
  iF : z.heap[F]? = some (.cells (icells u0) 44 (0, 0))
  iO : z.heap[O]? = some (.cells (icells u0) 44 (0, 0))
  s0 : Sl z u0 n0 (ints z0)
  s1 : Sl z u1 n1 (ints z1)
  s2 : Sl z u2 n cv
  c2 : ∀ j, j < n → Sl z (cv j) (L1 j) (ints (Z1 j))
  s3 : Sl z u3 n rv
  c3 : ∀ j, j < n → Sl z (rv j) (L2 j) (ints (Z2 j))
  s4 : Sl z u4 n (bools ic)
  s5 : Sl z u5 n (bools ip)
  s6 : Sl z u6 n (bools cof)
  s7 : Sl z u7 n (bools pof)
  hn : n ≤ 65536

theorem six_ix {z : World} {F O : Nat} {c : Nat → Bool} {v : Value} (h1 : z.heap[F]? = some (.cells (icells v) 44 (0, 0))) (h2 : z.heap[O]? = some (.cells (icells v) 44 (0, 0))) (j : Nat) : ∃ c', z.heap[six c F O j]? = some (.cells (icells c') 44 (0, 0)) := by
  unfold six
  cases c j
  · exact ⟨v, h2⟩
  · exact ⟨v, h1⟩

theorem filter_len (p : Nat → Bool) (n : Nat) (h : n ≤ 65536) : ((List.range n).filter p).length ≤ 65536 := by
  refine Nat.le_trans (List.length_filter_le _ _) ?_
  rw [List.length_range]; exact h

section
variable {w z : World} {F O n0 n1 n : Nat} {u0 u1 u2 u3 u4 u5 u6 u7 : Value} {z0 z1 : Nat → Int} {cv rv : Nat → Value} {L1 L2 : Nat → Nat} {Z1 Z2 : Nat → Nat → Int} {ic ip cof pof : Nat → Bool}

theorem Pre.build (h : Pre w z F O n0 n1 n u0 u1 u2 u3 u4 u5 u6 u7 z0 z1 cv rv L1 L2 Z1 Z2 ic ip cof pof) :
    Calls Try.prog 11 #[.pointer (some ⟨F, 0, none⟩), .pointer (some ⟨O, 0, none⟩), u2, u3, u4, u5, u6, u7] z fun e w' => ∃ v1 tb kb v2 v3, e = .returned (.tuple #[v1, .pointer (some ⟨tb, 0, none⟩)]) ∧
      Stg z w' tb n kb cv rv (six cof F O) (six pof F O) ((List.range n).filter ic) ((List.range n).filter ip) v1 v2 v3 :=
  (build_any F O u2 u3 u4 u5 u6 u7 n cv rv L1 L2 Z1 Z2 ic ip cof pof z h.s2 h.c2 h.s3 h.c3 h.s4 h.s5 h.s6 h.s7 h.hn).mono (by
    rintro e w' ⟨v1, v2, v3, wr, rfl, hB, rfl⟩
    obtain ⟨kb, hS⟩ := Stg.of_build hB
    exact ⟨v1, _, kb, v2, v3, rfl, hS⟩)

/-- how the indices stand after a move that answered D -/
def six' (D : Bool) (i c : Nat → Bool) (F T O : Nat) (j : Nat) : Nat := cond (c j) (cond (D && i j) T F) O

theorem Stg.alter {z wb : World} {tb n : Nat} {kb : Nat → Nat} {cv rv : Nat → Value} {σ π σ' π' : Nat → Nat} {i2 i3 : List Nat} {v1 v2 v3 : Value} (h : Stg z wb tb n kb cv rv σ π i2 i3 v1 v2 v3) (h1 : ∀ j, j < n → σ j = σ' j) (h2 : ∀ j, j < n → π j = π' j) : Stg z wb tb n kb cv rv σ' π' i2 i3 v1 v2 v3 :=
  ⟨h.bel, h.tab, fun j hj => by rw [← h1 j hj, ← h2 j hj]; exact h.key j hj, h.inj, h.kge, h.p1, h.p2, h.p3, h.l2, h.l3⟩

theorem six'_of (D : Bool) (i c : Nat → Bool) (F T O n : Nat) (h : F ≠ O) (j : Nat) (hj : j < n) : (if D then updL (six c F O) (onA (six c F O) F ((List.range n).filter i)) T else six c F O) j = six' D i c F T O j := by
  unfold six'
  cases D with
  | true =>
    rw [if_pos rfl, updL_at h j hj]
    cases c j <;> cases i j <;> rfl
  | false =>
    rw [if_neg (by decide)]
    unfold six
    cases c j <;> rfl

theorem Pre.move (h : Pre w z F O n0 n1 n u0 u1 u2 u3 u4 u5 u6 u7 z0 z1 cv rv L1 L2 Z1 Z2 ic ip cof pof) {wb : World} {tb : Nat} {kb : Nat → Nat} {v1 v2 v3 : Value}
    (hS : Stg z wb tb n kb cv rv (six cof F O) (six pof F O) ((List.range n).filter ic) ((List.range n).filter ip) v1 v2 v3) {T nt : Nat} {vt : Value} {zt : Nat → Int}
    (iT : z.heap[T]? = some (.cells (icells vt) 44 (0, 0))) (st : Sl z vt nt (ints zt)) :
    Calls Try.prog 12 #[.pointer (some ⟨tb, 0, none⟩), .pointer (some ⟨F, 0, none⟩), .pointer (some ⟨T, 0, none⟩)] wb fun e w' => ∃ D, e = .returned (.bool D) ∧ D = (onF ic cof n && fitF ic ip cof pof L1 L2 Z1 Z2 nt zt n) ∧
      Stg z w' tb n kb cv rv (six' D ic cof F T O) (six' D ip pof F T O) ((List.range n).filter ic) ((List.range n).filter ip) v1 v2 v3 :=
  (moveZ_any tb F T n kb cv rv _ _ _ _ v2 v3 vt L1 L2 Z1 Z2 nt zt wb (hS.mvIn ⟨_, h.iF⟩ (fun j _ => six_ix h.iF h.iO j) (fun j _ => six_ix h.iF h.iO j) iT st h.c2 h.c3 (filter_len _ _ h.hn) (filter_len _ _ h.hn))).mono (by
    rintro e w' ⟨rfl, h1, h2⟩
    refine ⟨_, rfl, mvB_eq h.ne L1 L2 Z1 Z2 nt zt, ?_⟩
    exact (hS.moved h1 h2).alter (fun j hj => six'_of _ ic cof F T O n h.ne j hj) (fun j hj => six'_of _ ip pof F T O n h.ne j hj))

end

/-- what the last loop reads of key j -/
theorem Stg.cells {z wb : World} {tb n : Nat} {kb : Nat → Nat} {cv rv : Nat → Value} {σ π : Nat → Nat} {i2 i3 : List Nat} {v2 v3 : Value} {b o m c : Nat} (h : Stg z wb tb n kb cv rv σ π i2 i3 (.slice (some ⟨b, o, none⟩) m c) v2 v3) (j : Nat) (hj : j < n) :
    ∃ K, wb.cell? ⟨b, o + j, none⟩ = some (.pointer (some ⟨K, 0, none⟩)) ∧ wb.cell? ⟨K, 3, none⟩ = some (.pointer (some ⟨σ j, 0, none⟩)) ∧ wb.cell? ⟨K, 8, none⟩ = some (.pointer (some ⟨π j, 0, none⟩)) :=
  ⟨kb j, h.row.at j hj, by rw [Lib.cell_of_heap (h.key j hj)]; rfl, by rw [Lib.cell_of_heap (h.key j hj)]; rfl⟩

theorem neq_same (x : Nat) (w : World) : (binOp .neq 30 (.pointer (some ⟨x, 0, none⟩)) (.pointer (some ⟨x, 0, none⟩))).run Try.prog w = .ok (.bool false) w := by
  obtain ⟨ti, hti, _⟩ := info44
  exact Lib.run_neq_ptr_same w _ Try.underlying30 hti

end Go.Proofs.Qxb6602363a
