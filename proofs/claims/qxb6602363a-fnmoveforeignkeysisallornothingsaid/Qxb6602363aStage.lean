import Derived.Test.Qxb6602363aServ
import Derived.Test.Qxb6602363aBuildT
namespace Go.Proofs.Qxb6602363a
open Go.RowKit
set_option linter.unusedVariables false
set_option linter.unusedSimpArgs false

/-- the table that zzBuildTable left, and the keys as they stand in wb; z is the world it was built in -/
structure Stg (z wb : World) (tb n : Nat) (kb : Nat → Nat) (cv rv : Nat → Value) (σ π : Nat → Nat) (i2 i3 : List Nat) (v1 v2 v3 : Value) : Prop where
  bel : Below z.heap.size z wb
  tab : wb.heap[tb]? = some (.cells (tcells v2 v3) 58 (0, 0))
  key : KeysAt wb n kb cv rv σ π
  inj : ∀ i j, i < n → j < n → kb i = kb j → i = j
  kge : ∀ j, j < n → z.heap.size ≤ kb j
  p1 : PR z.heap.size wb v1 (List.range n) kb
  p2 : PR z.heap.size wb v2 i2 kb
  p3 : PR z.heap.size wb v3 i3 kb
  l2 : ∀ j ∈ i2, j < n
  l3 : ∀ j ∈ i3, j < n

theorem PR.off {B : Nat} {w w' : World} {v : Value} {ids : List Nat} {n : Nat} {kb : Nat → Nat} {cv rv : Nat → Value} {σ π : Nat → Nat} (h : PR B w v ids kb) (hk : KeysAt w n kb cv rv σ π) (ho : Off w w' n kb) : PR B w' v ids kb := by
  refine ⟨h.1, ?_⟩
  rcases h.2 with h2 | ⟨g, cap, cur, h3, h4, h5, h6⟩
  · exact Or.inl h2
  · refine Or.inr ⟨g, cap, cur, h3, h4, ?_, h6⟩
    rw [ho.block g (lt_of_heap h5) (fun j hj e => by have := hk j hj; rw [e, h5] at this; injection this with this; injection this with _ h7; exact absurd h7 (by decide))]
    exact h5

theorem Stg.moved {z wb : World} {tb n : Nat} {kb : Nat → Nat} {cv rv : Nat → Value} {σ π : Nat → Nat} {i2 i3 : List Nat} {v1 v2 v3 : Value} (h : Stg z wb tb n kb cv rv σ π i2 i3 v1 v2 v3) {w' : World} {σ' π' : Nat → Nat} (ho : Off wb w' n kb) (hk : KeysAt w' n kb cv rv σ' π') : Stg z w' tb n kb cv rv σ' π' i2 i3 v1 v2 v3 where
  bel := h.bel.trans (ho.below h.kge h.bel.size)
  tab := by
    rw [ho.block tb (lt_of_heap h.tab) (fun j hj e => by have := h.key j hj; rw [e, h.tab] at this; injection this with this; injection this with _ h7; exact absurd h7 (by decide))]
    exact h.tab
  key := hk
  inj := h.inj
  kge := h.kge
  p1 := h.p1.off h.key ho
  p2 := h.p2.off h.key ho
  p3 := h.p3.off h.key ho
  l2 := h.l2
  l3 := h.l3

theorem Stg.same {z wb : World} {tb n : Nat} {kb : Nat → Nat} {cv rv : Nat → Value} {σ π : Nat → Nat} {i2 i3 : List Nat} {v1 v2 v3 : Value} (h : Stg z wb tb n kb cv rv σ π i2 i3 v1 v2 v3) {w' : World} (hb : Below wb.heap.size wb w') : Stg z w' tb n kb cv rv σ π i2 i3 v1 v2 v3 :=
  h.moved (Off.of_below hb) (fun j hj => by rw [hb.block _ (lt_of_heap (h.key j hj))]; exact h.key j hj)

theorem heap_below {z w' : World} {b : Nat} {o : Obj} (hb : Below z.heap.size z w') (h : z.heap[b]? = some o) : w'.heap[b]? = some o := by
  rw [hb.block _ (lt_of_heap h)]; exact h

theorem Stg.mvIn {z wb : World} {tb n : Nat} {kb : Nat → Nat} {cv rv : Nat → Value} {σ π : Nat → Nat} {i2 i3 : List Nat} {v1 v2 v3 : Value} (h : Stg z wb tb n kb cv rv σ π i2 i3 v1 v2 v3) {A T : Nat} {vt : Value} {L1 L2 : Nat → Nat} {Z1 Z2 : Nat → Nat → Int} {nt : Nat} {zt : Nat → Int}
    (ixA : ∃ c, z.heap[A]? = some (.cells (icells c) 44 (0, 0))) (ixs : ∀ j, j < n → ∃ c, z.heap[σ j]? = some (.cells (icells c) 44 (0, 0))) (ixp : ∀ j, j < n → ∃ c, z.heap[π j]? = some (.cells (icells c) 44 (0, 0)))
    (to : z.heap[T]? = some (.cells (icells vt) 44 (0, 0))) (st : Sl z vt nt (ints zt)) (sc : ∀ j, j < n → Sl z (cv j) (L1 j) (ints (Z1 j))) (sr : ∀ j, j < n → Sl z (rv j) (L2 j) (ints (Z2 j)))
    (n2 : i2.length ≤ 65536) (n3 : i3.length ≤ 65536) : MvIn wb tb A T n kb cv rv σ π i2 i3 v2 v3 vt L1 L2 Z1 Z2 nt zt where
  tab := h.tab
  key := h.key
  inj := h.inj
  r2 := h.p2.sl
  r3 := h.p3.sl
  l2 := h.l2
  l3 := h.l3
  ixA := by obtain ⟨c, hc⟩ := ixA; exact ⟨c, heap_below h.bel hc⟩
  ixs := fun j hj => by obtain ⟨c, hc⟩ := ixs j hj; exact ⟨c, heap_below h.bel hc⟩
  ixp := fun j hj => by obtain ⟨c, hc⟩ := ixp j hj; exact ⟨c, heap_below h.bel hc⟩
  to := heap_below h.bel to
  st := st.below h.bel
  sc := fun j hj => (sc j hj).below h.bel
  sr := fun j hj => (sr j hj).below h.bel
  n2 := n2
  n3 := n3

theorem range_getD (n j : Nat) (h : j < n) : (List.range n).getD j 0 = j := by
  have hj : j < (List.range n).length := by rw [List.length_range]; exact h
  rw [← List.getElem_eq_getD (h := hj) 0, List.getElem_range]

theorem Stg.row {z wb : World} {tb n : Nat} {kb : Nat → Nat} {cv rv : Nat → Value} {σ π : Nat → Nat} {i2 i3 : List Nat} {v1 v2 v3 : Value} (h : Stg z wb tb n kb cv rv σ π i2 i3 v1 v2 v3) : Sl wb v1 n (fun j => kp (kb j)) := by
  obtain ⟨a, c, h1, h2, h3, h4, h5⟩ := h.p1.sl
  rw [List.length_range] at h1 h2 h5
  refine ⟨a, c, h1, h2, h3, h4, ?_⟩
  rcases h5 with h5 | ⟨b, o, h6, h7⟩
  · exact Or.inl h5
  · refine Or.inr ⟨b, o, h6, fun j hj => ?_⟩
    have := h7 j hj
    simp only [range_getD n j hj] at this
    exact this

def six (c : Nat → Bool) (F O : Nat) : Nat → Nat := fun j => if c j then F else O

theorem Stg.of_build {z wr : World} {cv rv : Nat → Value} {ic ip cof pof : Nat → Bool} {F O n : Nat} {v1 v2 v3 : Value} (h : BT z cv rv ic ip cof pof F O n v1 v2 v3 wr) :
    ∃ kb, Stg z (wr.alloc (.cells (tcells v2 v3) 58)) wr.heap.size n kb cv rv (six cof F O) (six pof F O) ((List.range n).filter ic) ((List.range n).filter ip) v1 v2 v3 := by
  obtain ⟨kb, hB⟩ := h
  have hb : Below wr.heap.size wr (wr.alloc (.cells (tcells v2 v3) 58)) := (Below.refl _ _).alloc (Nat.le_refl _) _
  have hk : KeysAt (wr.alloc (.cells (tcells v2 v3) 58)) n kb cv rv (six cof F O) (six pof F O) := fun j hj => by
    rw [hb.block _ (lt_of_heap (hB.key j hj).2)]; exact (hB.key j hj).2
  exact ⟨kb, hB.bel.trans ((Below.refl _ _).alloc hB.bel.size _), heap_alloc_new _ _, hk, hB.inj, fun j hj => (hB.key j hj).1, hB.p1.same hb, hB.p2.same hb, hB.p3.same hb, hB.lt2, hB.lt3⟩

/-! plain facts -/

def onF (ic cof : Nat → Bool) (k : Nat) : Bool := (List.range k).any fun j => ic j && cof j
def fit1 (ic cof : Nat → Bool) (L : Nat → Nat) (Z : Nat → Nat → Int) (nt : Nat) (zt : Nat → Int) (j : Nat) : Bool := !(ic j && cof j) || preB (L j) (Z j) nt zt
def fitF (ic ip cof pof : Nat → Bool) (L1 L2 : Nat → Nat) (Z1 Z2 : Nat → Nat → Int) (nt : Nat) (zt : Nat → Int) (k : Nat) : Bool :=
  (List.range k).all fun j => fit1 ic cof L1 Z1 nt zt j && fit1 ip pof L2 Z2 nt zt j

theorem onF_succ (ic cof : Nat → Bool) (k : Nat) : onF ic cof (k + 1) = (onF ic cof k || (ic k && cof k)) := by
  unfold onF; rw [List.range_succ, List.any_append]; simp
theorem fitF_succ (ic ip cof pof : Nat → Bool) (L1 L2 : Nat → Nat) (Z1 Z2 : Nat → Nat → Int) (nt : Nat) (zt : Nat → Int) (k : Nat) :
    fitF ic ip cof pof L1 L2 Z1 Z2 nt zt (k + 1) = (fitF ic ip cof pof L1 L2 Z1 Z2 nt zt k && (fit1 ic cof L1 Z1 nt zt k && fit1 ip pof L2 Z2 nt zt k)) := by
  unfold fitF; rw [List.range_succ, List.all_append]; simp

theorem six_eq {c : Nat → Bool} {F O : Nat} (h : F ≠ O) (j : Nat) : (six c F O j == F) = c j := by
  unfold six
  cases c j with
  | true => simp
  | false => simp; exact fun e => h e.symm

theorem mem_onA {ic cof : Nat → Bool} {F O n : Nat} (h : F ≠ O) (j : Nat) : j ∈ onA (six cof F O) F ((List.range n).filter ic) ↔ j < n ∧ ic j = true ∧ cof j = true := by
  unfold onA
  rw [List.mem_filter, List.mem_filter, List.mem_range, six_eq h, and_assoc]

theorem mvB_eq {ic ip cof pof : Nat → Bool} {F O n : Nat} (h : F ≠ O) (L1 L2 : Nat → Nat) (Z1 Z2 : Nat → Nat → Int) (nt : Nat) (zt : Nat → Int) :
    mvB F (six cof F O) (six pof F O) ((List.range n).filter ic) ((List.range n).filter ip) L1 L2 Z1 Z2 nt zt = (onF ic cof n && fitF ic ip cof pof L1 L2 Z1 Z2 nt zt n) := by
  have e1 : ∀ (c d : Nat → Bool) (L : Nat → Nat) (Z : Nat → Nat → Int), allPre L Z nt zt (onA (six d F O) F ((List.range n).filter c)) = (List.range n).all (fun j => fit1 c d L Z nt zt j) := fun c d L Z => by
    rw [Bool.eq_iff_iff]
    unfold allPre
    rw [List.all_eq_true, List.all_eq_true]
    constructor
    · intro hh j hj
      rw [List.mem_range] at hj
      unfold fit1
      cases e : (c j && d j) with
      | false => rfl
      | true =>
        rw [Bool.and_eq_true] at e
        rw [hh j ((mem_onA h j).2 ⟨hj, e.1, e.2⟩)]; rfl
    · intro hh j hj
      obtain ⟨h1, h2, h3⟩ := (mem_onA h j).1 hj
      have := hh j (List.mem_range.2 h1)
      unfold fit1 at this
      rw [h2, h3] at this
      simpa using this
  have e2 : (!(onA (six cof F O) F ((List.range n).filter ic)).isEmpty) = onF ic cof n := by
    rw [Bool.eq_iff_iff]
    unfold onF
    rw [List.any_eq_true]
    constructor
    · intro hh
      cases e : onA (six cof F O) F ((List.range n).filter ic) with
      | nil => rw [e] at hh; exact absurd hh (by decide)
      | cons a l =>
        obtain ⟨h1, h2, h3⟩ := (mem_onA h a).1 (by rw [e]; exact List.mem_cons_self)
        exact ⟨a, List.mem_range.2 h1, by rw [h2, h3]; rfl⟩
    · rintro ⟨a, h1, h2⟩
      rw [Bool.and_eq_true] at h2
      have := (mem_onA (O := O) h a).2 ⟨List.mem_range.1 h1, h2.1, h2.2⟩
      cases e : onA (six cof F O) F ((List.range n).filter ic) with
      | nil => rw [e] at this; exact absurd this List.not_mem_nil
      | cons a l => rfl
  unfold mvB
  rw [e1, e1, e2, Bool.and_comm]
  congr 1
  unfold fitF
  rw [Bool.eq_iff_iff, Bool.and_eq_true, List.all_eq_true, List.all_eq_true, List.all_eq_true]
  constructor
  · rintro ⟨h1, h2⟩ j hj
    rw [h1 j hj, h2 j hj]; rfl
  · intro hh
    exact ⟨fun j hj => ((Bool.and_eq_true _ _).mp (hh j hj)).1, fun j hj => ((Bool.and_eq_true _ _).mp (hh j hj)).2⟩

theorem updL_at {ic cof : Nat → Bool} {F O T n : Nat} (h : F ≠ O) (j : Nat) (hj : j < n) :
    updL (six cof F O) (onA (six cof F O) F ((List.range n).filter ic)) T j = if cof j then (if ic j then T else F) else O := by
  unfold updL
  have e : (onA (six cof F O) F ((List.range n).filter ic)).contains j = (ic j && cof j) := by
    rw [Bool.eq_iff_iff, List.contains_iff_mem, mem_onA h j, Bool.and_eq_true]
    exact ⟨fun x => x.2, fun x => ⟨hj, x⟩⟩
  rw [e]
  unfold six
  cases ic j <;> cases cof j <;> rfl

end Go.Proofs.Qxb6602363a
