import Derived.Test.Qxb6602363aPrep
namespace Go.Proofs.Qxb6602363a
open Go.RowKit
set_option linter.unusedVariables false
set_option linter.unusedSimpArgs false

theorem six'_eq {i c : Nat → Bool} {F T O : Nat} (h1 : T ≠ F) (h2 : T ≠ O) (j : Nat) : (six' true i c F T O j == T) = (i j && c j) := by
  unfold six'
  cases c j <;> cases i j <;> simp
  · exact fun e => h2 e.symm
  · exact fun e => h2 e.symm
  · exact fun e => h1 e.symm

theorem mem_back {i c : Nat → Bool} {F T O n : Nat} (h1 : T ≠ F) (h2 : T ≠ O) (j : Nat) : j ∈ onA (six' true i c F T O) T ((List.range n).filter i) ↔ j < n ∧ i j = true ∧ c j = true := by
  unfold onA
  rw [List.mem_filter, List.mem_filter, List.mem_range, six'_eq h1 h2, Bool.and_eq_true]
  exact ⟨fun h => ⟨h.1.1, h.2⟩, fun h => ⟨⟨h.1, h.2.1⟩, h.2⟩⟩

theorem back_at {i c : Nat → Bool} {F T O n : Nat} (h1 : T ≠ F) (h2 : T ≠ O) (j : Nat) (hj : j < n) :
    updL (six' true i c F T O) (onA (six' true i c F T O) T ((List.range n).filter i)) F j = six c F O j := by
  unfold updL
  have e : (onA (six' true i c F T O) T ((List.range n).filter i)).contains j = (i j && c j) := by
    rw [Bool.eq_iff_iff, List.contains_iff_mem, mem_back h1 h2 j, Bool.and_eq_true]
    exact ⟨fun x => x.2, fun x => ⟨hj, x⟩⟩
  rw [e]
  unfold six six'
  cases i j <;> cases c j <;> rfl

theorem back_yes {ic ip cof pof : Nat → Bool} {F T O n : Nat} {L1 L2 : Nat → Nat} {Z1 Z2 : Nat → Nat → Int} {nf : Nat} {zf : Nat → Int} (h1 : T ≠ F) (h2 : T ≠ O) (hs : Ser L1 L2 Z1 Z2 nf zf ic ip cof pof n) (hon : onF ic cof n = true) :
    mvB T (six' true ic cof F T O) (six' true ip pof F T O) ((List.range n).filter ic) ((List.range n).filter ip) L1 L2 Z1 Z2 nf zf = true := by
  refine mvB_yes ?_ ?_ ?_
  · unfold allPre
    rw [List.all_eq_true]
    intro j hj
    obtain ⟨a, b, c⟩ := (mem_back h1 h2 j).1 hj
    exact (hs j a).1 b c
  · unfold allPre
    rw [List.all_eq_true]
    intro j hj
    obtain ⟨a, b, c⟩ := (mem_back h1 h2 j).1 hj
    exact (hs j a).2 b c
  · unfold onF at hon
    obtain ⟨a, ha, hb⟩ := List.any_eq_true.1 hon
    rw [Bool.and_eq_true] at hb
    have := (mem_back (O := O) h1 h2 a).2 ⟨List.mem_range.1 ha, hb.1, hb.2⟩
    intro e
    rw [List.length_eq_zero_iff.1 e] at this
    exact absurd this List.not_mem_nil

theorem six'_ix {z : World} {F T O : Nat} {i c : Nat → Bool} {v vt : Value} (h1 : z.heap[F]? = some (.cells (icells v) 44 (0, 0))) (h2 : z.heap[O]? = some (.cells (icells v) 44 (0, 0))) (h3 : z.heap[T]? = some (.cells (icells vt) 44 (0, 0))) (j : Nat) : ∃ c', z.heap[six' true i c F T O j]? = some (.cells (icells c') 44 (0, 0)) := by
  unfold six'
  cases c j <;> cases i j
  · exact ⟨v, h2⟩
  · exact ⟨v, h2⟩
  · exact ⟨v, h1⟩
  · exact ⟨vt, h3⟩

section
variable {w z : World} {F O n0 n1 n : Nat} {u0 u1 u2 u3 u4 u5 u6 u7 : Value} {z0 z1 : Nat → Int} {cv rv : Nat → Value} {L1 L2 : Nat → Nat} {Z1 Z2 : Nat → Nat → Int} {ic ip cof pof : Nat → Bool}

theorem Pre.back (h : Pre w z F O n0 n1 n u0 u1 u2 u3 u4 u5 u6 u7 z0 z1 cv rv L1 L2 Z1 Z2 ic ip cof pof) {wb : World} {tb : Nat} {kb : Nat → Nat} {v1 v2 v3 : Value} {T : Nat} {vt : Value}
    (hS : Stg z wb tb n kb cv rv (six' true ic cof F T O) (six' true ip pof F T O) ((List.range n).filter ic) ((List.range n).filter ip) v1 v2 v3)
    (iT : z.heap[T]? = some (.cells (icells vt) 44 (0, 0))) (h1 : T ≠ F) (h2 : T ≠ O) (hs : Ser L1 L2 Z1 Z2 n0 z0 ic ip cof pof n) (hon : onF ic cof n = true) :
    Calls Try.prog 12 #[.pointer (some ⟨tb, 0, none⟩), .pointer (some ⟨T, 0, none⟩), .pointer (some ⟨F, 0, none⟩)] wb fun e w' => e = .returned (.bool true) ∧
      Stg z w' tb n kb cv rv (six cof F O) (six pof F O) ((List.range n).filter ic) ((List.range n).filter ip) v1 v2 v3 :=
  (moveZ_any tb T F n kb cv rv _ _ _ _ v2 v3 u0 L1 L2 Z1 Z2 n0 z0 wb (hS.mvIn ⟨_, iT⟩ (fun j _ => six'_ix h.iF h.iO iT j) (fun j _ => six'_ix h.iF h.iO iT j) h.iF h.s0 h.c2 h.c3 (filter_len _ _ h.hn) (filter_len _ _ h.hn))).mono (by
    rintro e w' ⟨rfl, h3, h4⟩
    rw [back_yes h1 h2 hs hon] at h4 ⊢
    refine ⟨rfl, (hS.moved h3 h4).alter (fun j hj => ?_) (fun j hj => ?_)⟩
    · rw [if_pos rfl]; exact back_at h1 h2 j hj
    · rw [if_pos rfl]; exact back_at h1 h2 j hj)

end
end Go.Proofs.Qxb6602363a
