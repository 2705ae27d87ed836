import Derived.Test.Qxb6602363aMvl
namespace Go.Proofs.Qxb6602363a
open Go.RowKit
set_option linter.unusedVariables false
set_option linter.unusedSimpArgs false

theorem PR.sl {B : Nat} {w : World} {v : Value} {ids : List Nat} {kb : Nat → Nat} (h : PR B w v ids kb) : Sl w v ids.length (fun j => kp (kb (ids.getD j 0))) := by
  have h0 := h
  rcases h.2 with ⟨hv, hn⟩ | ⟨g, cap, cur, hv, hb, hg, h1, h2, h3, h4⟩
  · rw [hn]; exact ⟨none, 0, hv, Nat.le_refl _, Nat.zero_le _, fun _ => rfl, Or.inl rfl⟩
  · refine ⟨_, cap, hv, h1, h2, (fun e => by cases e), Or.inr ⟨g, 0, rfl, fun j hj => ?_⟩⟩
    subst hv
    rw [Nat.zero_add, World.ownsRow.cellAt h0 j (by omega), List.getElem?_map, List.getElem?_eq_getElem hj]
    rw [List.getElem_eq_getD (h := hj) 0]; rfl

theorem Sl.at {w : World} {b o n cap m : Nat} {g : Nat → Value} (h : Sl w (.slice (some ⟨b, o, none⟩) n cap) m g) (j : Nat) (hj : j < m) : w.cell? ⟨b, o + j, none⟩ = some (g j) := by
  obtain ⟨a, c, h1, _, _, _, h5⟩ := h
  rcases h5 with h5 | ⟨b', o', h6, h7⟩
  · omega
  · injection h1 with e1 e2 e3
    subst h6
    injection e1 with e1
    injection e1 with e1 e4
    subst e1; subst e4
    exact h7 j hj

/-- the last two loops -/
def RC (w : World) (n : Nat) (kb : Nat → Nat) (cv rv : Nat → Value) (σ π : Nat → Nat) (T : Nat) (c p : List Nat) (v7 v8 : Value) (k : Nat) (wr : World) : Prop :=
  MV w wr n kb cv rv (updL σ (c.take k) T) π c p v7 v8

def RP (w : World) (n : Nat) (kb : Nat → Nat) (cv rv : Nat → Value) (σ π : Nat → Nat) (T : Nat) (c p : List Nat) (v7 v8 : Value) (k : Nat) (wr : World) : Prop :=
  MV w wr n kb cv rv σ (updL π (p.take k) T) c p v7 v8

theorem RC.step {w : World} {n : Nat} {kb : Nat → Nat} {cv rv : Nat → Value} {σ π : Nat → Nat} {T : Nat} {c p : List Nat} {b o m cap : Nat} {v8 : Value} {k : Nat} {wr : World}
    (h : RC w n kb cv rv σ π T c p (.slice (some ⟨b, o, none⟩) m cap) v8 k wr) (hk : k < c.length) (hl : ∀ j ∈ c, j < n) :
    ∃ K, wr.cell? ⟨b, o + k, none⟩ = some (.pointer (some ⟨K, 0, none⟩)) ∧ (∃ y, wr.cell? ⟨K, 3, none⟩ = some y) ∧ wr.frozen? ⟨K, 3, none⟩ = false ∧
      Hid (RC w n kb cv rv σ π T c p (.slice (some ⟨b, o, none⟩) m cap) v8 (k + 1) (wr.setCell ⟨K, 3, none⟩ (.pointer (some ⟨T, 0, none⟩)))) := by
  unfold RC at h
  obtain ⟨J, hJ⟩ : ∃ J, c.getD k 0 = J := ⟨_, rfl⟩
  have hn : J < n := hl J (hJ ▸ getD_mem c k hk)
  have hr := h.p1.sl.at k hk
  simp only [hJ] at hr
  refine ⟨kb J, hr, ⟨kp (updL σ (c.take k) T J), by rw [Lib.cell_of_heap (h.key J hn)]; rfl⟩, Lib.frozen_of_heap (h.key J hn) 3, ?_⟩
  show RC _ _ _ _ _ _ _ _ _ _ _ _ _ _
  unfold RC
  rw [take_snoc c k hk, hJ, ← updL_snoc]
  exact h.setC J T hn

theorem RP.step {w : World} {n : Nat} {kb : Nat → Nat} {cv rv : Nat → Value} {σ π : Nat → Nat} {T : Nat} {c p : List Nat} {b o m cap : Nat} {v7 : Value} {k : Nat} {wr : World}
    (h : RP w n kb cv rv σ π T c p v7 (.slice (some ⟨b, o, none⟩) m cap) k wr) (hk : k < p.length) (hl : ∀ j ∈ p, j < n) :
    ∃ K, wr.cell? ⟨b, o + k, none⟩ = some (.pointer (some ⟨K, 0, none⟩)) ∧ (∃ y, wr.cell? ⟨K, 8, none⟩ = some y) ∧ wr.frozen? ⟨K, 8, none⟩ = false ∧
      Hid (RP w n kb cv rv σ π T c p v7 (.slice (some ⟨b, o, none⟩) m cap) (k + 1) (wr.setCell ⟨K, 8, none⟩ (.pointer (some ⟨T, 0, none⟩)))) := by
  unfold RP at h
  obtain ⟨J, hJ⟩ : ∃ J, p.getD k 0 = J := ⟨_, rfl⟩
  have hn : J < n := hl J (hJ ▸ getD_mem p k hk)
  have hr := h.p2.sl.at k hk
  simp only [hJ] at hr
  refine ⟨kb J, hr, ⟨kp (updL π (p.take k) T J), by rw [Lib.cell_of_heap (h.key J hn)]; rfl⟩, Lib.frozen_of_heap (h.key J hn) 8, ?_⟩
  show RP _ _ _ _ _ _ _ _ _ _ _ _ _ _
  unfold RP
  rw [take_snoc p k hk, hJ, ← updL_snoc]
  exact h.setP J T hn

end Go.Proofs.Qxb6602363a
