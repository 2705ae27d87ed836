import Derived.Test.Qxb6602363aTab
namespace Go.Proofs.Qxb6602363a
open Go.RowKit
set_option linter.unusedVariables false

def KeysAt (w : World) (n : Nat) (kb : Nat → Nat) (cv rv : Nat → Value) (σ π : Nat → Nat) : Prop :=
  ∀ j, j < n → w.heap[kb j]? = some (.cells (kcells (cv j) (kp (σ j)) (rv j) (kp (π j))) 51 (0, 0))

/-- w' is w but for the keys and what is new -/
structure Off (w w' : World) (n : Nat) (kb : Nat → Nat) : Prop where
  os : w'.os = w.os
  tape : w'.tape = w.tape
  output : w'.output = w.output
  size : w.heap.size ≤ w'.heap.size
  block : ∀ k, k < w.heap.size → (∀ j, j < n → kb j ≠ k) → w'.heap[k]? = w.heap[k]?

theorem Off.refl (w : World) (n : Nat) (kb : Nat → Nat) : Off w w n kb := ⟨rfl, rfl, rfl, Nat.le_refl _, fun _ _ _ => rfl⟩

theorem Off.trans {a b c : World} {n : Nat} {kb : Nat → Nat} (h : Off a b n kb) (k : Off b c n kb) : Off a c n kb :=
  ⟨k.os.trans h.os, k.tape.trans h.tape, k.output.trans h.output, Nat.le_trans h.size k.size, fun i hi hj => (k.block i (Nat.lt_of_lt_of_le hi h.size) hj).trans (h.block i hi hj)⟩

theorem Off.of_below {w w' : World} {n : Nat} {kb : Nat → Nat} (h : Below w.heap.size w w') : Off w w' n kb := ⟨h.os, h.tape, h.output, h.size, fun k hk _ => h.block k hk⟩

theorem Off.below {w w' : World} {n : Nat} {kb : Nat → Nat} {B : Nat} (h : Off w w' n kb) (hk : ∀ j, j < n → B ≤ kb j) (hB : B ≤ w.heap.size) : Below B w w' :=
  ⟨h.os, h.tape, h.output, h.size, fun k hkB => h.block k (by omega) (fun j hj e => by have := hk j hj; omega)⟩

structure MV (w wr : World) (n : Nat) (kb : Nat → Nat) (cv rv : Nat → Value) (σ π : Nat → Nat) (c p : List Nat) (v7 v8 : Value) : Prop where
  off : Off w wr n kb
  key : KeysAt wr n kb cv rv σ π
  inj : ∀ i j, i < n → j < n → kb i = kb j → i = j
  lt : ∀ j, j < n → kb j < w.heap.size
  p1 : PR w.heap.size wr v7 c kb
  p2 : PR w.heap.size wr v8 p kb
  d : Dis v7 v8

theorem MV.swap {w wr : World} {n : Nat} {kb : Nat → Nat} {cv rv : Nat → Value} {σ π : Nat → Nat} {c p : List Nat} {v7 v8 : Value} (h : MV w wr n kb cv rv σ π c p v7 v8) : MV w wr n kb cv rv σ π p c v8 v7 :=
  ⟨h.off, h.key, h.inj, h.lt, h.p2, h.p1, h.d.symm⟩

theorem PR.same {B : Nat} {w w' : World} {v : Value} {ids : List Nat} {kb : Nat → Nat} (h : PR B w v ids kb) (hb : Below w.heap.size w w') : PR B w' v ids kb :=
  World.ownsRow.kept h (row := none) ⟨hb.os, hb.tape, hb.output, hb.size, fun k hk _ => hb.block k hk⟩ (by by_cases e : v.ownBlock = none; exact Or.inl e; exact Or.inr e)

theorem MV.same {w wr w' : World} {n : Nat} {kb : Nat → Nat} {cv rv : Nat → Value} {σ π : Nat → Nat} {c p : List Nat} {v7 v8 : Value} (h : MV w wr n kb cv rv σ π c p v7 v8) (hb : Below wr.heap.size wr w') : MV w w' n kb cv rv σ π c p v7 v8 :=
  ⟨h.off.trans (Off.of_below hb), fun j hj => by rw [hb.block _ (lt_of_heap (h.key j hj))]; exact h.key j hj, h.inj, h.lt, h.p1.same hb, h.p2.same hb, h.d⟩

theorem Appd.off {B : Nat} {w w' : World} {v : Value} {n' : Nat} {xs : List Value} {p : Nat} {v' : Value} {n : Nat} {kb : Nat → Nat} (ha : Appd B w v n' xs p v' w') (w0 : World) (h0 : Off w0 w n kb) (hv : ∀ g, v.ownBlock = some g → w0.heap.size ≤ g) : Off w0 w' n kb := by
  obtain ⟨_, h2, _, h4, h5, h6, h7⟩ := ha
  refine ⟨h4.trans h0.os, h5.trans h0.tape, h6.trans h0.output, Nat.le_trans h0.size h7, fun k hk hj => ?_⟩
  rw [h2 k (Nat.lt_of_lt_of_le hk h0.size) (fun e => by have := hv k e.symm; omega)]
  exact h0.block k hk hj

theorem MV.app1 {w wr w' : World} {n : Nat} {kb : Nat → Nat} {cv rv : Nat → Value} {σ π : Nat → Nat} {c p : List Nat} {v7 v8 v' : Value} (h : MV w wr n kb cv rv σ π c p v7 v8) (x : Nat)
    (ha : Appd w.heap.size wr v7 c.length (c.map fun j => kp (kb j)) (kb x) v' w') : MV w w' n kb cv rv σ π (c ++ [x]) p v' v8 where
  off := ha.off w h.off (fun g hg => (World.ownsRow.lt h.p1 g hg).1)
  key := fun j hj => by
    have k2 := h.key j hj
    rw [ha.2.1 _ (lt_of_heap k2) (PR.ne h.p1 k2)]; exact k2
  inj := h.inj
  lt := h.lt
  p1 := by unfold PR; rw [List.length_append, List.map_append]; exact ha.1
  p2 := h.p2.kept ha h.d.symm
  d := (Dis.app h.p2 ha h.d.symm).symm

theorem MV.open1 {w wr : World} {n : Nat} {kb : Nat → Nat} {cv rv : Nat → Value} {σ π : Nat → Nat} {c p : List Nat} {v7 v8 : Value} (h : MV w wr n kb cv rv σ π c p v7 v8) (N : Nat) (hN : c.length ≤ N) :
    ∃ m X, wr.ownsRow w.heap.size 39 1 v7 m X ∧ m ≤ N ∧ ∀ x v' w', Appd w.heap.size wr v7 m X (kb x) v' w' → MV w w' n kb cv rv σ π (c ++ [x]) p v' v8 ∧ Below w.heap.size wr w' :=
  ⟨_, _, h.p1, hN, fun x v' w' ha => ⟨h.app1 x ha, ha.below (fun g hg => (World.ownsRow.lt h.p1 g hg).1) h.off.size⟩⟩

def upd (σ : Nat → Nat) (x T : Nat) : Nat → Nat := fun j => if j = x then T else σ j

theorem kcells_set3 (c ci r pi x : Value) : (kcells c ci r pi).setIfInBounds 3 x = kcells c x r pi := rfl
theorem kcells_set8 (c ci r pi x : Value) : (kcells c ci r pi).setIfInBounds 8 x = kcells c ci r x := rfl

theorem PR.set {B : Nat} {w : World} {v : Value} {ids : List Nat} {kb : Nat → Nat} {b k : Nat} {A : Array Value} (h : PR B w v ids kb) (hb : w.heap[b]? = some (.cells A 51 (0, 0))) (x : Value) : PR B (w.setCell ⟨b, k, none⟩ x) v ids kb :=
  World.ownsRow.kept h (row := some b) ⟨rfl, rfl, rfl, by simp [World.setCell], fun i _ hi => Below.heap_setCell _ _ _ _ (fun e => hi (by simp [e]))⟩ (Or.inr (fun e => PR.ne h hb e.symm))

theorem MV.setC {w wr : World} {n : Nat} {kb : Nat → Nat} {cv rv : Nat → Value} {σ π : Nat → Nat} {c p : List Nat} {v7 v8 : Value} (h : MV w wr n kb cv rv σ π c p v7 v8) (x T : Nat) (hx : x < n) :
    MV w (wr.setCell ⟨kb x, 3, none⟩ (kp T)) n kb cv rv (upd σ x T) π c p v7 v8 where
  off := ⟨h.off.os, h.off.tape, h.off.output, by simp [World.setCell]; exact h.off.size, fun k hk hj => by
    rw [Below.heap_setCell _ _ _ _ (fun e => hj x hx e.symm)]; exact h.off.block k hk hj⟩
  key := fun j hj => by
    unfold upd
    by_cases e : j = x
    · subst e; rw [if_pos rfl, block_setCell wr _ 3 _ _ 51 (h.key j hj), kcells_set3]
    · rw [if_neg e, Below.heap_setCell _ _ _ _ (fun e2 => e (h.inj j x hj hx e2))]; exact h.key j hj
  inj := h.inj
  lt := h.lt
  p1 := h.p1.set (h.key x hx) _
  p2 := h.p2.set (h.key x hx) _
  d := h.d

theorem MV.setP {w wr : World} {n : Nat} {kb : Nat → Nat} {cv rv : Nat → Value} {σ π : Nat → Nat} {c p : List Nat} {v7 v8 : Value} (h : MV w wr n kb cv rv σ π c p v7 v8) (x T : Nat) (hx : x < n) :
    MV w (wr.setCell ⟨kb x, 8, none⟩ (kp T)) n kb cv rv σ (upd π x T) c p v7 v8 where
  off := ⟨h.off.os, h.off.tape, h.off.output, by simp [World.setCell]; exact h.off.size, fun k hk hj => by
    rw [Below.heap_setCell _ _ _ _ (fun e => hj x hx e.symm)]; exact h.off.block k hk hj⟩
  key := fun j hj => by
    unfold upd
    by_cases e : j = x
    · subst e; rw [if_pos rfl, block_setCell wr _ 8 _ _ 51 (h.key j hj), kcells_set8]
    · rw [if_neg e, Below.heap_setCell _ _ _ _ (fun e2 => e (h.inj j x hj hx e2))]; exact h.key j hj
  inj := h.inj
  lt := h.lt
  p1 := h.p1.set (h.key x hx) _
  p2 := h.p2.set (h.key x hx) _
  d := h.d

/-- σ with T at each of the first k of l -/
def updL (σ : Nat → Nat) (l : List Nat) (T : Nat) : Nat → Nat := fun j => if l.contains j then T else σ j

theorem updL_nil (σ : Nat → Nat) (T : Nat) : updL σ [] T = σ := by funext j; simp [updL]

theorem updL_snoc (σ : Nat → Nat) (l : List Nat) (x T : Nat) : upd (updL σ l T) x T = updL σ (l ++ [x]) T := by
  funext j
  unfold upd updL
  by_cases e : j = x
  · subst e; rw [if_pos rfl, if_pos (by simp)]
  · rw [if_neg e]
    by_cases h : l.contains j = true
    · rw [if_pos h, if_pos (by simp at h ⊢; exact Or.inl h)]
    · rw [if_neg h, if_neg (by simp at h ⊢; exact ⟨h, fun e2 => e e2⟩)]

end Go.Proofs.Qxb6602363a
