import Derived.Test.Qxb6602363aClone2
import Derived.Deep.AppendLies
namespace Go.Proofs.Qxb6602363a
open Go.RowKit
set_option linter.unusedVariables false

theorem info39 : (Try.prog.info? 39).map (fun i => (i.zero, i.size, i.bytes)) = some (some (.pointer none), 1, 8) := by kernel_rfl

def kp (b : Nat) : Value := .pointer (some ⟨b, 0, none⟩)

/-- what 'append(v, p)' leaves of the world w in which v owns xs -/
def Appd (B : Nat) (w : World) (v : Value) (n : Nat) (xs : List Value) (p : Nat) (v' : Value) (w' : World) : Prop :=
  w'.ownsRow B 39 1 v' (n + 1) (xs ++ [kp p]) ∧ (∀ k, k < w.heap.size → some k ≠ v.ownBlock → w'.heap[k]? = w.heap[k]?) ∧ (v'.ownBlock = v.ownBlock ∨ ∃ g, v'.ownBlock = some g ∧ w.heap.size ≤ g) ∧
  w'.os = w.os ∧ w'.tape = w.tape ∧ w'.output = w.output ∧ w.heap.size ≤ w'.heap.size

theorem append_ptr (w W : World) {ops : Array Oper} {rest : List Oper} {o : Oper} {a : Act} {Q : Exit → Act → World → Prop} (hg : o.guard = none) (s x : Operand) (hop : o.op = Op.call { callee := Callee.builtin Builtin.append, args := #[s, x], argTypes := #[32, 32] })
    (B : Nat) (v : Value) (n : Nat) (xs : List Value) (p H : Nat) (hH : w.heap.size = H) (hs : a.eval s = v) (hx : a.eval x = .slice (some ⟨H, 0, none⟩) 1 1) (hown : w.ownsRow B 39 1 v n xs) (hB : B ≤ w.heap.size) (hlen : n ≤ 1048576)
    (hW1 : Below w.heap.size w W) (hW2 : W.heap[w.heap.size]? = some (.cells #[.pointer (some ⟨p, 0, none⟩)] 39 (0, 0)))
    (h : ∀ g cap w', Appd B w v n xs p (.slice (some ⟨g, 0, none⟩) (n + 1) cap) w' → wpList Try.prog ops Q rest (a.put o.dst (.slice (some ⟨g, 0, none⟩) (n + 1) cap)) w') :
    wpList Try.prog ops Q (o :: rest) a W := by
  subst hH
  obtain ⟨i0, hi, hz0, hz1, hz2⟩ := info_parts info39
  have hownW : W.ownsRow B 39 1 v n xs := World.ownsRow.kept hown (row := none) ⟨hW1.os, hW1.tape, hW1.output, hW1.size, fun k hk _ => hW1.block k hk⟩ (by by_cases e : v.ownBlock = none; exact Or.inl e; exact Or.inr e)
  have hlt := lt_of_heap hW2
  refine wpList_append_lies _ hg s x 32 hop B 39 i0 (.pointer none) 1 8 Try.underlying32 hi hz0 hz1 hz2 rfl (by decide) v n xs hs hownW ⟨w.heap.size, 0, none⟩ 1 1 [kp p] hx rfl ?_ ?_ (by decide) ?_ ?_ ?_ _ rfl ?_
  · intro j y hj
    match j, hj with
    | 0, hj => simp [kp] at hj; subst hj; simp [Addr.add, World.cell?, hW2]
  · intro y hy; simp [kp] at hy; subst hy; rfl
  · unfold maxLen; omega
  · omega
  · omega
  · intro g cap w' hown' hgrow hat hlt'
    refine h g cap w' ⟨hown', ?_, ?_, hgrow.os.trans hW1.os, hgrow.tape.trans hW1.tape, hgrow.output.trans hW1.output, ?_⟩
    · intro k hk hne
      rw [hgrow.block k (by omega) (fun e => hne e)]
      exact hW1.block k hk
    · rcases hat with h1 | h1
      · left; rw [h1]; rfl
      · right; exact ⟨g, rfl, by omega⟩
    · have := hgrow.size; omega

/-- a slice of pointers to the keys 'ids' -/
def PR (B : Nat) (wr : World) (v : Value) (ids : List Nat) (kb : Nat → Nat) : Prop := wr.ownsRow B 39 1 v ids.length (ids.map fun j => kp (kb j))

def Dis (u v : Value) : Prop := u.ownBlock = none ∨ u.ownBlock ≠ v.ownBlock

theorem Dis.symm {u v : Value} (h : Dis u v) : Dis v u := by
  unfold Dis at *
  rcases h with h | h
  · by_cases e : v.ownBlock = none
    · exact Or.inl e
    · right; rw [h]; exact e
  · exact Or.inr (fun e => h e.symm)

/-- the table in the making: nk keys in blocks kb, three slices of pointers to them -/
structure BTS (w wr : World) (nk : Nat) (kb : Nat → Nat) (kc : Nat → Array Value) (i1 i2 i3 : List Nat) (v1 v2 v3 : Value) : Prop where
  bel : Below w.heap.size w wr
  key : ∀ j, j < nk → w.heap.size ≤ kb j ∧ wr.heap[kb j]? = some (.cells (kc j) 51 (0, 0))
  inj : ∀ i j, i < nk → j < nk → kb i = kb j → i = j
  lt1 : ∀ j ∈ i1, j < nk
  lt2 : ∀ j ∈ i2, j < nk
  lt3 : ∀ j ∈ i3, j < nk
  p1 : PR w.heap.size wr v1 i1 kb
  p2 : PR w.heap.size wr v2 i2 kb
  p3 : PR w.heap.size wr v3 i3 kb
  d12 : Dis v1 v2
  d13 : Dis v1 v3
  d23 : Dis v2 v3

theorem PR.kept {B : Nat} {w w' : World} {u v : Value} {ids : List Nat} {kb : Nat → Nat} {n : Nat} {xs : List Value} {p : Nat} {v' : Value} (h : PR B w u ids kb) (ha : Appd B w v n xs p v' w') (hd : Dis u v) : PR B w' u ids kb := by
  obtain ⟨_, h2, _, h4, h5, h6, h7⟩ := ha
  exact World.ownsRow.kept h ⟨h4, h5, h6, h7, h2⟩ hd

theorem Dis.app {B : Nat} {w w' : World} {u v : Value} {ids : List Nat} {kb : Nat → Nat} {n : Nat} {xs : List Value} {p : Nat} {v' : Value} (h : PR B w u ids kb) (ha : Appd B w v n xs p v' w') (hd : Dis u v) : Dis u v' := by
  obtain ⟨_, _, h3, _⟩ := ha
  rcases h3 with h3 | ⟨g, h3, hg⟩
  · unfold Dis at *; rw [h3]; exact hd
  · by_cases e : u.ownBlock = none
    · exact Or.inl e
    · right
      intro e2
      rw [h3] at e2
      have := (World.ownsRow.lt h g e2).2
      omega

/-- an owned row of pointers is no key -/
theorem PR.ne {B : Nat} {w : World} {v : Value} {ids : List Nat} {kb : Nat → Nat} (h : PR B w v ids kb) {b : Nat} {A : Array Value} (hb : w.heap[b]? = some (.cells A 51 (0, 0))) : some b ≠ v.ownBlock :=
  fun e => Lib.ownBlock_ne h hb (by decide) e.symm

theorem Appd.below {B : Nat} {w w' : World} {v : Value} {n : Nat} {xs : List Value} {p : Nat} {v' : Value} (ha : Appd B w v n xs p v' w') (hv : ∀ g, v.ownBlock = some g → B ≤ g) (hB : B ≤ w.heap.size) : Below B w w' := by
  obtain ⟨_, h2, _, h4, h5, h6, h7⟩ := ha
  exact ⟨h4, h5, h6, h7, fun k hk => h2 k (by omega) (fun e => by have := hv k e.symm; omega)⟩

theorem BTS.app1 {w wr w' : World} {nk : Nat} {kb : Nat → Nat} {kc : Nat → Array Value} {i1 i2 i3 : List Nat} {v1 v2 v3 v' : Value} (h : BTS w wr nk kb kc i1 i2 i3 v1 v2 v3) (x : Nat) (hx : x < nk)
    (ha : Appd w.heap.size wr v1 i1.length (i1.map fun j => kp (kb j)) (kb x) v' w') : BTS w w' nk kb kc (i1 ++ [x]) i2 i3 v' v2 v3 where
  bel := h.bel.trans (ha.below (fun g hg => (World.ownsRow.lt h.p1 g hg).1) h.bel.size)
  key := fun j hj => by
    obtain ⟨k1, k2⟩ := h.key j hj
    refine ⟨k1, ?_⟩
    rw [ha.2.1 _ (lt_of_heap k2) (PR.ne h.p1 k2)]; exact k2
  inj := h.inj
  lt1 := fun j hj => by
    rcases List.mem_append.1 hj with hj | hj
    · exact h.lt1 j hj
    · simp at hj; omega
  lt2 := h.lt2
  lt3 := h.lt3
  p1 := by unfold PR; rw [List.length_append, List.map_append]; exact ha.1
  p2 := h.p2.kept ha h.d12.symm
  p3 := h.p3.kept ha h.d13.symm
  d12 := (Dis.app h.p2 ha h.d12.symm).symm
  d13 := (Dis.app h.p3 ha h.d13.symm).symm
  d23 := h.d23

theorem BTS.swap12 {w wr : World} {nk : Nat} {kb : Nat → Nat} {kc : Nat → Array Value} {i1 i2 i3 : List Nat} {v1 v2 v3 : Value} (h : BTS w wr nk kb kc i1 i2 i3 v1 v2 v3) : BTS w wr nk kb kc i2 i1 i3 v2 v1 v3 :=
  ⟨h.bel, h.key, h.inj, h.lt2, h.lt1, h.lt3, h.p2, h.p1, h.p3, h.d12.symm, h.d23, h.d13⟩

theorem BTS.swap13 {w wr : World} {nk : Nat} {kb : Nat → Nat} {kc : Nat → Array Value} {i1 i2 i3 : List Nat} {v1 v2 v3 : Value} (h : BTS w wr nk kb kc i1 i2 i3 v1 v2 v3) : BTS w wr nk kb kc i3 i2 i1 v3 v2 v1 :=
  ⟨h.bel, h.key, h.inj, h.lt3, h.lt2, h.lt1, h.p3, h.p2, h.p1, h.d23.symm, h.d13.symm, h.d12.symm⟩

theorem BTS.same {w wr w' : World} {nk : Nat} {kb : Nat → Nat} {kc : Nat → Array Value} {i1 i2 i3 : List Nat} {v1 v2 v3 : Value} (h : BTS w wr nk kb kc i1 i2 i3 v1 v2 v3) (hb : Below wr.heap.size wr w') : BTS w w' nk kb kc i1 i2 i3 v1 v2 v3 where
  bel := h.bel.trans (hb.mono h.bel.size)
  key := fun j hj => by
    obtain ⟨k1, k2⟩ := h.key j hj
    exact ⟨k1, by rw [hb.block _ (lt_of_heap k2)]; exact k2⟩
  inj := h.inj
  lt1 := h.lt1
  lt2 := h.lt2
  lt3 := h.lt3
  p1 := World.ownsRow.kept h.p1 (row := none) ⟨hb.os, hb.tape, hb.output, hb.size, fun k hk _ => hb.block k hk⟩ (by by_cases e : v1.ownBlock = none; exact Or.inl e; exact Or.inr e)
  p2 := World.ownsRow.kept h.p2 (row := none) ⟨hb.os, hb.tape, hb.output, hb.size, fun k hk _ => hb.block k hk⟩ (by by_cases e : v2.ownBlock = none; exact Or.inl e; exact Or.inr e)
  p3 := World.ownsRow.kept h.p3 (row := none) ⟨hb.os, hb.tape, hb.output, hb.size, fun k hk _ => hb.block k hk⟩ (by by_cases e : v3.ownBlock = none; exact Or.inl e; exact Or.inr e)
  d12 := h.d12
  d13 := h.d13
  d23 := h.d23

/-- a key more: its block is the one at the heap's end -/
theorem BTS.new {w wr : World} {nk : Nat} {kb : Nat → Nat} {kc : Nat → Array Value} {i1 i2 i3 : List Nat} {v1 v2 v3 : Value} (h : BTS w wr nk kb kc i1 i2 i3 v1 v2 v3) :
    BTS w (wr.alloc (.cells (kc nk) 51)) (nk + 1) (fun j => if j = nk then wr.heap.size else kb j) kc i1 i2 i3 v1 v2 v3 := by
  have hs := h.same ((Below.refl wr.heap.size wr).alloc (Nat.le_refl _) (.cells (kc nk) 51))
  have hm : ∀ l : List Nat, (∀ j ∈ l, j < nk) → (l.map fun j => kp (if j = nk then wr.heap.size else kb j)) = l.map fun j => kp (kb j) := by
    intro l hl
    apply List.map_congr_left
    intro j hj
    rw [if_neg (by have := hl j hj; omega)]
  refine ⟨hs.bel, ?_, ?_, fun j hj => Nat.lt_succ_of_lt (h.lt1 j hj), fun j hj => Nat.lt_succ_of_lt (h.lt2 j hj), fun j hj => Nat.lt_succ_of_lt (h.lt3 j hj), ?_, ?_, ?_, h.d12, h.d13, h.d23⟩
  · intro j hj
    by_cases e : j = nk
    · subst e; rw [if_pos rfl]; exact ⟨h.bel.size, heap_alloc_new wr _⟩
    · rw [if_neg e]; exact hs.key j (by omega)
  · intro i j hi hj
    by_cases e : i = nk
    · by_cases e2 : j = nk
      · omega
      · rw [if_pos e, if_neg e2]; intro e3
        have := lt_of_heap (h.key j (by omega)).2
        omega
    · by_cases e2 : j = nk
      · rw [if_neg e, if_pos e2]; intro e3
        have := lt_of_heap (h.key i (by omega)).2
        omega
      · rw [if_neg e, if_neg e2]; exact h.inj i j (by omega) (by omega)
  · unfold PR; rw [hm i1 h.lt1]; exact hs.p1
  · unfold PR; rw [hm i2 h.lt2]; exact hs.p2
  · unfold PR; rw [hm i3 h.lt3]; exact hs.p3

theorem BTS.open1 {w wr : World} {nk : Nat} {kb : Nat → Nat} {kc : Nat → Array Value} {i1 i2 i3 : List Nat} {v1 v2 v3 : Value} (h : BTS w wr nk kb kc i1 i2 i3 v1 v2 v3) (N : Nat) (hN : i1.length ≤ N) :
    ∃ n X, wr.ownsRow w.heap.size 39 1 v1 n X ∧ n ≤ N ∧ ∀ x, x < nk → ∀ v' w', Appd w.heap.size wr v1 n X (kb x) v' w' → BTS w w' nk kb kc (i1 ++ [x]) i2 i3 v' v2 v3 :=
  ⟨_, _, h.p1, hN, fun x hx v' w' ha => h.app1 x hx ha⟩

end Go.Proofs.Qxb6602363a
