import Derived.Test.Qxb6602127aPlain
import Derived.WalkKit
import Derived.WalkSpells
import Derived.Test.Qxb6602127aBuild
import Derived.Laws.BytesArg
namespace Go.Proofs.Qxb6602127a.U
open Go.RowKit
set_option linter.unusedVariables false

theorem infoByte : (Try.prog.info? 5).map (fun i => (i.zero, i.size, i.bytes)) = some (some (.int .u8 0), 1, 1) := by kernel_rfl

/-- the bytes that a slice of the call's own holds -/
def Owns (w : World) (B : Nat) (v : Value) (l : List UInt8) : Prop := w.ownsRow B 5 1 v l.length (Lib.byteCells l)

/-- one byte more behind a row of the call's own: 'out = append(out, c)' -/
theorem append_byte (w : World) {ops : Array Oper} {rest : List Oper} {o : Oper} {a : Act} {Q : Exit → Act → World → Prop} (hg : o.guard = none) (s x : Operand) (hop : o.op = Op.call { callee := Callee.builtin Builtin.append, args := #[s, x], argTypes := #[29, 29] })
    (B : Nat) (v : Value) (l : List UInt8) (u : UInt8) (hs : a.eval s = v) (hx : a.eval x = .slice (some ⟨w.heap.size, 0, none⟩) 1 1) (hown : Owns w B v l) (hB : B ≤ w.heap.size) (hlen : l.length + 1 ≤ 140737488355328)
    (h : ∀ v' w', Owns w' B v' (l ++ [u]) → Below B w w' → wpList Try.prog ops Q rest (a.put o.dst v') w') :
    wpList Try.prog ops Q (o :: rest) a (w.alloc (.cells #[.int .u8 (u.toNat : Int)] 5)) := by
  obtain ⟨i0, hi, hz0, hz1, hz2⟩ := info_parts infoByte
  refine wpList_append_own _ hg s x 29 hop B 5 i0 (.int .u8 0) 1 1 Try.underlying29 hi hz0 hz1 hz2 rfl (by decide) v _ _ hs (World.ownsRow.alloc hown _) ⟨w.heap.size, 0, none⟩ 1 1 [.int .u8 (u.toNat : Int)] hx rfl ?_ ?_ ?_ ?_ ?_ ?_
  · intro j y hj
    match j, hj with
    | 0, hj => simp at hj; subst hj; simp [Addr.add]
  · intro y hy; simp at hy; subst hy; rfl
  · unfold maxLen; omega
  · omega
  · simp; omega
  · intro v' w' hown' hgrow _
    refine h v' w' ?_ ?_
    · unfold Owns; rw [Lib.byteCells_append, List.length_append]; exact hown'
    · exact ((Below.refl B w).alloc hB _).grown hgrow (by simp; omega) (fun k hk => (World.ownsRow.lt hown k hk).1)

theorem drop_cons (s : ByteArray) (k : Nat) (h : k < s.size) : s.data.toList.drop k = s[k] :: s.data.toList.drop (k + 1) := by
  rw [List.drop_eq_getElem_cons (by simpa using h)]; rfl

theorem drop_end (s : ByteArray) (k : Nat) (h : s.size ≤ k) : s.data.toList.drop k = [] := by
  rw [List.drop_eq_nil_iff]; simpa using h

theorem escaped_any (d x : UInt8) (w : World) (h : Plain.escaped d = some x) :
    Calls Try.prog 17 #[.int .u8 (d.toNat : Int)] w fun e w' => e = .returned (.tuple #[.int .u8 (x.toNat : Int), .bool true]) ∧ w' = w := by
  unfold Plain.escaped at h
  by_cases h92 : d.toNat = 92
  · rw [if_pos h92] at h
    obtain rfl : x = 92 := (Option.some.inj h).symm
    have b1 : 92 ≤ d.toNat := by omega
    have b2 : d.toNat ≤ 92 := by omega
    clear h h92
    go_enter Try.func17, Try.ntmps17
    go_wp2
    go_ret2
    exact ⟨rfl, rfl⟩
  rw [if_neg h92] at h
  by_cases h34 : d.toNat = 34
  · rw [if_pos h34] at h
    obtain rfl : x = 34 := (Option.some.inj h).symm
    have b1 : 34 ≤ d.toNat := by omega
    have b2 : d.toNat ≤ 34 := by omega
    clear h h34
    go_enter Try.func17, Try.ntmps17
    go_wp2
    go_ret2
    exact ⟨rfl, rfl⟩
  rw [if_neg h34] at h
  by_cases h110 : d.toNat = 110
  · rw [if_pos h110] at h
    obtain rfl : x = 10 := (Option.some.inj h).symm
    have b1 : 110 ≤ d.toNat := by omega
    have b2 : d.toNat ≤ 110 := by omega
    clear h h110
    go_enter Try.func17, Try.ntmps17
    go_wp2
    go_ret2
    exact ⟨rfl, rfl⟩
  rw [if_neg h110] at h
  by_cases h114 : d.toNat = 114
  · rw [if_pos h114] at h
    obtain rfl : x = 13 := (Option.some.inj h).symm
    have b1 : 114 ≤ d.toNat := by omega
    have b2 : d.toNat ≤ 114 := by omega
    clear h h114
    go_enter Try.func17, Try.ntmps17
    go_wp2
    go_ret2
    exact ⟨rfl, rfl⟩
  rw [if_neg h114] at h
  by_cases h116 : d.toNat = 116
  · rw [if_pos h116] at h
    obtain rfl : x = 9 := (Option.some.inj h).symm
    have b1 : 116 ≤ d.toNat := by omega
    have b2 : d.toNat ≤ 116 := by omega
    clear h h116
    go_enter Try.func17, Try.ntmps17
    go_wp2
    go_ret2
    exact ⟨rfl, rfl⟩
  rw [if_neg h116] at h
  cases h

/-- the bytes of a slice that owns them, as a string -/
theorem conv_own (w : World) (B g cap : Nat) (l : List UInt8) (h : Owns w B (.slice (some ⟨g, 0, none⟩) l.length cap) l) :
    (convert 29 9 (.slice (some ⟨g, 0, none⟩) l.length cap)).run Try.prog w = .ok (.string ⟨l.toArray⟩) w := by
  have e : strOfNums (l.map fun c => (c.toNat : Int)) = ⟨l.toArray⟩ := by
    unfold strOfNums
    congr 2
    rw [List.map_map]
    have : ((fun n : Int => UInt8.ofNat n.toNat) ∘ fun c : UInt8 => (c.toNat : Int)) = id := by
      funext c; simp
    rw [this, List.map_id]
  rw [← e]
  refine run_convert_bytes_arg (P := Try.prog) w 29 5 Try.underlying29 Try.underlying5 g 0 l.length cap (l.map fun c => (c.toNat : Int)) (by simp) ?_ 9 Try.underlying9
  intro i hi
  have := World.ownsRow.cells h (g := g) rfl i (.int .u8 (l[i].toNat : Int)) (by simp [Lib.byteCells, hi])
  have hplain : (⟨g, 0, none⟩ : Addr).add i = ⟨g, 0 + i, none⟩ := by unfold Addr.add; split <;> simp_all
  rw [hplain] at this
  rw [this]
  simp [List.getD, hi]

theorem unq_none (f : Nat) (out : List UInt8) (c : UInt8) (t : List UInt8) (R : List UInt8) (h : Plain.unq (f + 1) out (c :: t) = some R) :
    (c.toNat = 92 ∧ ∃ d u x, t = d :: u ∧ Plain.escaped d = some x ∧ Plain.unq f (out ++ [x]) u = some R) ∨
    (¬ c.toNat = 92 ∧ Plain.bad c = false ∧ ((Plain.sig c = true ∧ Plain.dbl c t = true ∧ Plain.unq f (out ++ [c] ++ [123]) (t.drop 2) = some R) ∨
      ((Plain.sig c && Plain.dbl c t) = false ∧ (Plain.sig c && Plain.hd t) = false ∧ Plain.unq f (out ++ [c]) t = some R))) := by
  by_cases h1 : c.toNat = 92
  · left
    refine ⟨h1, ?_⟩
    cases t with
    | nil => simp [Plain.unq, h1] at h
    | cons d u =>
      cases he : Plain.escaped d with
      | none => simp [Plain.unq, h1, he] at h
      | some x => simp [Plain.unq, h1, he] at h; exact ⟨d, u, x, rfl, he, h⟩
  · right
    rw [Plain.unq_cons _ _ _ _ h1] at h
    refine ⟨h1, ?_⟩
    cases hb : Plain.bad c with
    | true => simp [hb] at h
    | false =>
      refine ⟨rfl, ?_⟩
      rw [hb, if_neg (by simp)] at h
      cases hd : (Plain.sig c && Plain.dbl c t) with
      | true =>
        rw [hd, if_pos rfl] at h
        simp at hd
        exact Or.inl ⟨hd.1, hd.2, h⟩
      | false =>
        rw [hd, if_neg (by simp)] at h
        cases hh : (Plain.sig c && Plain.hd t) with
        | true => rw [hh, if_pos rfl] at h; cases h
        | false => rw [hh, if_neg (by simp)] at h; exact Or.inr ⟨rfl, rfl, h⟩

theorem bad_no (c : UInt8) (h : Plain.bad c = false) : c.toNat ≠ 92 ∧ c.toNat ≠ 34 ∧ c.toNat ≠ 10 ∧ c.toNat ≠ 13 ∧ c.toNat ≠ 9 := by
  unfold Plain.bad at h; simp at h; omega

theorem sig_or (c : UInt8) (h : Plain.sig c = true) : c.toNat = 36 ∨ c.toNat = 37 := by
  unfold Plain.sig at h; simpa using h

theorem sig_of (c : UInt8) (h : c.toNat = 36 ∨ c.toNat = 37) : Plain.sig c = true := by
  unfold Plain.sig; simpa using h

theorem dbl_at (T : ByteArray) (k : Nat) {hk : k < T.size} (h : Plain.dbl T[k] (T.data.toList.drop (k + 1)) = true) : ∃ h2 : k + 2 < T.size, T[k + 1].toNat = T[k].toNat ∧ T[k + 2].toNat = 123 := by
  by_cases h1 : k + 1 < T.size
  · by_cases h2 : k + 2 < T.size
    · rw [drop_cons T (k + 1) h1, drop_cons T (k + 1 + 1) h2] at h
      simp [Plain.dbl] at h
      exact ⟨h2, h.1, h.2⟩
    · rw [drop_cons T (k + 1) h1, drop_end T (k + 1 + 1) (by omega)] at h
      simp [Plain.dbl] at h
  · rw [drop_end T (k + 1) (by omega)] at h
    simp [Plain.dbl] at h

theorem dbl_no (T : ByteArray) (k : Nat) {hk : k < T.size} (hs : T[k].toNat = 36 ∨ T[k].toNat = 37) (h : (Plain.sig T[k] && Plain.dbl T[k] (T.data.toList.drop (k + 1))) = false) : ∀ h2 : k + 2 < T.size, T[k + 1].toNat = T[k].toNat → T[k + 2].toNat ≠ 123 := by
  intro h2 h1 h3
  rw [sig_of _ hs, drop_cons T (k + 1) (by omega), drop_cons T (k + 1 + 1) h2] at h
  simp [Plain.dbl, h1] at h
  exact h h3

theorem hd_no (T : ByteArray) (k : Nat) {hk : k < T.size} (hs : T[k].toNat = 36 ∨ T[k].toNat = 37) (h : (Plain.sig T[k] && Plain.hd (T.data.toList.drop (k + 1))) = false) : ∀ h1 : k + 1 < T.size, T[k + 1].toNat ≠ 123 := by
  intro h1 h3
  rw [sig_of _ hs, drop_cons T (k + 1) h1] at h
  simp [Plain.hd] at h
  exact h h3

theorem hide {p : Prop} (h : p) : Hid p := h
theorem unhide {p : Prop} (h : Hid p) : p := h

/-- the state of the loop at k -/
def St (w : World) (T : ByteArray) (R : List UInt8) (k : Nat) (v : Value) (wr : World) : Prop :=
  ∃ l : List UInt8, Owns wr w.heap.size v l ∧ Below w.heap.size w wr ∧ l.length ≤ k ∧ ∃ f, T.size - k < f ∧ Plain.unq f l (T.data.toList.drop k) = some R

theorem ret_two {a b : Value} (h : a = b) : Ending.returned (.tuple #[a, .bool true]) = .returned (.tuple #[b, .bool true]) := by rw [h]

set_option maxRecDepth 100000 in
set_option maxHeartbeats 8000000 in
theorem unq_any (s : ByteArray) (I R : List UInt8) (w : World) (hs : s.data.toList = 91 :: 34 :: (I ++ [34, 93])) (hI : I.length ≤ 2097152) (hR : Plain.unq (I.length + 1) [] I = some R) :
    Calls Try.prog 8 #[.string s] w fun e w' => e = .returned (.tuple #[.string ⟨R.toArray⟩, .bool true]) ∧ Below w.heap.size w w' := by
  obtain ⟨i0, hi, hz0, hz1, hz2⟩ := info_parts infoByte
  have hsz : s.size = I.length + 4 := by
    have : s.data.toList.length = s.size := by simp
    rw [← this, hs]; simp
  have key : ∀ (j : Nat) (hj : j < s.size) (c : UInt8), (91 :: 34 :: (I ++ [34, 93]))[j]? = some c → s[j] = c := by
    intro j hj c hc
    rw [← hs, Array.getElem?_toList, Array.getElem?_eq_getElem (by exact hj)] at hc
    exact Option.some.inj hc
  have j0 : 0 < s.size := by omega
  have j1 : 1 < s.size := by omega
  have j2 : s.size - 2 < s.size := by omega
  have j3 : s.size - 1 < s.size := by omega
  have c0 : s[0] = 91 := key 0 (by omega) 91 (by simp)
  have c1 : s[1] = 34 := key 1 (by omega) 34 (by simp)
  have c2 : s[s.size - 2] = 34 := key (s.size - 2) (by omega) 34 (by rw [show s.size - 2 = I.length + 2 from by omega]; simp)
  have c3 : s[s.size - 1] = 93 := key (s.size - 1) (by omega) 93 (by rw [show s.size - 1 = I.length + 1 + 2 from by omega]; simp)
  have n0 : ((s[0].toNat : Int) != 91) = false := by rw [c0]; rfl
  have n1 : ((s[1].toNat : Int) != 34) = false := by rw [c1]; rfl
  have n2 : ((s[s.size - 2].toNat : Int) != 34) = false := by rw [c2]; rfl
  have n3 : ((s[s.size - 1].toNat : Int) != 93) = false := by rw [c3]; rfl
  obtain ⟨T, hT⟩ : ∃ T, s.extract 2 (s.size - 2) = T := ⟨_, rfl⟩
  have hTI : T.data.toList = I := by
    rw [← hT, ByteArray.data_extract, Array.toList_extract, List.extract_eq_take_drop, hs, show s.size - 2 - 2 = I.length from by omega]
    simp
  have hTs : T.size = I.length := by
    have : T.data.toList.length = T.size := by simp
    rw [← this, hTI]
  have hT1 : T.size ≤ 2097152 := by omega
  have hs1 : s.size ≤ 2097156 := by omega
  have hs2 : 4 ≤ s.size := by omega
  have hd4 : decide ((s.size : Int) < 4) = false := by simp; omega
  have HR : Hid (Plain.unq (T.size + 1) [] (T.data.toList.drop 0) = some R) := by
    rw [hTs, List.drop_zero, hTI]; exact hR
  clear c0 c1 c2 c3 key hs hR hTI hTs hsz hI
  go_enter Try.func8, Try.ntmps8
  go_wp2_with (at_make; refine wpList_make_own _ rfl _ _ 29 rfl w.heap.size 5 i0 (.int .u8 0) 1 Try.underlying29 hi hz0 hz1 _ _ _ T.size rfl rfl (by rfl) (by rw [hz2]; omega) (by unfold maxLen; omega) (Nat.le_refl _) ?_)
  intro w1 hown1 hgrow1
  have H0 : Hid (St w T R 0 (.slice (some ⟨w.heap.size, 0, none⟩) 0 T.size) w1) := ⟨[], hown1, (Below.refl _ _).grown hgrow1 (Nat.le_refl _) (fun k hk => by cases hk), Nat.le_refl _, T.size + 1, by omega, HR.out⟩
  clear hown1 hgrow1 HR hT n0 n1 n2 n3
  go_wp2_with fail
  go_loopw [6, 7] (fun v i wr => ∃ k : Nat, k ≤ T.size ∧ i = .int .i64 k ∧ Hid (St w T R k v wr)) (fun _ i _ => T.size - (intOf i).toNat)
  case atStart => exact ⟨0, by omega, rfl, H0⟩
  case round =>
    obtain ⟨k, hk, rfl, HK⟩ := hrel
    obtain ⟨l, hown, hbl, hll, f, hf, hu⟩ := HK.out
    clear HK H0
    have HO := hide hown
    have HL := hide hbl
    have HZ := hide hbl.size
    have hll2 : l.length ≤ 2097152 := by omega
    clear hown hbl
    by_cases hlt : k < T.size
    · obtain ⟨f, rfl⟩ : ∃ g, f = g + 1 := ⟨f - 1, by omega⟩
      rw [drop_cons T k hlt] at hu
      rcases unq_none _ _ _ _ _ hu with ⟨h92, d, u, x, ht, he, hu'⟩ | ⟨h92, hb, ⟨hsg, hdb, hu'⟩ | ⟨hdb, hh, hu'⟩⟩
      · have hlt1 : k + 1 < T.size := by
          rcases Nat.lt_or_ge (k + 1) T.size with h | h
          · exact h
          · rw [drop_end T (k + 1) h] at ht; cases ht
        rw [drop_cons T (k + 1) hlt1] at ht
        injection ht with hd hu2
        subst hd
        subst hu2
        have HE := hide he
        have HU := hide hu'
        clear he hu' hu
        have b92 : ((T[k].toNat : Int) == 92) = true := by rw [beq_iff_eq]; omega
        have b34 : ((T[k].toNat : Int) == 34) = false := by rw [beq_eq_false_iff_ne]; omega
        have b10 : ((T[k].toNat : Int) == 10) = false := by rw [beq_eq_false_iff_ne]; omega
        have b13 : ((T[k].toNat : Int) == 13) = false := by rw [beq_eq_false_iff_ne]; omega
        have b9 : ((T[k].toNat : Int) == 9) = false := by rw [beq_eq_false_iff_ne]; omega
        have b36 : ((T[k].toNat : Int) == 36) = false := by rw [beq_eq_false_iff_ne]; omega
        have b37 : ((T[k].toNat : Int) == 37) = false := by rw [beq_eq_false_iff_ne]; omega
        clear h92
        go_wp2_with fail
        refine (escaped_any T[k + 1] x _ (unhide HE)).mono ?_
        rintro e w2 ⟨rfl, rfl⟩
        go_wp2_with (at_builtin; refine append_byte _ rfl _ _ rfl w.heap.size u6 l x rfl rfl (unhide HO) (unhide HZ) (by omega) ?_)
        intro v' w3 hown3 hbel3
        have HS : Hid (St w T R (k + 2) v' w3) := ⟨l ++ [x], hown3, (unhide HL).trans hbel3, by simp; omega, f, by omega, unhide HU⟩
        clear hown3 hbel3
        go_wp2_with fail
        go_roundw
        case rel => exact ⟨k + 2, by omega, by go_num, HS⟩
        case measure => simp [intOf]; omega
      · have hb1 := bad_no _ hb
        obtain ⟨hq92, hq34, hq10, hq13, hq9⟩ := hb1
        have hsg' := sig_or _ hsg
        obtain ⟨hlt2, hq1, hq2⟩ := dbl_at T k hdb
        have HU : Hid (Plain.unq f (l ++ [T[k]] ++ [123]) (T.data.toList.drop (k + 3)) = some R) := by
          rw [List.drop_drop] at hu'; exact hu'
        clear hu hu' hsg hdb hb h92
        have e1 : ((T[k + 1].toNat : Int) == (T[k].toNat : Int)) = true := by rw [beq_iff_eq]; omega
        have e2 : ((T[k + 2].toNat : Int) == 123) = true := by rw [beq_iff_eq]; omega
        clear hq1 hq2
        rcases hsg' with h36 | h36
        · have b92 : ((T[k].toNat : Int) == 92) = false := by rw [beq_eq_false_iff_ne]; omega
          have b34 : ((T[k].toNat : Int) == 34) = false := by rw [beq_eq_false_iff_ne]; omega
          have b10 : ((T[k].toNat : Int) == 10) = false := by rw [beq_eq_false_iff_ne]; omega
          have b13 : ((T[k].toNat : Int) == 13) = false := by rw [beq_eq_false_iff_ne]; omega
          have b9 : ((T[k].toNat : Int) == 9) = false := by rw [beq_eq_false_iff_ne]; omega
          have b36 : ((T[k].toNat : Int) == 36) = true := by rw [beq_iff_eq]; omega
          have b37 : ((T[k].toNat : Int) == 37) = false := by rw [beq_eq_false_iff_ne]; omega
          clear h36
          go_wp2_with (at_builtin; refine append_byte _ rfl _ _ rfl w.heap.size u6 l T[k] rfl rfl (unhide HO) (unhide HZ) (by omega) ?_)
          intro v' w3 hown3 hbel3
          have HO3 := hide hown3
          have HL3 := hide hbel3
          have HZ3 : Hid (w.heap.size ≤ w3.heap.size) := Nat.le_trans (unhide HZ) hbel3.size
          clear hown3 hbel3
          go_wp2_with (at_builtin; refine append_byte _ rfl _ _ rfl w.heap.size v' (l ++ [T[k]]) 123 rfl rfl (unhide HO3) (unhide HZ3) (by simp; omega) ?_)
          intro v4 w4 hown4 hbel4
          have HS : Hid (St w T R (k + 3) v4 w4) := ⟨l ++ [T[k]] ++ [123], by simpa using hown4, ((unhide HL).trans (unhide HL3)).trans hbel4, by simp; omega, f, by omega, unhide HU⟩
          clear hown4 hbel4
          go_wp2_with fail
          go_roundw
          case rel => exact ⟨k + 3, by omega, by go_num, HS⟩
          case measure => simp [intOf]; omega
        · have b92 : ((T[k].toNat : Int) == 92) = false := by rw [beq_eq_false_iff_ne]; omega
          have b34 : ((T[k].toNat : Int) == 34) = false := by rw [beq_eq_false_iff_ne]; omega
          have b10 : ((T[k].toNat : Int) == 10) = false := by rw [beq_eq_false_iff_ne]; omega
          have b13 : ((T[k].toNat : Int) == 13) = false := by rw [beq_eq_false_iff_ne]; omega
          have b9 : ((T[k].toNat : Int) == 9) = false := by rw [beq_eq_false_iff_ne]; omega
          have b36 : ((T[k].toNat : Int) == 36) = false := by rw [beq_eq_false_iff_ne]; omega
          have b37 : ((T[k].toNat : Int) == 37) = true := by rw [beq_iff_eq]; omega
          clear h36
          go_wp2_with (at_builtin; refine append_byte _ rfl _ _ rfl w.heap.size u6 l T[k] rfl rfl (unhide HO) (unhide HZ) (by omega) ?_)
          intro v' w3 hown3 hbel3
          have HO3 := hide hown3
          have HL3 := hide hbel3
          have HZ3 : Hid (w.heap.size ≤ w3.heap.size) := Nat.le_trans (unhide HZ) hbel3.size
          clear hown3 hbel3
          go_wp2_with (at_builtin; refine append_byte _ rfl _ _ rfl w.heap.size v' (l ++ [T[k]]) 123 rfl rfl (unhide HO3) (unhide HZ3) (by simp; omega) ?_)
          intro v4 w4 hown4 hbel4
          have HS : Hid (St w T R (k + 3) v4 w4) := ⟨l ++ [T[k]] ++ [123], by simpa using hown4, ((unhide HL).trans (unhide HL3)).trans hbel4, by simp; omega, f, by omega, unhide HU⟩
          clear hown4 hbel4
          go_wp2_with fail
          go_roundw
          case rel => exact ⟨k + 3, by omega, by go_num, HS⟩
          case measure => simp [intOf]; omega
      · have hb1 := bad_no _ hb
        obtain ⟨hq92, hq34, hq10, hq13, hq9⟩ := hb1
        have HU := hide hu'
        by_cases hsg' : T[k].toNat = 36 ∨ T[k].toNat = 37
        · have hdn := dbl_no T k hsg' hdb
          have hhn := hd_no T k hsg' hh
          clear hu hu' hb h92 hdb hh
          by_cases g1 : k + 1 < T.size
          · have e3 : ((T[k + 1].toNat : Int) == 123) = false := by have := hhn g1; rw [beq_eq_false_iff_ne]; omega
            by_cases g2 : k + 2 < T.size
            · by_cases g3 : T[k + 1].toNat = T[k].toNat
              · have e1 : ((T[k + 1].toNat : Int) == (T[k].toNat : Int)) = true := by rw [beq_iff_eq]; omega
                have e2 : ((T[k + 2].toNat : Int) == 123) = false := by have := hdn g2 g3; rw [beq_eq_false_iff_ne]; omega
                clear hdn hhn g3
                rcases hsg' with h36 | h36
                · have b92 : ((T[k].toNat : Int) == 92) = false := by rw [beq_eq_false_iff_ne]; omega
                  have b34 : ((T[k].toNat : Int) == 34) = false := by rw [beq_eq_false_iff_ne]; omega
                  have b10 : ((T[k].toNat : Int) == 10) = false := by rw [beq_eq_false_iff_ne]; omega
                  have b13 : ((T[k].toNat : Int) == 13) = false := by rw [beq_eq_false_iff_ne]; omega
                  have b9 : ((T[k].toNat : Int) == 9) = false := by rw [beq_eq_false_iff_ne]; omega
                  have b36 : ((T[k].toNat : Int) == 36) = true := by rw [beq_iff_eq]; omega
                  have b37 : ((T[k].toNat : Int) == 37) = false := by rw [beq_eq_false_iff_ne]; omega
                  clear h36
                  go_wp2_with (at_builtin; refine append_byte _ rfl _ _ rfl w.heap.size u6 l T[k] rfl rfl (unhide HO) (unhide HZ) (by omega) ?_)
                  intro v' w3 hown3 hbel3
                  have HS : Hid (St w T R (k + 1) v' w3) := ⟨l ++ [T[k]], hown3, (unhide HL).trans hbel3, by simp; omega, f, by omega, unhide HU⟩
                  clear hown3 hbel3
                  go_wp2_with fail
                  go_roundw
                  case rel => exact ⟨k + 1, by omega, by go_num, HS⟩
                  case measure => simp [intOf]; omega
                · have b92 : ((T[k].toNat : Int) == 92) = false := by rw [beq_eq_false_iff_ne]; omega
                  have b34 : ((T[k].toNat : Int) == 34) = false := by rw [beq_eq_false_iff_ne]; omega
                  have b10 : ((T[k].toNat : Int) == 10) = false := by rw [beq_eq_false_iff_ne]; omega
                  have b13 : ((T[k].toNat : Int) == 13) = false := by rw [beq_eq_false_iff_ne]; omega
                  have b9 : ((T[k].toNat : Int) == 9) = false := by rw [beq_eq_false_iff_ne]; omega
                  have b36 : ((T[k].toNat : Int) == 36) = false := by rw [beq_eq_false_iff_ne]; omega
                  have b37 : ((T[k].toNat : Int) == 37) = true := by rw [beq_iff_eq]; omega
                  clear h36
                  go_wp2_with (at_builtin; refine append_byte _ rfl _ _ rfl w.heap.size u6 l T[k] rfl rfl (unhide HO) (unhide HZ) (by omega) ?_)
                  intro v' w3 hown3 hbel3
                  have HS : Hid (St w T R (k + 1) v' w3) := ⟨l ++ [T[k]], hown3, (unhide HL).trans hbel3, by simp; omega, f, by omega, unhide HU⟩
                  clear hown3 hbel3
                  go_wp2_with fail
                  go_roundw
                  case rel => exact ⟨k + 1, by omega, by go_num, HS⟩
                  case measure => simp [intOf]; omega
              · have e1 : ((T[k + 1].toNat : Int) == (T[k].toNat : Int)) = false := by rw [beq_eq_false_iff_ne]; omega
                clear hdn hhn g3
                rcases hsg' with h36 | h36
                · have b92 : ((T[k].toNat : Int) == 92) = false := by rw [beq_eq_false_iff_ne]; omega
                  have b34 : ((T[k].toNat : Int) == 34) = false := by rw [beq_eq_false_iff_ne]; omega
                  have b10 : ((T[k].toNat : Int) == 10) = false := by rw [beq_eq_false_iff_ne]; omega
                  have b13 : ((T[k].toNat : Int) == 13) = false := by rw [beq_eq_false_iff_ne]; omega
                  have b9 : ((T[k].toNat : Int) == 9) = false := by rw [beq_eq_false_iff_ne]; omega
                  have b36 : ((T[k].toNat : Int) == 36) = true := by rw [beq_iff_eq]; omega
                  have b37 : ((T[k].toNat : Int) == 37) = false := by rw [beq_eq_false_iff_ne]; omega
                  clear h36
                  go_wp2_with (at_builtin; refine append_byte _ rfl _ _ rfl w.heap.size u6 l T[k] rfl rfl (unhide HO) (unhide HZ) (by omega) ?_)
                  intro v' w3 hown3 hbel3
                  have HS : Hid (St w T R (k + 1) v' w3) := ⟨l ++ [T[k]], hown3, (unhide HL).trans hbel3, by simp; omega, f, by omega, unhide HU⟩
                  clear hown3 hbel3
                  go_wp2_with fail
                  go_roundw
                  case rel => exact ⟨k + 1, by omega, by go_num, HS⟩
                  case measure => simp [intOf]; omega
                · have b92 : ((T[k].toNat : Int) == 92) = false := by rw [beq_eq_false_iff_ne]; omega
                  have b34 : ((T[k].toNat : Int) == 34) = false := by rw [beq_eq_false_iff_ne]; omega
                  have b10 : ((T[k].toNat : Int) == 10) = false := by rw [beq_eq_false_iff_ne]; omega
                  have b13 : ((T[k].toNat : Int) == 13) = false := by rw [beq_eq_false_iff_ne]; omega
                  have b9 : ((T[k].toNat : Int) == 9) = false := by rw [beq_eq_false_iff_ne]; omega
                  have b36 : ((T[k].toNat : Int) == 36) = false := by rw [beq_eq_false_iff_ne]; omega
                  have b37 : ((T[k].toNat : Int) == 37) = true := by rw [beq_iff_eq]; omega
                  clear h36
                  go_wp2_with (at_builtin; refine append_byte _ rfl _ _ rfl w.heap.size u6 l T[k] rfl rfl (unhide HO) (unhide HZ) (by omega) ?_)
                  intro v' w3 hown3 hbel3
                  have HS : Hid (St w T R (k + 1) v' w3) := ⟨l ++ [T[k]], hown3, (unhide HL).trans hbel3, by simp; omega, f, by omega, unhide HU⟩
                  clear hown3 hbel3
                  go_wp2_with fail
                  go_roundw
                  case rel => exact ⟨k + 1, by omega, by go_num, HS⟩
                  case measure => simp [intOf]; omega
            · clear hdn hhn
              rcases hsg' with h36 | h36
              · have b92 : ((T[k].toNat : Int) == 92) = false := by rw [beq_eq_false_iff_ne]; omega
                have b34 : ((T[k].toNat : Int) == 34) = false := by rw [beq_eq_false_iff_ne]; omega
                have b10 : ((T[k].toNat : Int) == 10) = false := by rw [beq_eq_false_iff_ne]; omega
                have b13 : ((T[k].toNat : Int) == 13) = false := by rw [beq_eq_false_iff_ne]; omega
                have b9 : ((T[k].toNat : Int) == 9) = false := by rw [beq_eq_false_iff_ne]; omega
                have b36 : ((T[k].toNat : Int) == 36) = true := by rw [beq_iff_eq]; omega
                have b37 : ((T[k].toNat : Int) == 37) = false := by rw [beq_eq_false_iff_ne]; omega
                clear h36
                go_wp2_with (at_builtin; refine append_byte _ rfl _ _ rfl w.heap.size u6 l T[k] rfl rfl (unhide HO) (unhide HZ) (by omega) ?_)
                intro v' w3 hown3 hbel3
                have HS : Hid (St w T R (k + 1) v' w3) := ⟨l ++ [T[k]], hown3, (unhide HL).trans hbel3, by simp; omega, f, by omega, unhide HU⟩
                clear hown3 hbel3
                go_wp2_with fail
                go_roundw
                case rel => exact ⟨k + 1, by omega, by go_num, HS⟩
                case measure => simp [intOf]; omega
              · have b92 : ((T[k].toNat : Int) == 92) = false := by rw [beq_eq_false_iff_ne]; omega
                have b34 : ((T[k].toNat : Int) == 34) = false := by rw [beq_eq_false_iff_ne]; omega
                have b10 : ((T[k].toNat : Int) == 10) = false := by rw [beq_eq_false_iff_ne]; omega
                have b13 : ((T[k].toNat : Int) == 13) = false := by rw [beq_eq_false_iff_ne]; omega
                have b9 : ((T[k].toNat : Int) == 9) = false := by rw [beq_eq_false_iff_ne]; omega
                have b36 : ((T[k].toNat : Int) == 36) = false := by rw [beq_eq_false_iff_ne]; omega
                have b37 : ((T[k].toNat : Int) == 37) = true := by rw [beq_iff_eq]; omega
                clear h36
                go_wp2_with (at_builtin; refine append_byte _ rfl _ _ rfl w.heap.size u6 l T[k] rfl rfl (unhide HO) (unhide HZ) (by omega) ?_)
                intro v' w3 hown3 hbel3
                have HS : Hid (St w T R (k + 1) v' w3) := ⟨l ++ [T[k]], hown3, (unhide HL).trans hbel3, by simp; omega, f, by omega, unhide HU⟩
                clear hown3 hbel3
                go_wp2_with fail
                go_roundw
                case rel => exact ⟨k + 1, by omega, by go_num, HS⟩
                case measure => simp [intOf]; omega
          · clear hdn hhn
            rcases hsg' with h36 | h36
            · have b92 : ((T[k].toNat : Int) == 92) = false := by rw [beq_eq_false_iff_ne]; omega
              have b34 : ((T[k].toNat : Int) == 34) = false := by rw [beq_eq_false_iff_ne]; omega
              have b10 : ((T[k].toNat : Int) == 10) = false := by rw [beq_eq_false_iff_ne]; omega
              have b13 : ((T[k].toNat : Int) == 13) = false := by rw [beq_eq_false_iff_ne]; omega
              have b9 : ((T[k].toNat : Int) == 9) = false := by rw [beq_eq_false_iff_ne]; omega
              have b36 : ((T[k].toNat : Int) == 36) = true := by rw [beq_iff_eq]; omega
              have b37 : ((T[k].toNat : Int) == 37) = false := by rw [beq_eq_false_iff_ne]; omega
              clear h36
              go_wp2_with (at_builtin; refine append_byte _ rfl _ _ rfl w.heap.size u6 l T[k] rfl rfl (unhide HO) (unhide HZ) (by omega) ?_)
              intro v' w3 hown3 hbel3
              have HS : Hid (St w T R (k + 1) v' w3) := ⟨l ++ [T[k]], hown3, (unhide HL).trans hbel3, by simp; omega, f, by omega, unhide HU⟩
              clear hown3 hbel3
              go_wp2_with fail
              go_roundw
              case rel => exact ⟨k + 1, by omega, by go_num, HS⟩
              case measure => simp [intOf]; omega
            · have b92 : ((T[k].toNat : Int) == 92) = false := by rw [beq_eq_false_iff_ne]; omega
              have b34 : ((T[k].toNat : Int) == 34) = false := by rw [beq_eq_false_iff_ne]; omega
              have b10 : ((T[k].toNat : Int) == 10) = false := by rw [beq_eq_false_iff_ne]; omega
              have b13 : ((T[k].toNat : Int) == 13) = false := by rw [beq_eq_false_iff_ne]; omega
              have b9 : ((T[k].toNat : Int) == 9) = false := by rw [beq_eq_false_iff_ne]; omega
              have b36 : ((T[k].toNat : Int) == 36) = false := by rw [beq_eq_false_iff_ne]; omega
              have b37 : ((T[k].toNat : Int) == 37) = true := by rw [beq_iff_eq]; omega
              clear h36
              go_wp2_with (at_builtin; refine append_byte _ rfl _ _ rfl w.heap.size u6 l T[k] rfl rfl (unhide HO) (unhide HZ) (by omega) ?_)
              intro v' w3 hown3 hbel3
              have HS : Hid (St w T R (k + 1) v' w3) := ⟨l ++ [T[k]], hown3, (unhide HL).trans hbel3, by simp; omega, f, by omega, unhide HU⟩
              clear hown3 hbel3
              go_wp2_with fail
              go_roundw
              case rel => exact ⟨k + 1, by omega, by go_num, HS⟩
              case measure => simp [intOf]; omega
        · clear hu hu' hb h92 hdb hh
          have b92 : ((T[k].toNat : Int) == 92) = false := by rw [beq_eq_false_iff_ne]; omega
          have b34 : ((T[k].toNat : Int) == 34) = false := by rw [beq_eq_false_iff_ne]; omega
          have b10 : ((T[k].toNat : Int) == 10) = false := by rw [beq_eq_false_iff_ne]; omega
          have b13 : ((T[k].toNat : Int) == 13) = false := by rw [beq_eq_false_iff_ne]; omega
          have b9 : ((T[k].toNat : Int) == 9) = false := by rw [beq_eq_false_iff_ne]; omega
          have b36 : ((T[k].toNat : Int) == 36) = false := by rw [beq_eq_false_iff_ne]; omega
          have b37 : ((T[k].toNat : Int) == 37) = false := by rw [beq_eq_false_iff_ne]; omega
          clear hsg'
          go_wp2_with (at_builtin; refine append_byte _ rfl _ _ rfl w.heap.size u6 l T[k] rfl rfl (unhide HO) (unhide HZ) (by omega) ?_)
          intro v' w3 hown3 hbel3
          have HS : Hid (St w T R (k + 1) v' w3) := ⟨l ++ [T[k]], hown3, (unhide HL).trans hbel3, by simp; omega, f, by omega, unhide HU⟩
          clear hown3 hbel3
          go_wp2_with fail
          go_roundw
          case rel => exact ⟨k + 1, by omega, by go_num, HS⟩
          case measure => simp [intOf]; omega
    · have hRl : R = l := by
        obtain ⟨f, rfl⟩ : ∃ g, f = g + 1 := ⟨f - 1, by omega⟩
        rw [drop_end T k (by omega)] at hu
        simp [Plain.unq] at hu
        exact hu.symm
      have HR' := hide hRl
      clear hRl hu
      rcases (unhide HO).2 with ⟨hv, hn0⟩ | ⟨g, cap, cur, hv, hrest⟩
      · have hl0 : l = [] := List.length_eq_zero_iff.1 hn0
        have HL0 := hide hl0
        clear hl0 hn0 HO
        subst hv
        have hcv := run_convert_bytes_nil (P := Try.prog) wr 29 5 Try.underlying29 Try.underlying5 0 0 9 Try.underlying9
        go_wp2_with fail
        go_ret2
        exact ⟨ret_two (by rw [unhide HR', unhide HL0]; rfl), unhide HL⟩
      · have hcv := conv_own wr w.heap.size g cap l (by rw [← hv]; exact unhide HO)
        subst hv
        clear HO hrest
        go_wp2_with fail
        go_ret2
        exact ⟨ret_two (by rw [unhide HR']; rfl), unhide HL⟩

end Go.Proofs.Qxb6602127a.U
