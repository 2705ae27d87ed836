import Derived.Test.Qxb6602363aTab
import Derived.Deep.RegionHeld3
namespace Go.Proofs.Qxb6602363a
open Go.RowKit
set_option linter.unusedVariables false
set_option linter.unusedSimpArgs false

/-- the cells of key j as zzBuildTable lays them -/
def kc0 (cv rv : Nat → Value) (cof pof : Nat → Bool) (F O : Nat) (j : Nat) : Array Value :=
  kcells (cv j) (kp (if cof j then F else O)) (rv j) (kp (if pof j then F else O))

def BT (w : World) (cv rv : Nat → Value) (ic ip cof pof : Nat → Bool) (F O : Nat) (k : Nat) (v1 v2 v3 : Value) (wr : World) : Prop :=
  ∃ kb, BTS w wr k kb (kc0 cv rv cof pof F O) (List.range k) ((List.range k).filter ic) ((List.range k).filter ip) v1 v2 v3

theorem cell_bel {w wr : World} {a : Addr} {v : Value} (h : Below w.heap.size w wr) (hc : w.cell? a = some v) : wr.cell? a = some v := by
  rw [h.cell (World.block_lt_of_cell? w a hc)]; exact hc

theorem filter_snoc (p : Nat → Bool) (l : List Nat) (x : Nat) : (l ++ [x]).filter p = l.filter p ++ (if p x then [x] else []) := by
  rw [List.filter_append]; cases h : p x <;> simp [h]

theorem ownsRow_size {w : World} {B : Nat} {v : Value} {n : Nat} {xs : List Value} (h : w.ownsRow B 39 1 v n xs) : ∃ a cap, v = .slice a n cap := by
  rcases h.2 with ⟨hv, h0⟩ | ⟨g, cap, cur, hv, _⟩
  · subst h0; exact ⟨none, 0, hv⟩
  · exact ⟨_, _, hv⟩

set_option maxRecDepth 100000 in
set_option maxHeartbeats 16000000 in
theorem build_any (F O : Nat) (vc vr vic vip vcof vpof : Value) (n : Nat) (cv rv : Nat → Value) (L1 L2 : Nat → Nat) (Z1 Z2 : Nat → Nat → Int) (ic ip cof pof : Nat → Bool) (w : World)
    (hc : Sl w vc n cv) (hcv : ∀ j, j < n → Sl w (cv j) (L1 j) (ints (Z1 j))) (hr : Sl w vr n rv) (hrv : ∀ j, j < n → Sl w (rv j) (L2 j) (ints (Z2 j)))
    (hic : Sl w vic n (bools ic)) (hip : Sl w vip n (bools ip)) (hcof : Sl w vcof n (bools cof)) (hpof : Sl w vpof n (bools pof)) (hn : n ≤ 65536) :
    Calls Try.prog 11 #[kp F, kp O, vc, vr, vic, vip, vcof, vpof] w fun e w' => ∃ v1 v2 v3 wr, e = .returned (.tuple #[v1, kp wr.heap.size]) ∧ BT w cv rv ic ip cof pof F O n v1 v2 v3 wr ∧ w' = wr.alloc (.cells (tcells v2 v3) 58) := by
  obtain ⟨a1, c1, rfl, x1, y1, z1, hc3⟩ := hc
  obtain ⟨a2, c2, rfl, x2, y2, z2, hr3⟩ := hr
  obtain ⟨a3, c3, rfl, x3, y3, z3, hic3⟩ := hic
  obtain ⟨a4, c4, rfl, x4, y4, z4, hip3⟩ := hip
  obtain ⟨a5, c5, rfl, x5, y5, z5, hcof3⟩ := hcof
  obtain ⟨a6, c6, rfl, x6, y6, z6, hpof3⟩ := hpof
  clear z1 z2 z3 z4 z5 z6
  unfold maxLen at y1 y2 y3 y4 y5 y6
  have H0 : Hid (BT w cv rv ic ip cof pof F O 0 (.slice none 0 0) (.slice none 0 0) (.slice none 0 0) w) := by
    refine ⟨fun _ => 0, Below.refl _ _, fun j hj => absurd hj (by omega), fun i j hi => absurd hi (by omega), ?_, ?_, ?_, World.ownsRow_nil _ _ _ _, World.ownsRow_nil _ _ _ _, World.ownsRow_nil _ _ _ _, Or.inl rfl, Or.inl rfl, Or.inl rfl⟩ <;> simp
  have HC := hide hc3
  have HR := hide hr3
  have HIC := hide hic3
  have HIP := hide hip3
  have HCO := hide hcof3
  have HPO := hide hpof3
  have HCV := hide hcv
  have HRV := hide hrv
  clear hc3 hr3 hic3 hip3 hcof3 hpof3 hcv hrv
  unfold kp
  go_enter Try.func11, Try.ntmps11
  go_wp2_with fail
  go_loopw [18, 19, 20, 21] (fun v1 v2 v3 i wr => ∃ k : Nat, k ≤ n ∧ i = .int .i64 k ∧ Hid (BT w cv rv ic ip cof pof F O k v1 v2 v3 wr)) (fun _ _ _ i _ => n - (intOf i).toNat)
  case atStart => exact ⟨0, by omega, rfl, H0⟩
  case round =>
    obtain ⟨k, hk, rfl, HK⟩ := hrel
    clear H0
    by_cases hlt : k < n
    · obtain ⟨kb, hB⟩ := HK.out
      have hbel := hB.bel
      obtain ⟨b1, o1, rfl, g1⟩ := HC.out.resolve_left (by omega)
      obtain ⟨b2, o2, rfl, g2⟩ := HR.out.resolve_left (by omega)
      obtain ⟨b3, o3, rfl, g3⟩ := HIC.out.resolve_left (by omega)
      obtain ⟨b4, o4, rfl, g4⟩ := HIP.out.resolve_left (by omega)
      obtain ⟨b5, o5, rfl, g5⟩ := HCO.out.resolve_left (by omega)
      obtain ⟨b6, o6, rfl, g6⟩ := HPO.out.resolve_left (by omega)
      obtain ⟨va, vm, hva⟩ := (HCV.out k hlt).form
      obtain ⟨ra, rm, hra⟩ := (HRV.out k hlt).form
      have q1 := cell_bel hbel (g1 k hlt)
      have q2 := cell_bel hbel (g2 k hlt)
      have q3 := cell_bel hbel (g3 k hlt)
      have q4 := cell_bel hbel (g4 k hlt)
      have q5 := cell_bel hbel (g5 k hlt)
      have q6 := cell_bel hbel (g6 k hlt)
      rw [hva] at q1
      rw [hra] at q2
      unfold bools at q3 q4 q5 q6
      have HG3 := hide (g3 k hlt)
      have HG4 := hide (g4 k hlt)
      unfold bools at HG3 HG4
      have HNEW := hide hB.new
      have HSZ := hide hbel.size
      have HVA := hide hva
      have HRA := hide hra
      clear g1 g2 g3 g4 g5 g6 hbel hB hva hra HK HC HR HIC HIP HCO HPO HCV HRV
      generalize hcf : cof k = cf at q5
      generalize hpf : pof k = pf at q6
      generalize hif : ic k = icf at q3
      generalize hjf : ip k = ipf at q4
      have HCF := hide hcf
      have HPF := hide hpf
      have HIF := hide hif
      have HJF := hide hjf
      clear hcf hpf hif hjf
      cases cf with
      | true =>
        cases pf with
        | true =>
          cases icf with
          | true =>
            cases ipf with
            | true =>
              go_wp2_with fail
              go_region_held3 (fun w' => w'.cell? ⟨b1, o1 + k, none⟩ = some (.slice va (L1 k) vm) ∧ w'.cell? ⟨b2, o2 + k, none⟩ = some (.slice ra (L2 k) rm)) (go_keep)
                (first
                  | (go_at_call 18; refine (newKey_any _ _ _ _ _ _ _ _ _).mono ?_; rintro e w' ⟨rfl, rfl⟩))
              have hN : BTS w (wr.alloc (.cells (kcells (.slice va (L1 k) vm) (kp F) (.slice ra (L2 k) rm) (kp F)) 51)) (k + 1) (fun j => if j = k then wr.heap.size else kb j) (kc0 cv rv cof pof F O) (List.range k) ((List.range k).filter ic) ((List.range k).filter ip) u18 u19 u20 := by
                have e : kc0 cv rv cof pof F O k = kcells (.slice va (L1 k) vm) (kp F) (.slice ra (L2 k) rm) (kp F) := by unfold kc0; rw [HVA.out, HRA.out, HCF.out, HPF.out]; rfl
                rw [← e]; exact HNEW.out
              obtain ⟨n1, X1, hown1, hl1, hst1⟩ := hN.open1 65536 (by simp; omega)
              have HO1 := hide hown1
              have HS1 := hide (hst1 k (by omega))
              clear hown1 hst1 hN
              rw [if_pos rfl] at HS1
              go_wp2_with (at_builtin; refine append_ptr (wr.alloc (.cells (kcells (.slice va (L1 k) vm) (kp F) (.slice ra (L2 k) rm) (kp F)) 51)) _ rfl _ _ rfl w.heap.size u18 n1 X1 wr.heap.size (wr.heap.size + 1) (by simp) rfl rfl HO1.out ?hb1 ?hb2 ?hb3 ?hb4 ?_)
              case hb1 => have := HSZ.out; simp; omega
              case hb2 => omega
              case hb3 => exact ((Below.refl _ _).alloc (Nat.le_refl _) _).drew
              case hb4 => exact heap_alloc_new _ _
              intro g1 cap1 w2 ha1
              have hB2 := HS1.out _ _ ha1
              clear ha1 HO1 HS1 HNEW
              have q3 := cell_bel hB2.bel HG3.out
              have q4 := cell_bel hB2.bel HG4.out
              rw [HIF.out] at q3
              rw [HJF.out] at q4
              obtain ⟨n2, X2, hown2, hl2, hst2⟩ := hB2.swap12.open1 65536 (Nat.le_trans (List.length_filter_le _ _) (by simp; omega))
              have HO2 := hide hown2
              have HS2 := hide (hst2 k (by omega))
              rw [if_pos rfl] at HS2
              have HZ2 := hide hB2.bel.size
              clear hown2 hst2 hB2
              go_wp2_with (at_builtin; refine append_ptr w2 _ rfl _ _ rfl w.heap.size u19 n2 X2 wr.heap.size w2.heap.size rfl rfl rfl HO2.out HZ2.out (by omega) ((Below.refl _ _).alloc (Nat.le_refl _) _) (heap_alloc_new _ _) ?_)
              intro g2 cap2 w3 ha2
              have hB3 := (HS2.out _ _ ha2).swap12
              clear ha2 HO2 HS2 HZ2 q3 q4
              have q4 := cell_bel hB3.bel HG4.out
              rw [HJF.out] at q4
              obtain ⟨n3, X3, hown3, hl3, hst3⟩ := hB3.swap13.open1 65536 (Nat.le_trans (List.length_filter_le _ _) (by simp; omega))
              have HO3 := hide hown3
              have HS3 := hide (hst3 k (by omega))
              rw [if_pos rfl] at HS3
              have HZ3 := hide hB3.bel.size
              clear hown3 hst3 hB3
              go_wp2_with (at_builtin; refine append_ptr w3 _ rfl _ _ rfl w.heap.size u20 n3 X3 wr.heap.size w3.heap.size rfl rfl rfl HO3.out HZ3.out (by omega) ((Below.refl _ _).alloc (Nat.le_refl _) _) (heap_alloc_new _ _) ?_)
              intro g3 cap3 w4 ha3
              have hB4 := (HS3.out _ _ ha3).swap13
              clear ha3 HO3 HS3 HZ3 q4
              have HB' : Hid (BT w cv rv ic ip cof pof F O (k + 1) (.slice (some ⟨g1, 0, none⟩) (n1 + 1) cap1) (.slice (some ⟨g2, 0, none⟩) (n2 + 1) cap2) (.slice (some ⟨g3, 0, none⟩) (n3 + 1) cap3) w4) := by
                refine ⟨fun j => if j = k then wr.heap.size else kb j, ?_⟩
                rw [List.range_succ, filter_snoc, filter_snoc, HIF.out, HJF.out]
                simp only [if_true, Bool.false_eq_true, if_false, List.append_nil]
                exact hB4
              clear hB4
              go_wp2_with fail
              go_roundw
              case rel => exact ⟨k + 1, by omega, by go_num, HB'⟩
              case measure => simp [intOf]; omega
            | false =>
              go_wp2_with fail
              go_region_held3 (fun w' => w'.cell? ⟨b1, o1 + k, none⟩ = some (.slice va (L1 k) vm) ∧ w'.cell? ⟨b2, o2 + k, none⟩ = some (.slice ra (L2 k) rm)) (go_keep)
                (first
                  | (go_at_call 18; refine (newKey_any _ _ _ _ _ _ _ _ _).mono ?_; rintro e w' ⟨rfl, rfl⟩))
              have hN : BTS w (wr.alloc (.cells (kcells (.slice va (L1 k) vm) (kp F) (.slice ra (L2 k) rm) (kp F)) 51)) (k + 1) (fun j => if j = k then wr.heap.size else kb j) (kc0 cv rv cof pof F O) (List.range k) ((List.range k).filter ic) ((List.range k).filter ip) u18 u19 u20 := by
                have e : kc0 cv rv cof pof F O k = kcells (.slice va (L1 k) vm) (kp F) (.slice ra (L2 k) rm) (kp F) := by unfold kc0; rw [HVA.out, HRA.out, HCF.out, HPF.out]; rfl
                rw [← e]; exact HNEW.out
              obtain ⟨n1, X1, hown1, hl1, hst1⟩ := hN.open1 65536 (by simp; omega)
              have HO1 := hide hown1
              have HS1 := hide (hst1 k (by omega))
              clear hown1 hst1 hN
              rw [if_pos rfl] at HS1
              go_wp2_with (at_builtin; refine append_ptr (wr.alloc (.cells (kcells (.slice va (L1 k) vm) (kp F) (.slice ra (L2 k) rm) (kp F)) 51)) _ rfl _ _ rfl w.heap.size u18 n1 X1 wr.heap.size (wr.heap.size + 1) (by simp) rfl rfl HO1.out ?hb1 ?hb2 ?hb3 ?hb4 ?_)
              case hb1 => have := HSZ.out; simp; omega
              case hb2 => omega
              case hb3 => exact ((Below.refl _ _).alloc (Nat.le_refl _) _).drew
              case hb4 => exact heap_alloc_new _ _
              intro g1 cap1 w2 ha1
              have hB2 := HS1.out _ _ ha1
              clear ha1 HO1 HS1 HNEW
              have q3 := cell_bel hB2.bel HG3.out
              have q4 := cell_bel hB2.bel HG4.out
              rw [HIF.out] at q3
              rw [HJF.out] at q4
              obtain ⟨n2, X2, hown2, hl2, hst2⟩ := hB2.swap12.open1 65536 (Nat.le_trans (List.length_filter_le _ _) (by simp; omega))
              have HO2 := hide hown2
              have HS2 := hide (hst2 k (by omega))
              rw [if_pos rfl] at HS2
              have HZ2 := hide hB2.bel.size
              clear hown2 hst2 hB2
              go_wp2_with (at_builtin; refine append_ptr w2 _ rfl _ _ rfl w.heap.size u19 n2 X2 wr.heap.size w2.heap.size rfl rfl rfl HO2.out HZ2.out (by omega) ((Below.refl _ _).alloc (Nat.le_refl _) _) (heap_alloc_new _ _) ?_)
              intro g2 cap2 w3 ha2
              have hB3 := (HS2.out _ _ ha2).swap12
              clear ha2 HO2 HS2 HZ2 q3 q4
              have q4 := cell_bel hB3.bel HG4.out
              rw [HJF.out] at q4
              have HB' : Hid (BT w cv rv ic ip cof pof F O (k + 1) (.slice (some ⟨g1, 0, none⟩) (n1 + 1) cap1) (.slice (some ⟨g2, 0, none⟩) (n2 + 1) cap2) (u20) w3) := by
                refine ⟨fun j => if j = k then wr.heap.size else kb j, ?_⟩
                rw [List.range_succ, filter_snoc, filter_snoc, HIF.out, HJF.out]
                simp only [if_true, Bool.false_eq_true, if_false, List.append_nil]
                exact hB3
              clear hB3
              go_wp2_with fail
              go_roundw
              case rel => exact ⟨k + 1, by omega, by go_num, HB'⟩
              case measure => simp [intOf]; omega
          | false =>
            cases ipf with
            | true =>
              go_wp2_with fail
              go_region_held3 (fun w' => w'.cell? ⟨b1, o1 + k, none⟩ = some (.slice va (L1 k) vm) ∧ w'.cell? ⟨b2, o2 + k, none⟩ = some (.slice ra (L2 k) rm)) (go_keep)
                (first
                  | (go_at_call 18; refine (newKey_any _ _ _ _ _ _ _ _ _).mono ?_; rintro e w' ⟨rfl, rfl⟩))
              have hN : BTS w (wr.alloc (.cells (kcells (.slice va (L1 k) vm) (kp F) (.slice ra (L2 k) rm) (kp F)) 51)) (k + 1) (fun j => if j = k then wr.heap.size else kb j) (kc0 cv rv cof pof F O) (List.range k) ((List.range k).filter ic) ((List.range k).filter ip) u18 u19 u20 := by
                have e : kc0 cv rv cof pof F O k = kcells (.slice va (L1 k) vm) (kp F) (.slice ra (L2 k) rm) (kp F) := by unfold kc0; rw [HVA.out, HRA.out, HCF.out, HPF.out]; rfl
                rw [← e]; exact HNEW.out
              obtain ⟨n1, X1, hown1, hl1, hst1⟩ := hN.open1 65536 (by simp; omega)
              have HO1 := hide hown1
              have HS1 := hide (hst1 k (by omega))
              clear hown1 hst1 hN
              rw [if_pos rfl] at HS1
              go_wp2_with (at_builtin; refine append_ptr (wr.alloc (.cells (kcells (.slice va (L1 k) vm) (kp F) (.slice ra (L2 k) rm) (kp F)) 51)) _ rfl _ _ rfl w.heap.size u18 n1 X1 wr.heap.size (wr.heap.size + 1) (by simp) rfl rfl HO1.out ?hb1 ?hb2 ?hb3 ?hb4 ?_)
              case hb1 => have := HSZ.out; simp; omega
              case hb2 => omega
              case hb3 => exact ((Below.refl _ _).alloc (Nat.le_refl _) _).drew
              case hb4 => exact heap_alloc_new _ _
              intro g1 cap1 w2 ha1
              have hB2 := HS1.out _ _ ha1
              clear ha1 HO1 HS1 HNEW
              have q3 := cell_bel hB2.bel HG3.out
              have q4 := cell_bel hB2.bel HG4.out
              rw [HIF.out] at q3
              rw [HJF.out] at q4
              obtain ⟨n3, X3, hown3, hl3, hst3⟩ := hB2.swap13.open1 65536 (Nat.le_trans (List.length_filter_le _ _) (by simp; omega))
              have HO3 := hide hown3
              have HS3 := hide (hst3 k (by omega))
              rw [if_pos rfl] at HS3
              have HZ3 := hide hB2.bel.size
              clear hown3 hst3 hB2
              go_wp2_with (at_builtin; refine append_ptr w2 _ rfl _ _ rfl w.heap.size u20 n3 X3 wr.heap.size w2.heap.size rfl rfl rfl HO3.out HZ3.out (by omega) ((Below.refl _ _).alloc (Nat.le_refl _) _) (heap_alloc_new _ _) ?_)
              intro g3 cap3 w4 ha3
              have hB4 := (HS3.out _ _ ha3).swap13
              clear ha3 HO3 HS3 HZ3 q4
              have HB' : Hid (BT w cv rv ic ip cof pof F O (k + 1) (.slice (some ⟨g1, 0, none⟩) (n1 + 1) cap1) (u19) (.slice (some ⟨g3, 0, none⟩) (n3 + 1) cap3) w4) := by
                refine ⟨fun j => if j = k then wr.heap.size else kb j, ?_⟩
                rw [List.range_succ, filter_snoc, filter_snoc, HIF.out, HJF.out]
                simp only [if_true, Bool.false_eq_true, if_false, List.append_nil]
                exact hB4
              clear hB4
              go_wp2_with fail
              go_roundw
              case rel => exact ⟨k + 1, by omega, by go_num, HB'⟩
              case measure => simp [intOf]; omega
            | false =>
              go_wp2_with fail
              go_region_held3 (fun w' => w'.cell? ⟨b1, o1 + k, none⟩ = some (.slice va (L1 k) vm) ∧ w'.cell? ⟨b2, o2 + k, none⟩ = some (.slice ra (L2 k) rm)) (go_keep)
                (first
                  | (go_at_call 18; refine (newKey_any _ _ _ _ _ _ _ _ _).mono ?_; rintro e w' ⟨rfl, rfl⟩))
              have hN : BTS w (wr.alloc (.cells (kcells (.slice va (L1 k) vm) (kp F) (.slice ra (L2 k) rm) (kp F)) 51)) (k + 1) (fun j => if j = k then wr.heap.size else kb j) (kc0 cv rv cof pof F O) (List.range k) ((List.range k).filter ic) ((List.range k).filter ip) u18 u19 u20 := by
                have e : kc0 cv rv cof pof F O k = kcells (.slice va (L1 k) vm) (kp F) (.slice ra (L2 k) rm) (kp F) := by unfold kc0; rw [HVA.out, HRA.out, HCF.out, HPF.out]; rfl
                rw [← e]; exact HNEW.out
              obtain ⟨n1, X1, hown1, hl1, hst1⟩ := hN.open1 65536 (by simp; omega)
              have HO1 := hide hown1
              have HS1 := hide (hst1 k (by omega))
              clear hown1 hst1 hN
              rw [if_pos rfl] at HS1
              go_wp2_with (at_builtin; refine append_ptr (wr.alloc (.cells (kcells (.slice va (L1 k) vm) (kp F) (.slice ra (L2 k) rm) (kp F)) 51)) _ rfl _ _ rfl w.heap.size u18 n1 X1 wr.heap.size (wr.heap.size + 1) (by simp) rfl rfl HO1.out ?hb1 ?hb2 ?hb3 ?hb4 ?_)
              case hb1 => have := HSZ.out; simp; omega
              case hb2 => omega
              case hb3 => exact ((Below.refl _ _).alloc (Nat.le_refl _) _).drew
              case hb4 => exact heap_alloc_new _ _
              intro g1 cap1 w2 ha1
              have hB2 := HS1.out _ _ ha1
              clear ha1 HO1 HS1 HNEW
              have q3 := cell_bel hB2.bel HG3.out
              have q4 := cell_bel hB2.bel HG4.out
              rw [HIF.out] at q3
              rw [HJF.out] at q4
              have HB' : Hid (BT w cv rv ic ip cof pof F O (k + 1) (.slice (some ⟨g1, 0, none⟩) (n1 + 1) cap1) (u19) (u20) w2) := by
                refine ⟨fun j => if j = k then wr.heap.size else kb j, ?_⟩
                rw [List.range_succ, filter_snoc, filter_snoc, HIF.out, HJF.out]
                simp only [if_true, Bool.false_eq_true, if_false, List.append_nil]
                exact hB2
              clear hB2
              go_wp2_with fail
              go_roundw
              case rel => exact ⟨k + 1, by omega, by go_num, HB'⟩
              case measure => simp [intOf]; omega
        | false =>
          cases icf with
          | true =>
            cases ipf with
            | true =>
              go_wp2_with fail
              go_region_held3 (fun w' => w'.cell? ⟨b1, o1 + k, none⟩ = some (.slice va (L1 k) vm) ∧ w'.cell? ⟨b2, o2 + k, none⟩ = some (.slice ra (L2 k) rm)) (go_keep)
                (first
                  | (go_at_call 18; refine (newKey_any _ _ _ _ _ _ _ _ _).mono ?_; rintro e w' ⟨rfl, rfl⟩))
              have hN : BTS w (wr.alloc (.cells (kcells (.slice va (L1 k) vm) (kp F) (.slice ra (L2 k) rm) (kp O)) 51)) (k + 1) (fun j => if j = k then wr.heap.size else kb j) (kc0 cv rv cof pof F O) (List.range k) ((List.range k).filter ic) ((List.range k).filter ip) u18 u19 u20 := by
                have e : kc0 cv rv cof pof F O k = kcells (.slice va (L1 k) vm) (kp F) (.slice ra (L2 k) rm) (kp O) := by unfold kc0; rw [HVA.out, HRA.out, HCF.out, HPF.out]; rfl
                rw [← e]; exact HNEW.out
              obtain ⟨n1, X1, hown1, hl1, hst1⟩ := hN.open1 65536 (by simp; omega)
              have HO1 := hide hown1
              have HS1 := hide (hst1 k (by omega))
              clear hown1 hst1 hN
              rw [if_pos rfl] at HS1
              go_wp2_with (at_builtin; refine append_ptr (wr.alloc (.cells (kcells (.slice va (L1 k) vm) (kp F) (.slice ra (L2 k) rm) (kp O)) 51)) _ rfl _ _ rfl w.heap.size u18 n1 X1 wr.heap.size (wr.heap.size + 1) (by simp) rfl rfl HO1.out ?hb1 ?hb2 ?hb3 ?hb4 ?_)
              case hb1 => have := HSZ.out; simp; omega
              case hb2 => omega
              case hb3 => exact ((Below.refl _ _).alloc (Nat.le_refl _) _).drew
              case hb4 => exact heap_alloc_new _ _
              intro g1 cap1 w2 ha1
              have hB2 := HS1.out _ _ ha1
              clear ha1 HO1 HS1 HNEW
              have q3 := cell_bel hB2.bel HG3.out
              have q4 := cell_bel hB2.bel HG4.out
              rw [HIF.out] at q3
              rw [HJF.out] at q4
              obtain ⟨n2, X2, hown2, hl2, hst2⟩ := hB2.swap12.open1 65536 (Nat.le_trans (List.length_filter_le _ _) (by simp; omega))
              have HO2 := hide hown2
              have HS2 := hide (hst2 k (by omega))
              rw [if_pos rfl] at HS2
              have HZ2 := hide hB2.bel.size
              clear hown2 hst2 hB2
              go_wp2_with (at_builtin; refine append_ptr w2 _ rfl _ _ rfl w.heap.size u19 n2 X2 wr.heap.size w2.heap.size rfl rfl rfl HO2.out HZ2.out (by omega) ((Below.refl _ _).alloc (Nat.le_refl _) _) (heap_alloc_new _ _) ?_)
              intro g2 cap2 w3 ha2
              have hB3 := (HS2.out _ _ ha2).swap12
              clear ha2 HO2 HS2 HZ2 q3 q4
              have q4 := cell_bel hB3.bel HG4.out
              rw [HJF.out] at q4
              obtain ⟨n3, X3, hown3, hl3, hst3⟩ := hB3.swap13.open1 65536 (Nat.le_trans (List.length_filter_le _ _) (by simp; omega))
              have HO3 := hide hown3
              have HS3 := hide (hst3 k (by omega))
              rw [if_pos rfl] at HS3
              have HZ3 := hide hB3.bel.size
              clear hown3 hst3 hB3
              go_wp2_with (at_builtin; refine append_ptr w3 _ rfl _ _ rfl w.heap.size u20 n3 X3 wr.heap.size w3.heap.size rfl rfl rfl HO3.out HZ3.out (by omega) ((Below.refl _ _).alloc (Nat.le_refl _) _) (heap_alloc_new _ _) ?_)
              intro g3 cap3 w4 ha3
              have hB4 := (HS3.out _ _ ha3).swap13
              clear ha3 HO3 HS3 HZ3 q4
              have HB' : Hid (BT w cv rv ic ip cof pof F O (k + 1) (.slice (some ⟨g1, 0, none⟩) (n1 + 1) cap1) (.slice (some ⟨g2, 0, none⟩) (n2 + 1) cap2) (.slice (some ⟨g3, 0, none⟩) (n3 + 1) cap3) w4) := by
                refine ⟨fun j => if j = k then wr.heap.size else kb j, ?_⟩
                rw [List.range_succ, filter_snoc, filter_snoc, HIF.out, HJF.out]
                simp only [if_true, Bool.false_eq_true, if_false, List.append_nil]
                exact hB4
              clear hB4
              go_wp2_with fail
              go_roundw
              case rel => exact ⟨k + 1, by omega, by go_num, HB'⟩
              case measure => simp [intOf]; omega
            | false =>
              go_wp2_with fail
              go_region_held3 (fun w' => w'.cell? ⟨b1, o1 + k, none⟩ = some (.slice va (L1 k) vm) ∧ w'.cell? ⟨b2, o2 + k, none⟩ = some (.slice ra (L2 k) rm)) (go_keep)
                (first
                  | (go_at_call 18; refine (newKey_any _ _ _ _ _ _ _ _ _).mono ?_; rintro e w' ⟨rfl, rfl⟩))
              have hN : BTS w (wr.alloc (.cells (kcells (.slice va (L1 k) vm) (kp F) (.slice ra (L2 k) rm) (kp O)) 51)) (k + 1) (fun j => if j = k then wr.heap.size else kb j) (kc0 cv rv cof pof F O) (List.range k) ((List.range k).filter ic) ((List.range k).filter ip) u18 u19 u20 := by
                have e : kc0 cv rv cof pof F O k = kcells (.slice va (L1 k) vm) (kp F) (.slice ra (L2 k) rm) (kp O) := by unfold kc0; rw [HVA.out, HRA.out, HCF.out, HPF.out]; rfl
                rw [← e]; exact HNEW.out
              obtain ⟨n1, X1, hown1, hl1, hst1⟩ := hN.open1 65536 (by simp; omega)
              have HO1 := hide hown1
              have HS1 := hide (hst1 k (by omega))
              clear hown1 hst1 hN
              rw [if_pos rfl] at HS1
              go_wp2_with (at_builtin; refine append_ptr (wr.alloc (.cells (kcells (.slice va (L1 k) vm) (kp F) (.slice ra (L2 k) rm) (kp O)) 51)) _ rfl _ _ rfl w.heap.size u18 n1 X1 wr.heap.size (wr.heap.size + 1) (by simp) rfl rfl HO1.out ?hb1 ?hb2 ?hb3 ?hb4 ?_)
              case hb1 => have := HSZ.out; simp; omega
              case hb2 => omega
              case hb3 => exact ((Below.refl _ _).alloc (Nat.le_refl _) _).drew
              case hb4 => exact heap_alloc_new _ _
              intro g1 cap1 w2 ha1
              have hB2 := HS1.out _ _ ha1
              clear ha1 HO1 HS1 HNEW
              have q3 := cell_bel hB2.bel HG3.out
              have q4 := cell_bel hB2.bel HG4.out
              rw [HIF.out] at q3
              rw [HJF.out] at q4
              obtain ⟨n2, X2, hown2, hl2, hst2⟩ := hB2.swap12.open1 65536 (Nat.le_trans (List.length_filter_le _ _) (by simp; omega))
              have HO2 := hide hown2
              have HS2 := hide (hst2 k (by omega))
              rw [if_pos rfl] at HS2
              have HZ2 := hide hB2.bel.size
              clear hown2 hst2 hB2
              go_wp2_with (at_builtin; refine append_ptr w2 _ rfl _ _ rfl w.heap.size u19 n2 X2 wr.heap.size w2.heap.size rfl rfl rfl HO2.out HZ2.out (by omega) ((Below.refl _ _).alloc (Nat.le_refl _) _) (heap_alloc_new _ _) ?_)
              intro g2 cap2 w3 ha2
              have hB3 := (HS2.out _ _ ha2).swap12
              clear ha2 HO2 HS2 HZ2 q3 q4
              have q4 := cell_bel hB3.bel HG4.out
              rw [HJF.out] at q4
              have HB' : Hid (BT w cv rv ic ip cof pof F O (k + 1) (.slice (some ⟨g1, 0, none⟩) (n1 + 1) cap1) (.slice (some ⟨g2, 0, none⟩) (n2 + 1) cap2) (u20) w3) := by
                refine ⟨fun j => if j = k then wr.heap.size else kb j, ?_⟩
                rw [List.range_succ, filter_snoc, filter_snoc, HIF.out, HJF.out]
                simp only [if_true, Bool.false_eq_true, if_false, List.append_nil]
                exact hB3
              clear hB3
              go_wp2_with fail
              go_roundw
              case rel => exact ⟨k + 1, by omega, by go_num, HB'⟩
              case measure => simp [intOf]; omega
          | false =>
            cases ipf with
            | true =>
              go_wp2_with fail
              go_region_held3 (fun w' => w'.cell? ⟨b1, o1 + k, none⟩ = some (.slice va (L1 k) vm) ∧ w'.cell? ⟨b2, o2 + k, none⟩ = some (.slice ra (L2 k) rm)) (go_keep)
                (first
                  | (go_at_call 18; refine (newKey_any _ _ _ _ _ _ _ _ _).mono ?_; rintro e w' ⟨rfl, rfl⟩))
              have hN : BTS w (wr.alloc (.cells (kcells (.slice va (L1 k) vm) (kp F) (.slice ra (L2 k) rm) (kp O)) 51)) (k + 1) (fun j => if j = k then wr.heap.size else kb j) (kc0 cv rv cof pof F O) (List.range k) ((List.range k).filter ic) ((List.range k).filter ip) u18 u19 u20 := by
                have e : kc0 cv rv cof pof F O k = kcells (.slice va (L1 k) vm) (kp F) (.slice ra (L2 k) rm) (kp O) := by unfold kc0; rw [HVA.out, HRA.out, HCF.out, HPF.out]; rfl
                rw [← e]; exact HNEW.out
              obtain ⟨n1, X1, hown1, hl1, hst1⟩ := hN.open1 65536 (by simp; omega)
              have HO1 := hide hown1
              have HS1 := hide (hst1 k (by omega))
              clear hown1 hst1 hN
              rw [if_pos rfl] at HS1
              go_wp2_with (at_builtin; refine append_ptr (wr.alloc (.cells (kcells (.slice va (L1 k) vm) (kp F) (.slice ra (L2 k) rm) (kp O)) 51)) _ rfl _ _ rfl w.heap.size u18 n1 X1 wr.heap.size (wr.heap.size + 1) (by simp) rfl rfl HO1.out ?hb1 ?hb2 ?hb3 ?hb4 ?_)
              case hb1 => have := HSZ.out; simp; omega
              case hb2 => omega
              case hb3 => exact ((Below.refl _ _).alloc (Nat.le_refl _) _).drew
              case hb4 => exact heap_alloc_new _ _
              intro g1 cap1 w2 ha1
              have hB2 := HS1.out _ _ ha1
              clear ha1 HO1 HS1 HNEW
              have q3 := cell_bel hB2.bel HG3.out
              have q4 := cell_bel hB2.bel HG4.out
              rw [HIF.out] at q3
              rw [HJF.out] at q4
              obtain ⟨n3, X3, hown3, hl3, hst3⟩ := hB2.swap13.open1 65536 (Nat.le_trans (List.length_filter_le _ _) (by simp; omega))
              have HO3 := hide hown3
              have HS3 := hide (hst3 k (by omega))
              rw [if_pos rfl] at HS3
              have HZ3 := hide hB2.bel.size
              clear hown3 hst3 hB2
              go_wp2_with (at_builtin; refine append_ptr w2 _ rfl _ _ rfl w.heap.size u20 n3 X3 wr.heap.size w2.heap.size rfl rfl rfl HO3.out HZ3.out (by omega) ((Below.refl _ _).alloc (Nat.le_refl _) _) (heap_alloc_new _ _) ?_)
              intro g3 cap3 w4 ha3
              have hB4 := (HS3.out _ _ ha3).swap13
              clear ha3 HO3 HS3 HZ3 q4
              have HB' : Hid (BT w cv rv ic ip cof pof F O (k + 1) (.slice (some ⟨g1, 0, none⟩) (n1 + 1) cap1) (u19) (.slice (some ⟨g3, 0, none⟩) (n3 + 1) cap3) w4) := by
                refine ⟨fun j => if j = k then wr.heap.size else kb j, ?_⟩
                rw [List.range_succ, filter_snoc, filter_snoc, HIF.out, HJF.out]
                simp only [if_true, Bool.false_eq_true, if_false, List.append_nil]
                exact hB4
              clear hB4
              go_wp2_with fail
              go_roundw
              case rel => exact ⟨k + 1, by omega, by go_num, HB'⟩
              case measure => simp [intOf]; omega
            | false =>
              go_wp2_with fail
              go_region_held3 (fun w' => w'.cell? ⟨b1, o1 + k, none⟩ = some (.slice va (L1 k) vm) ∧ w'.cell? ⟨b2, o2 + k, none⟩ = some (.slice ra (L2 k) rm)) (go_keep)
                (first
                  | (go_at_call 18; refine (newKey_any _ _ _ _ _ _ _ _ _).mono ?_; rintro e w' ⟨rfl, rfl⟩))
              have hN : BTS w (wr.alloc (.cells (kcells (.slice va (L1 k) vm) (kp F) (.slice ra (L2 k) rm) (kp O)) 51)) (k + 1) (fun j => if j = k then wr.heap.size else kb j) (kc0 cv rv cof pof F O) (List.range k) ((List.range k).filter ic) ((List.range k).filter ip) u18 u19 u20 := by
                have e : kc0 cv rv cof pof F O k = kcells (.slice va (L1 k) vm) (kp F) (.slice ra (L2 k) rm) (kp O) := by unfold kc0; rw [HVA.out, HRA.out, HCF.out, HPF.out]; rfl
                rw [← e]; exact HNEW.out
              obtain ⟨n1, X1, hown1, hl1, hst1⟩ := hN.open1 65536 (by simp; omega)
              have HO1 := hide hown1
              have HS1 := hide (hst1 k (by omega))
              clear hown1 hst1 hN
              rw [if_pos rfl] at HS1
              go_wp2_with (at_builtin; refine append_ptr (wr.alloc (.cells (kcells (.slice va (L1 k) vm) (kp F) (.slice ra (L2 k) rm) (kp O)) 51)) _ rfl _ _ rfl w.heap.size u18 n1 X1 wr.heap.size (wr.heap.size + 1) (by simp) rfl rfl HO1.out ?hb1 ?hb2 ?hb3 ?hb4 ?_)
              case hb1 => have := HSZ.out; simp; omega
              case hb2 => omega
              case hb3 => exact ((Below.refl _ _).alloc (Nat.le_refl _) _).drew
              case hb4 => exact heap_alloc_new _ _
              intro g1 cap1 w2 ha1
              have hB2 := HS1.out _ _ ha1
              clear ha1 HO1 HS1 HNEW
              have q3 := cell_bel hB2.bel HG3.out
              have q4 := cell_bel hB2.bel HG4.out
              rw [HIF.out] at q3
              rw [HJF.out] at q4
              have HB' : Hid (BT w cv rv ic ip cof pof F O (k + 1) (.slice (some ⟨g1, 0, none⟩) (n1 + 1) cap1) (u19) (u20) w2) := by
                refine ⟨fun j => if j = k then wr.heap.size else kb j, ?_⟩
                rw [List.range_succ, filter_snoc, filter_snoc, HIF.out, HJF.out]
                simp only [if_true, Bool.false_eq_true, if_false, List.append_nil]
                exact hB2
              clear hB2
              go_wp2_with fail
              go_roundw
              case rel => exact ⟨k + 1, by omega, by go_num, HB'⟩
              case measure => simp [intOf]; omega
      | false =>
        cases pf with
        | true =>
          cases icf with
          | true =>
            cases ipf with
            | true =>
              go_wp2_with fail
              go_region_held3 (fun w' => w'.cell? ⟨b1, o1 + k, none⟩ = some (.slice va (L1 k) vm) ∧ w'.cell? ⟨b2, o2 + k, none⟩ = some (.slice ra (L2 k) rm)) (go_keep)
                (first
                  | (go_at_call 18; refine (newKey_any _ _ _ _ _ _ _ _ _).mono ?_; rintro e w' ⟨rfl, rfl⟩))
              have hN : BTS w (wr.alloc (.cells (kcells (.slice va (L1 k) vm) (kp O) (.slice ra (L2 k) rm) (kp F)) 51)) (k + 1) (fun j => if j = k then wr.heap.size else kb j) (kc0 cv rv cof pof F O) (List.range k) ((List.range k).filter ic) ((List.range k).filter ip) u18 u19 u20 := by
                have e : kc0 cv rv cof pof F O k = kcells (.slice va (L1 k) vm) (kp O) (.slice ra (L2 k) rm) (kp F) := by unfold kc0; rw [HVA.out, HRA.out, HCF.out, HPF.out]; rfl
                rw [← e]; exact HNEW.out
              obtain ⟨n1, X1, hown1, hl1, hst1⟩ := hN.open1 65536 (by simp; omega)
              have HO1 := hide hown1
              have HS1 := hide (hst1 k (by omega))
              clear hown1 hst1 hN
              rw [if_pos rfl] at HS1
              go_wp2_with (at_builtin; refine append_ptr (wr.alloc (.cells (kcells (.slice va (L1 k) vm) (kp O) (.slice ra (L2 k) rm) (kp F)) 51)) _ rfl _ _ rfl w.heap.size u18 n1 X1 wr.heap.size (wr.heap.size + 1) (by simp) rfl rfl HO1.out ?hb1 ?hb2 ?hb3 ?hb4 ?_)
              case hb1 => have := HSZ.out; simp; omega
              case hb2 => omega
              case hb3 => exact ((Below.refl _ _).alloc (Nat.le_refl _) _).drew
              case hb4 => exact heap_alloc_new _ _
              intro g1 cap1 w2 ha1
              have hB2 := HS1.out _ _ ha1
              clear ha1 HO1 HS1 HNEW
              have q3 := cell_bel hB2.bel HG3.out
              have q4 := cell_bel hB2.bel HG4.out
              rw [HIF.out] at q3
              rw [HJF.out] at q4
              obtain ⟨n2, X2, hown2, hl2, hst2⟩ := hB2.swap12.open1 65536 (Nat.le_trans (List.length_filter_le _ _) (by simp; omega))
              have HO2 := hide hown2
              have HS2 := hide (hst2 k (by omega))
              rw [if_pos rfl] at HS2
              have HZ2 := hide hB2.bel.size
              clear hown2 hst2 hB2
              go_wp2_with (at_builtin; refine append_ptr w2 _ rfl _ _ rfl w.heap.size u19 n2 X2 wr.heap.size w2.heap.size rfl rfl rfl HO2.out HZ2.out (by omega) ((Below.refl _ _).alloc (Nat.le_refl _) _) (heap_alloc_new _ _) ?_)
              intro g2 cap2 w3 ha2
              have hB3 := (HS2.out _ _ ha2).swap12
              clear ha2 HO2 HS2 HZ2 q3 q4
              have q4 := cell_bel hB3.bel HG4.out
              rw [HJF.out] at q4
              obtain ⟨n3, X3, hown3, hl3, hst3⟩ := hB3.swap13.open1 65536 (Nat.le_trans (List.length_filter_le _ _) (by simp; omega))
              have HO3 := hide hown3
              have HS3 := hide (hst3 k (by omega))
              rw [if_pos rfl] at HS3
              have HZ3 := hide hB3.bel.size
              clear hown3 hst3 hB3
              go_wp2_with (at_builtin; refine append_ptr w3 _ rfl _ _ rfl w.heap.size u20 n3 X3 wr.heap.size w3.heap.size rfl rfl rfl HO3.out HZ3.out (by omega) ((Below.refl _ _).alloc (Nat.le_refl _) _) (heap_alloc_new _ _) ?_)
              intro g3 cap3 w4 ha3
              have hB4 := (HS3.out _ _ ha3).swap13
              clear ha3 HO3 HS3 HZ3 q4
              have HB' : Hid (BT w cv rv ic ip cof pof F O (k + 1) (.slice (some ⟨g1, 0, none⟩) (n1 + 1) cap1) (.slice (some ⟨g2, 0, none⟩) (n2 + 1) cap2) (.slice (some ⟨g3, 0, none⟩) (n3 + 1) cap3) w4) := by
                refine ⟨fun j => if j = k then wr.heap.size else kb j, ?_⟩
                rw [List.range_succ, filter_snoc, filter_snoc, HIF.out, HJF.out]
                simp only [if_true, Bool.false_eq_true, if_false, List.append_nil]
                exact hB4
              clear hB4
              go_wp2_with fail
              go_roundw
              case rel => exact ⟨k + 1, by omega, by go_num, HB'⟩
              case measure => simp [intOf]; omega
            | false =>
              go_wp2_with fail
              go_region_held3 (fun w' => w'.cell? ⟨b1, o1 + k, none⟩ = some (.slice va (L1 k) vm) ∧ w'.cell? ⟨b2, o2 + k, none⟩ = some (.slice ra (L2 k) rm)) (go_keep)
                (first
                  | (go_at_call 18; refine (newKey_any _ _ _ _ _ _ _ _ _).mono ?_; rintro e w' ⟨rfl, rfl⟩))
              have hN : BTS w (wr.alloc (.cells (kcells (.slice va (L1 k) vm) (kp O) (.slice ra (L2 k) rm) (kp F)) 51)) (k + 1) (fun j => if j = k then wr.heap.size else kb j) (kc0 cv rv cof pof F O) (List.range k) ((List.range k).filter ic) ((List.range k).filter ip) u18 u19 u20 := by
                have e : kc0 cv rv cof pof F O k = kcells (.slice va (L1 k) vm) (kp O) (.slice ra (L2 k) rm) (kp F) := by unfold kc0; rw [HVA.out, HRA.out, HCF.out, HPF.out]; rfl
                rw [← e]; exact HNEW.out
              obtain ⟨n1, X1, hown1, hl1, hst1⟩ := hN.open1 65536 (by simp; omega)
              have HO1 := hide hown1
              have HS1 := hide (hst1 k (by omega))
              clear hown1 hst1 hN
              rw [if_pos rfl] at HS1
              go_wp2_with (at_builtin; refine append_ptr (wr.alloc (.cells (kcells (.slice va (L1 k) vm) (kp O) (.slice ra (L2 k) rm) (kp F)) 51)) _ rfl _ _ rfl w.heap.size u18 n1 X1 wr.heap.size (wr.heap.size + 1) (by simp) rfl rfl HO1.out ?hb1 ?hb2 ?hb3 ?hb4 ?_)
              case hb1 => have := HSZ.out; simp; omega
              case hb2 => omega
              case hb3 => exact ((Below.refl _ _).alloc (Nat.le_refl _) _).drew
              case hb4 => exact heap_alloc_new _ _
              intro g1 cap1 w2 ha1
              have hB2 := HS1.out _ _ ha1
              clear ha1 HO1 HS1 HNEW
              have q3 := cell_bel hB2.bel HG3.out
              have q4 := cell_bel hB2.bel HG4.out
              rw [HIF.out] at q3
              rw [HJF.out] at q4
              obtain ⟨n2, X2, hown2, hl2, hst2⟩ := hB2.swap12.open1 65536 (Nat.le_trans (List.length_filter_le _ _) (by simp; omega))
              have HO2 := hide hown2
              have HS2 := hide (hst2 k (by omega))
              rw [if_pos rfl] at HS2
              have HZ2 := hide hB2.bel.size
              clear hown2 hst2 hB2
              go_wp2_with (at_builtin; refine append_ptr w2 _ rfl _ _ rfl w.heap.size u19 n2 X2 wr.heap.size w2.heap.size rfl rfl rfl HO2.out HZ2.out (by omega) ((Below.refl _ _).alloc (Nat.le_refl _) _) (heap_alloc_new _ _) ?_)
              intro g2 cap2 w3 ha2
              have hB3 := (HS2.out _ _ ha2).swap12
              clear ha2 HO2 HS2 HZ2 q3 q4
              have q4 := cell_bel hB3.bel HG4.out
              rw [HJF.out] at q4
              have HB' : Hid (BT w cv rv ic ip cof pof F O (k + 1) (.slice (some ⟨g1, 0, none⟩) (n1 + 1) cap1) (.slice (some ⟨g2, 0, none⟩) (n2 + 1) cap2) (u20) w3) := by
                refine ⟨fun j => if j = k then wr.heap.size else kb j, ?_⟩
                rw [List.range_succ, filter_snoc, filter_snoc, HIF.out, HJF.out]
                simp only [if_true, Bool.false_eq_true, if_false, List.append_nil]
                exact hB3
              clear hB3
              go_wp2_with fail
              go_roundw
              case rel => exact ⟨k + 1, by omega, by go_num, HB'⟩
              case measure => simp [intOf]; omega
          | false =>
            cases ipf with
            | true =>
              go_wp2_with fail
              go_region_held3 (fun w' => w'.cell? ⟨b1, o1 + k, none⟩ = some (.slice va (L1 k) vm) ∧ w'.cell? ⟨b2, o2 + k, none⟩ = some (.slice ra (L2 k) rm)) (go_keep)
                (first
                  | (go_at_call 18; refine (newKey_any _ _ _ _ _ _ _ _ _).mono ?_; rintro e w' ⟨rfl, rfl⟩))
              have hN : BTS w (wr.alloc (.cells (kcells (.slice va (L1 k) vm) (kp O) (.slice ra (L2 k) rm) (kp F)) 51)) (k + 1) (fun j => if j = k then wr.heap.size else kb j) (kc0 cv rv cof pof F O) (List.range k) ((List.range k).filter ic) ((List.range k).filter ip) u18 u19 u20 := by
                have e : kc0 cv rv cof pof F O k = kcells (.slice va (L1 k) vm) (kp O) (.slice ra (L2 k) rm) (kp F) := by unfold kc0; rw [HVA.out, HRA.out, HCF.out, HPF.out]; rfl
                rw [← e]; exact HNEW.out
              obtain ⟨n1, X1, hown1, hl1, hst1⟩ := hN.open1 65536 (by simp; omega)
              have HO1 := hide hown1
              have HS1 := hide (hst1 k (by omega))
              clear hown1 hst1 hN
              rw [if_pos rfl] at HS1
              go_wp2_with (at_builtin; refine append_ptr (wr.alloc (.cells (kcells (.slice va (L1 k) vm) (kp O) (.slice ra (L2 k) rm) (kp F)) 51)) _ rfl _ _ rfl w.heap.size u18 n1 X1 wr.heap.size (wr.heap.size + 1) (by simp) rfl rfl HO1.out ?hb1 ?hb2 ?hb3 ?hb4 ?_)
              case hb1 => have := HSZ.out; simp; omega
              case hb2 => omega
              case hb3 => exact ((Below.refl _ _).alloc (Nat.le_refl _) _).drew
              case hb4 => exact heap_alloc_new _ _
              intro g1 cap1 w2 ha1
              have hB2 := HS1.out _ _ ha1
              clear ha1 HO1 HS1 HNEW
              have q3 := cell_bel hB2.bel HG3.out
              have q4 := cell_bel hB2.bel HG4.out
              rw [HIF.out] at q3
              rw [HJF.out] at q4
              obtain ⟨n3, X3, hown3, hl3, hst3⟩ := hB2.swap13.open1 65536 (Nat.le_trans (List.length_filter_le _ _) (by simp; omega))
              have HO3 := hide hown3
              have HS3 := hide (hst3 k (by omega))
              rw [if_pos rfl] at HS3
              have HZ3 := hide hB2.bel.size
              clear hown3 hst3 hB2
              go_wp2_with (at_builtin; refine append_ptr w2 _ rfl _ _ rfl w.heap.size u20 n3 X3 wr.heap.size w2.heap.size rfl rfl rfl HO3.out HZ3.out (by omega) ((Below.refl _ _).alloc (Nat.le_refl _) _) (heap_alloc_new _ _) ?_)
              intro g3 cap3 w4 ha3
              have hB4 := (HS3.out _ _ ha3).swap13
              clear ha3 HO3 HS3 HZ3 q4
              have HB' : Hid (BT w cv rv ic ip cof pof F O (k + 1) (.slice (some ⟨g1, 0, none⟩) (n1 + 1) cap1) (u19) (.slice (some ⟨g3, 0, none⟩) (n3 + 1) cap3) w4) := by
                refine ⟨fun j => if j = k then wr.heap.size else kb j, ?_⟩
                rw [List.range_succ, filter_snoc, filter_snoc, HIF.out, HJF.out]
                simp only [if_true, Bool.false_eq_true, if_false, List.append_nil]
                exact hB4
              clear hB4
              go_wp2_with fail
              go_roundw
              case rel => exact ⟨k + 1, by omega, by go_num, HB'⟩
              case measure => simp [intOf]; omega
            | false =>
              go_wp2_with fail
              go_region_held3 (fun w' => w'.cell? ⟨b1, o1 + k, none⟩ = some (.slice va (L1 k) vm) ∧ w'.cell? ⟨b2, o2 + k, none⟩ = some (.slice ra (L2 k) rm)) (go_keep)
                (first
                  | (go_at_call 18; refine (newKey_any _ _ _ _ _ _ _ _ _).mono ?_; rintro e w' ⟨rfl, rfl⟩))
              have hN : BTS w (wr.alloc (.cells (kcells (.slice va (L1 k) vm) (kp O) (.slice ra (L2 k) rm) (kp F)) 51)) (k + 1) (fun j => if j = k then wr.heap.size else kb j) (kc0 cv rv cof pof F O) (List.range k) ((List.range k).filter ic) ((List.range k).filter ip) u18 u19 u20 := by
                have e : kc0 cv rv cof pof F O k = kcells (.slice va (L1 k) vm) (kp O) (.slice ra (L2 k) rm) (kp F) := by unfold kc0; rw [HVA.out, HRA.out, HCF.out, HPF.out]; rfl
                rw [← e]; exact HNEW.out
              obtain ⟨n1, X1, hown1, hl1, hst1⟩ := hN.open1 65536 (by simp; omega)
              have HO1 := hide hown1
              have HS1 := hide (hst1 k (by omega))
              clear hown1 hst1 hN
              rw [if_pos rfl] at HS1
              go_wp2_with (at_builtin; refine append_ptr (wr.alloc (.cells (kcells (.slice va (L1 k) vm) (kp O) (.slice ra (L2 k) rm) (kp F)) 51)) _ rfl _ _ rfl w.heap.size u18 n1 X1 wr.heap.size (wr.heap.size + 1) (by simp) rfl rfl HO1.out ?hb1 ?hb2 ?hb3 ?hb4 ?_)
              case hb1 => have := HSZ.out; simp; omega
              case hb2 => omega
              case hb3 => exact ((Below.refl _ _).alloc (Nat.le_refl _) _).drew
              case hb4 => exact heap_alloc_new _ _
              intro g1 cap1 w2 ha1
              have hB2 := HS1.out _ _ ha1
              clear ha1 HO1 HS1 HNEW
              have q3 := cell_bel hB2.bel HG3.out
              have q4 := cell_bel hB2.bel HG4.out
              rw [HIF.out] at q3
              rw [HJF.out] at q4
              have HB' : Hid (BT w cv rv ic ip cof pof F O (k + 1) (.slice (some ⟨g1, 0, none⟩) (n1 + 1) cap1) (u19) (u20) w2) := by
                refine ⟨fun j => if j = k then wr.heap.size else kb j, ?_⟩
                rw [List.range_succ, filter_snoc, filter_snoc, HIF.out, HJF.out]
                simp only [if_true, Bool.false_eq_true, if_false, List.append_nil]
                exact hB2
              clear hB2
              go_wp2_with fail
              go_roundw
              case rel => exact ⟨k + 1, by omega, by go_num, HB'⟩
              case measure => simp [intOf]; omega
        | false =>
          cases icf with
          | true =>
            cases ipf with
            | true =>
              go_wp2_with fail
              go_region_held3 (fun w' => w'.cell? ⟨b1, o1 + k, none⟩ = some (.slice va (L1 k) vm) ∧ w'.cell? ⟨b2, o2 + k, none⟩ = some (.slice ra (L2 k) rm)) (go_keep)
                (first
                  | (go_at_call 18; refine (newKey_any _ _ _ _ _ _ _ _ _).mono ?_; rintro e w' ⟨rfl, rfl⟩))
              have hN : BTS w (wr.alloc (.cells (kcells (.slice va (L1 k) vm) (kp O) (.slice ra (L2 k) rm) (kp O)) 51)) (k + 1) (fun j => if j = k then wr.heap.size else kb j) (kc0 cv rv cof pof F O) (List.range k) ((List.range k).filter ic) ((List.range k).filter ip) u18 u19 u20 := by
                have e : kc0 cv rv cof pof F O k = kcells (.slice va (L1 k) vm) (kp O) (.slice ra (L2 k) rm) (kp O) := by unfold kc0; rw [HVA.out, HRA.out, HCF.out, HPF.out]; rfl
                rw [← e]; exact HNEW.out
              obtain ⟨n1, X1, hown1, hl1, hst1⟩ := hN.open1 65536 (by simp; omega)
              have HO1 := hide hown1
              have HS1 := hide (hst1 k (by omega))
              clear hown1 hst1 hN
              rw [if_pos rfl] at HS1
              go_wp2_with (at_builtin; refine append_ptr (wr.alloc (.cells (kcells (.slice va (L1 k) vm) (kp O) (.slice ra (L2 k) rm) (kp O)) 51)) _ rfl _ _ rfl w.heap.size u18 n1 X1 wr.heap.size (wr.heap.size + 1) (by simp) rfl rfl HO1.out ?hb1 ?hb2 ?hb3 ?hb4 ?_)
              case hb1 => have := HSZ.out; simp; omega
              case hb2 => omega
              case hb3 => exact ((Below.refl _ _).alloc (Nat.le_refl _) _).drew
              case hb4 => exact heap_alloc_new _ _
              intro g1 cap1 w2 ha1
              have hB2 := HS1.out _ _ ha1
              clear ha1 HO1 HS1 HNEW
              have q3 := cell_bel hB2.bel HG3.out
              have q4 := cell_bel hB2.bel HG4.out
              rw [HIF.out] at q3
              rw [HJF.out] at q4
              obtain ⟨n2, X2, hown2, hl2, hst2⟩ := hB2.swap12.open1 65536 (Nat.le_trans (List.length_filter_le _ _) (by simp; omega))
              have HO2 := hide hown2
              have HS2 := hide (hst2 k (by omega))
              rw [if_pos rfl] at HS2
              have HZ2 := hide hB2.bel.size
              clear hown2 hst2 hB2
              go_wp2_with (at_builtin; refine append_ptr w2 _ rfl _ _ rfl w.heap.size u19 n2 X2 wr.heap.size w2.heap.size rfl rfl rfl HO2.out HZ2.out (by omega) ((Below.refl _ _).alloc (Nat.le_refl _) _) (heap_alloc_new _ _) ?_)
              intro g2 cap2 w3 ha2
              have hB3 := (HS2.out _ _ ha2).swap12
              clear ha2 HO2 HS2 HZ2 q3 q4
              have q4 := cell_bel hB3.bel HG4.out
              rw [HJF.out] at q4
              obtain ⟨n3, X3, hown3, hl3, hst3⟩ := hB3.swap13.open1 65536 (Nat.le_trans (List.length_filter_le _ _) (by simp; omega))
              have HO3 := hide hown3
              have HS3 := hide (hst3 k (by omega))
              rw [if_pos rfl] at HS3
              have HZ3 := hide hB3.bel.size
              clear hown3 hst3 hB3
              go_wp2_with (at_builtin; refine append_ptr w3 _ rfl _ _ rfl w.heap.size u20 n3 X3 wr.heap.size w3.heap.size rfl rfl rfl HO3.out HZ3.out (by omega) ((Below.refl _ _).alloc (Nat.le_refl _) _) (heap_alloc_new _ _) ?_)
              intro g3 cap3 w4 ha3
              have hB4 := (HS3.out _ _ ha3).swap13
              clear ha3 HO3 HS3 HZ3 q4
              have HB' : Hid (BT w cv rv ic ip cof pof F O (k + 1) (.slice (some ⟨g1, 0, none⟩) (n1 + 1) cap1) (.slice (some ⟨g2, 0, none⟩) (n2 + 1) cap2) (.slice (some ⟨g3, 0, none⟩) (n3 + 1) cap3) w4) := by
                refine ⟨fun j => if j = k then wr.heap.size else kb j, ?_⟩
                rw [List.range_succ, filter_snoc, filter_snoc, HIF.out, HJF.out]
                simp only [if_true, Bool.false_eq_true, if_false, List.append_nil]
                exact hB4
              clear hB4
              go_wp2_with fail
              go_roundw
              case rel => exact ⟨k + 1, by omega, by go_num, HB'⟩
              case measure => simp [intOf]; omega
            | false =>
              go_wp2_with fail
              go_region_held3 (fun w' => w'.cell? ⟨b1, o1 + k, none⟩ = some (.slice va (L1 k) vm) ∧ w'.cell? ⟨b2, o2 + k, none⟩ = some (.slice ra (L2 k) rm)) (go_keep)
                (first
                  | (go_at_call 18; refine (newKey_any _ _ _ _ _ _ _ _ _).mono ?_; rintro e w' ⟨rfl, rfl⟩))
              have hN : BTS w (wr.alloc (.cells (kcells (.slice va (L1 k) vm) (kp O) (.slice ra (L2 k) rm) (kp O)) 51)) (k + 1) (fun j => if j = k then wr.heap.size else kb j) (kc0 cv rv cof pof F O) (List.range k) ((List.range k).filter ic) ((List.range k).filter ip) u18 u19 u20 := by
                have e : kc0 cv rv cof pof F O k = kcells (.slice va (L1 k) vm) (kp O) (.slice ra (L2 k) rm) (kp O) := by unfold kc0; rw [HVA.out, HRA.out, HCF.out, HPF.out]; rfl
                rw [← e]; exact HNEW.out
              obtain ⟨n1, X1, hown1, hl1, hst1⟩ := hN.open1 65536 (by simp; omega)
              have HO1 := hide hown1
              have HS1 := hide (hst1 k (by omega))
              clear hown1 hst1 hN
              rw [if_pos rfl] at HS1
              go_wp2_with (at_builtin; refine append_ptr (wr.alloc (.cells (kcells (.slice va (L1 k) vm) (kp O) (.slice ra (L2 k) rm) (kp O)) 51)) _ rfl _ _ rfl w.heap.size u18 n1 X1 wr.heap.size (wr.heap.size + 1) (by simp) rfl rfl HO1.out ?hb1 ?hb2 ?hb3 ?hb4 ?_)
              case hb1 => have := HSZ.out; simp; omega
              case hb2 => omega
              case hb3 => exact ((Below.refl _ _).alloc (Nat.le_refl _) _).drew
              case hb4 => exact heap_alloc_new _ _
              intro g1 cap1 w2 ha1
              have hB2 := HS1.out _ _ ha1
              clear ha1 HO1 HS1 HNEW
              have q3 := cell_bel hB2.bel HG3.out
              have q4 := cell_bel hB2.bel HG4.out
              rw [HIF.out] at q3
              rw [HJF.out] at q4
              obtain ⟨n2, X2, hown2, hl2, hst2⟩ := hB2.swap12.open1 65536 (Nat.le_trans (List.length_filter_le _ _) (by simp; omega))
              have HO2 := hide hown2
              have HS2 := hide (hst2 k (by omega))
              rw [if_pos rfl] at HS2
              have HZ2 := hide hB2.bel.size
              clear hown2 hst2 hB2
              go_wp2_with (at_builtin; refine append_ptr w2 _ rfl _ _ rfl w.heap.size u19 n2 X2 wr.heap.size w2.heap.size rfl rfl rfl HO2.out HZ2.out (by omega) ((Below.refl _ _).alloc (Nat.le_refl _) _) (heap_alloc_new _ _) ?_)
              intro g2 cap2 w3 ha2
              have hB3 := (HS2.out _ _ ha2).swap12
              clear ha2 HO2 HS2 HZ2 q3 q4
              have q4 := cell_bel hB3.bel HG4.out
              rw [HJF.out] at q4
              have HB' : Hid (BT w cv rv ic ip cof pof F O (k + 1) (.slice (some ⟨g1, 0, none⟩) (n1 + 1) cap1) (.slice (some ⟨g2, 0, none⟩) (n2 + 1) cap2) (u20) w3) := by
                refine ⟨fun j => if j = k then wr.heap.size else kb j, ?_⟩
                rw [List.range_succ, filter_snoc, filter_snoc, HIF.out, HJF.out]
                simp only [if_true, Bool.false_eq_true, if_false, List.append_nil]
                exact hB3
              clear hB3
              go_wp2_with fail
              go_roundw
              case rel => exact ⟨k + 1, by omega, by go_num, HB'⟩
              case measure => simp [intOf]; omega
          | false =>
            cases ipf with
            | true =>
              go_wp2_with fail
              go_region_held3 (fun w' => w'.cell? ⟨b1, o1 + k, none⟩ = some (.slice va (L1 k) vm) ∧ w'.cell? ⟨b2, o2 + k, none⟩ = some (.slice ra (L2 k) rm)) (go_keep)
                (first
                  | (go_at_call 18; refine (newKey_any _ _ _ _ _ _ _ _ _).mono ?_; rintro e w' ⟨rfl, rfl⟩))
              have hN : BTS w (wr.alloc (.cells (kcells (.slice va (L1 k) vm) (kp O) (.slice ra (L2 k) rm) (kp O)) 51)) (k + 1) (fun j => if j = k then wr.heap.size else kb j) (kc0 cv rv cof pof F O) (List.range k) ((List.range k).filter ic) ((List.range k).filter ip) u18 u19 u20 := by
                have e : kc0 cv rv cof pof F O k = kcells (.slice va (L1 k) vm) (kp O) (.slice ra (L2 k) rm) (kp O) := by unfold kc0; rw [HVA.out, HRA.out, HCF.out, HPF.out]; rfl
                rw [← e]; exact HNEW.out
              obtain ⟨n1, X1, hown1, hl1, hst1⟩ := hN.open1 65536 (by simp; omega)
              have HO1 := hide hown1
              have HS1 := hide (hst1 k (by omega))
              clear hown1 hst1 hN
              rw [if_pos rfl] at HS1
              go_wp2_with (at_builtin; refine append_ptr (wr.alloc (.cells (kcells (.slice va (L1 k) vm) (kp O) (.slice ra (L2 k) rm) (kp O)) 51)) _ rfl _ _ rfl w.heap.size u18 n1 X1 wr.heap.size (wr.heap.size + 1) (by simp) rfl rfl HO1.out ?hb1 ?hb2 ?hb3 ?hb4 ?_)
              case hb1 => have := HSZ.out; simp; omega
              case hb2 => omega
              case hb3 => exact ((Below.refl _ _).alloc (Nat.le_refl _) _).drew
              case hb4 => exact heap_alloc_new _ _
              intro g1 cap1 w2 ha1
              have hB2 := HS1.out _ _ ha1
              clear ha1 HO1 HS1 HNEW
              have q3 := cell_bel hB2.bel HG3.out
              have q4 := cell_bel hB2.bel HG4.out
              rw [HIF.out] at q3
              rw [HJF.out] at q4
              obtain ⟨n3, X3, hown3, hl3, hst3⟩ := hB2.swap13.open1 65536 (Nat.le_trans (List.length_filter_le _ _) (by simp; omega))
              have HO3 := hide hown3
              have HS3 := hide (hst3 k (by omega))
              rw [if_pos rfl] at HS3
              have HZ3 := hide hB2.bel.size
              clear hown3 hst3 hB2
              go_wp2_with (at_builtin; refine append_ptr w2 _ rfl _ _ rfl w.heap.size u20 n3 X3 wr.heap.size w2.heap.size rfl rfl rfl HO3.out HZ3.out (by omega) ((Below.refl _ _).alloc (Nat.le_refl _) _) (heap_alloc_new _ _) ?_)
              intro g3 cap3 w4 ha3
              have hB4 := (HS3.out _ _ ha3).swap13
              clear ha3 HO3 HS3 HZ3 q4
              have HB' : Hid (BT w cv rv ic ip cof pof F O (k + 1) (.slice (some ⟨g1, 0, none⟩) (n1 + 1) cap1) (u19) (.slice (some ⟨g3, 0, none⟩) (n3 + 1) cap3) w4) := by
                refine ⟨fun j => if j = k then wr.heap.size else kb j, ?_⟩
                rw [List.range_succ, filter_snoc, filter_snoc, HIF.out, HJF.out]
                simp only [if_true, Bool.false_eq_true, if_false, List.append_nil]
                exact hB4
              clear hB4
              go_wp2_with fail
              go_roundw
              case rel => exact ⟨k + 1, by omega, by go_num, HB'⟩
              case measure => simp [intOf]; omega
            | false =>
              go_wp2_with fail
              go_region_held3 (fun w' => w'.cell? ⟨b1, o1 + k, none⟩ = some (.slice va (L1 k) vm) ∧ w'.cell? ⟨b2, o2 + k, none⟩ = some (.slice ra (L2 k) rm)) (go_keep)
                (first
                  | (go_at_call 18; refine (newKey_any _ _ _ _ _ _ _ _ _).mono ?_; rintro e w' ⟨rfl, rfl⟩))
              have hN : BTS w (wr.alloc (.cells (kcells (.slice va (L1 k) vm) (kp O) (.slice ra (L2 k) rm) (kp O)) 51)) (k + 1) (fun j => if j = k then wr.heap.size else kb j) (kc0 cv rv cof pof F O) (List.range k) ((List.range k).filter ic) ((List.range k).filter ip) u18 u19 u20 := by
                have e : kc0 cv rv cof pof F O k = kcells (.slice va (L1 k) vm) (kp O) (.slice ra (L2 k) rm) (kp O) := by unfold kc0; rw [HVA.out, HRA.out, HCF.out, HPF.out]; rfl
                rw [← e]; exact HNEW.out
              obtain ⟨n1, X1, hown1, hl1, hst1⟩ := hN.open1 65536 (by simp; omega)
              have HO1 := hide hown1
              have HS1 := hide (hst1 k (by omega))
              clear hown1 hst1 hN
              rw [if_pos rfl] at HS1
              go_wp2_with (at_builtin; refine append_ptr (wr.alloc (.cells (kcells (.slice va (L1 k) vm) (kp O) (.slice ra (L2 k) rm) (kp O)) 51)) _ rfl _ _ rfl w.heap.size u18 n1 X1 wr.heap.size (wr.heap.size + 1) (by simp) rfl rfl HO1.out ?hb1 ?hb2 ?hb3 ?hb4 ?_)
              case hb1 => have := HSZ.out; simp; omega
              case hb2 => omega
              case hb3 => exact ((Below.refl _ _).alloc (Nat.le_refl _) _).drew
              case hb4 => exact heap_alloc_new _ _
              intro g1 cap1 w2 ha1
              have hB2 := HS1.out _ _ ha1
              clear ha1 HO1 HS1 HNEW
              have q3 := cell_bel hB2.bel HG3.out
              have q4 := cell_bel hB2.bel HG4.out
              rw [HIF.out] at q3
              rw [HJF.out] at q4
              have HB' : Hid (BT w cv rv ic ip cof pof F O (k + 1) (.slice (some ⟨g1, 0, none⟩) (n1 + 1) cap1) (u19) (u20) w2) := by
                refine ⟨fun j => if j = k then wr.heap.size else kb j, ?_⟩
                rw [List.range_succ, filter_snoc, filter_snoc, HIF.out, HJF.out]
                simp only [if_true, Bool.false_eq_true, if_false, List.append_nil]
                exact hB2
              clear hB2
              go_wp2_with fail
              go_roundw
              case rel => exact ⟨k + 1, by omega, by go_num, HB'⟩
              case measure => simp [intOf]; omega
    · obtain rfl : k = n := by omega
      obtain ⟨kb, hB⟩ := HK.out
      obtain ⟨t2, m2, e2⟩ := ownsRow_size hB.p2
      obtain ⟨t3, m3, e3⟩ := ownsRow_size hB.p3
      subst e2
      subst e3
      clear hB
      go_wp2_with (go_at_call 19; refine (newTable_any _ _ _ _ _ _ _).mono ?_; rintro e w' ⟨rfl, rfl⟩)
      go_ret2
      exact ⟨_, _, _, wr, rfl, HK.out, rfl⟩

end Go.Proofs.Qxb6602363a
