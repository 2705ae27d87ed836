import Derived.Test.Qxb6602093aProg
import Derived.Test.Qxb6602093aSteps
import Derived.WalkKit
import Derived.WalkSpells
import Derived.LoopN
import Derived.Laws.BytesArg
namespace Go.Proofs.Qxb6602093a
open Go.RowKit

theorem conv_tail (w : World) (C : Array Value) (off len : Nat) (xs : List Int) (hlen : xs.length = len) (hc : ∀ i, i < len → C[off + i]? = some (.int .u8 (xs.getD i 0))) :
    (convert 38 9 (.slice (some ⟨w.heap.size, off, none⟩) len len)).run Try.prog (w.alloc (.cells C 40)) = .ok (.string (strOfNums xs)) (w.alloc (.cells C 40)) :=
  run_convert_bytes_arg (P := Try.prog) (w.alloc (.cells C 40)) 38 5 Try.underlying38 Try.underlying5 w.heap.size off len len xs hlen
    (fun i hi => by rw [World.cell?_alloc_new]; exact hc i hi) 9 Try.underlying9

set_option maxHeartbeats 400000 in
theorem utoa_zero (w : World) :
    Calls Try.prog 21 #[.int .u64 0] w fun e w' => e = .returned (.string ⟨#[48]⟩) ∧ Below w.heap.size w w' := by
  go_enter Try.func21, Try.ntmps21
  go_wp2
  go_ret
  exact ⟨rfl, Below.refl _ _⟩

set_option maxHeartbeats 400000 in
theorem utoa_one (n : Int) (w : World) (h1 : 1 ≤ n) (h2 : n < 10) :
    Calls Try.prog 21 #[.int .u64 n] w fun e w' => e = .returned (.string (strOfNums [48 + n % 10])) ∧ Below w.heap.size w w' := by
  have hz : (n == 0) = false := by rw [beq_eq_false_iff_ne]; omega
  have hcv := conv_tail w #[Value.int IntKind.u8 0, Value.int IntKind.u8 0, Value.int IntKind.u8 0, Value.int IntKind.u8 0, Value.int IntKind.u8 0, Value.int IntKind.u8 0, Value.int IntKind.u8 0, Value.int IntKind.u8 0, Value.int IntKind.u8 0, Value.int IntKind.u8 0, Value.int IntKind.u8 0, Value.int IntKind.u8 0, Value.int IntKind.u8 0, Value.int IntKind.u8 0, Value.int IntKind.u8 0, Value.int IntKind.u8 0, Value.int IntKind.u8 0, Value.int IntKind.u8 0, Value.int IntKind.u8 0, Value.int IntKind.u8 (48 + n % 10)] 19 1 [48 + n % 10] rfl (by
    intro i hi
    have : i = 0 := by omega
    rcases this with rfl
    rfl)
  go_enter Try.func21, Try.ntmps21
  go_wp2
  refine wp_loop_rounds 2 ?_
  rw [rounds_succ]
  go_wp2
  rw [rounds_succ]
  go_wp2
  go_ret
  exact ⟨rfl, (Below.refl _ _).alloc (Nat.le_refl _) _⟩

set_option maxHeartbeats 400000 in
theorem utoa_two (n : Int) (w : World) (h1 : 10 ≤ n) (h2 : n < 100) :
    Calls Try.prog 21 #[.int .u64 n] w fun e w' => e = .returned (.string (strOfNums [48 + n / 10 % 10, 48 + n % 10])) ∧ Below w.heap.size w w' := by
  have hz : (n == 0) = false := by rw [beq_eq_false_iff_ne]; omega
  have hcv := conv_tail w #[Value.int IntKind.u8 0, Value.int IntKind.u8 0, Value.int IntKind.u8 0, Value.int IntKind.u8 0, Value.int IntKind.u8 0, Value.int IntKind.u8 0, Value.int IntKind.u8 0, Value.int IntKind.u8 0, Value.int IntKind.u8 0, Value.int IntKind.u8 0, Value.int IntKind.u8 0, Value.int IntKind.u8 0, Value.int IntKind.u8 0, Value.int IntKind.u8 0, Value.int IntKind.u8 0, Value.int IntKind.u8 0, Value.int IntKind.u8 0, Value.int IntKind.u8 0, Value.int IntKind.u8 (48 + n / 10 % 10), Value.int IntKind.u8 (48 + n % 10)] 18 2 [48 + n / 10 % 10, 48 + n % 10] rfl (by
    intro i hi
    have : i = 0 ∨ i = 1 := by omega
    rcases this with rfl | rfl <;> rfl)
  go_enter Try.func21, Try.ntmps21
  go_wp2
  refine wp_loop_rounds 3 ?_
  rw [rounds_succ]
  go_wp2
  rw [rounds_succ]
  go_wp2
  rw [rounds_succ]
  go_wp2
  go_ret
  exact ⟨rfl, (Below.refl _ _).alloc (Nat.le_refl _) _⟩

set_option maxHeartbeats 400000 in
theorem utoa_three (n : Int) (w : World) (h1 : 100 ≤ n) (h2 : n < 256) :
    Calls Try.prog 21 #[.int .u64 n] w fun e w' => e = .returned (.string (strOfNums [48 + n / 10 / 10 % 10, 48 + n / 10 % 10, 48 + n % 10])) ∧ Below w.heap.size w w' := by
  have hz : (n == 0) = false := by rw [beq_eq_false_iff_ne]; omega
  have hcv := conv_tail w #[Value.int IntKind.u8 0, Value.int IntKind.u8 0, Value.int IntKind.u8 0, Value.int IntKind.u8 0, Value.int IntKind.u8 0, Value.int IntKind.u8 0, Value.int IntKind.u8 0, Value.int IntKind.u8 0, Value.int IntKind.u8 0, Value.int IntKind.u8 0, Value.int IntKind.u8 0, Value.int IntKind.u8 0, Value.int IntKind.u8 0, Value.int IntKind.u8 0, Value.int IntKind.u8 0, Value.int IntKind.u8 0, Value.int IntKind.u8 0, Value.int IntKind.u8 (48 + n / 10 / 10 % 10), Value.int IntKind.u8 (48 + n / 10 % 10), Value.int IntKind.u8 (48 + n % 10)] 17 3 [48 + n / 10 / 10 % 10, 48 + n / 10 % 10, 48 + n % 10] rfl (by
    intro i hi
    have : i = 0 ∨ i = 1 ∨ i = 2 := by omega
    rcases this with rfl | rfl | rfl <;> rfl)
  go_enter Try.func21, Try.ntmps21
  go_wp2
  refine wp_loop_rounds 4 ?_
  rw [rounds_succ]
  go_wp2
  rw [rounds_succ]
  go_wp2
  rw [rounds_succ]
  go_wp2
  rw [rounds_succ]
  go_wp2
  go_ret
  exact ⟨rfl, (Below.refl _ _).alloc (Nat.le_refl _) _⟩

end Go.Proofs.Qxb6602093a
