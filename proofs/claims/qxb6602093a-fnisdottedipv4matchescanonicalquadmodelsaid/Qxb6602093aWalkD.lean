import Derived.Test.Qxb6602093aWalkA
import Derived.Test.Qxb6602093aWalkC
namespace Go.Proofs.Qxb6602093a
open Go.RowKit

theorem zzDotted_any (s : ByteArray) (w : World) (hs : s.size ≤ maxLen) :
    Calls Try.prog 18 #[.string s] w fun e w' => e = .returned (.bool (Plain.dotted s.data.toList)) ∧ w' = w := by
  go_enter Try.func18, Try.ntmps18
  go_wp2_with (go_at_call 25; refine (isDotted_any s _ hs).mono ?_; rintro e w' ⟨rfl, rfl⟩)
  go_ret
  exact ⟨rfl, rfl⟩


end Go.Proofs.Qxb6602093a
