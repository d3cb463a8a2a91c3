/-
  sessionBytes (5): it answers SOME int; it makes one block.
-/
import Derived.Test.Qxb6604490aModsBase
namespace Go.Proofs.Qxb6604490aMods
open Go.RowKit

set_option maxHeartbeats 1000000 in
theorem sum_any (s0 s1 s2 s3 s4 s5 : ByteArray) (e : Int) (s7 s8 s9 : ByteArray) (c q : Int) (w : World) :
    Calls Trym.prog 5 #[.agg (row s0 s1 s2 s3 s4 s5 e s7 s8 s9 c q)] w fun x w' => ∃ z, x = .returned (.int .i64 z) ∧ w' = w.alloc (.cells (row s0 s1 s2 s3 s4 s5 e s7 s8 s9 c q) 23) := by
  go_enter Trym.func5, Trym.ntmps5
  go_wp2
  go_ret
  exact ⟨_, rfl, rfl⟩
end Go.Proofs.Qxb6604490aMods
