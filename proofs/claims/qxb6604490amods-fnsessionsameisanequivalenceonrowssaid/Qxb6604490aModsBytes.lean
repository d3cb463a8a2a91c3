/-
  zzBytes (4): it answers SOME bool; nothing old is written.
-/
import Derived.Test.Qxb6604490aModsBase
namespace Go.Proofs.Qxb6604490aMods
open Go.RowKit

set_option maxRecDepth 100000 in
set_option maxHeartbeats 8000000 in
theorem bytes_any (a0 a1 a2 a3 a4 a5 : ByteArray) (ae : Int) (a7 a8 a9 : ByteArray) (ac aq : Int) (b0 b1 b2 b3 b4 b5 : ByteArray) (be : Int) (b7 b8 b9 : ByteArray) (bc bq : Int)
    (c0 c1 c2 c3 c4 c5 : ByteArray) (ce : Int) (c7 c8 c9 : ByteArray) (cc cq : Int) (w : World) :
    Calls Trym.prog 4 #[.agg (row a0 a1 a2 a3 a4 a5 ae a7 a8 a9 ac aq), .agg (row b0 b1 b2 b3 b4 b5 be b7 b8 b9 bc bq), .agg (row c0 c1 c2 c3 c4 c5 ce c7 c8 c9 cc cq)] w fun x w' => ∃ b, x = .returned (.bool b) ∧ Below w.heap.size w w' := by
  go_enter Trym.func4, Trym.ntmps4
  go_wp2
  all_goals (go_ret; exact ⟨_, rfl, (((Below.refl _ _).alloc (Nat.le_refl _) _).alloc (by simp) _).alloc (by simp; omega) _⟩)
end Go.Proofs.Qxb6604490aMods
