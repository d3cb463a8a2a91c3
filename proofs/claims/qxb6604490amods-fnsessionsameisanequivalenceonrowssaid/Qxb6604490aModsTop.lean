/-
  FnSessionSameIsAnEquivalenceOnRows (3): the walk at rows.
-/
import Derived.Test.Qxb6604490aModsLaw
import Derived.Test.Qxb6604490aModsSum
import Derived.Test.Qxb6604490aModsBytes
namespace Go.Proofs.Qxb6604490aMods
open Go.RowKit

theorem beq_flip (x y : Int) : (y == x) = (x == y) := by rw [Bool.eq_iff_iff]; simp only [beq_iff_eq]; omega

theorem row_one (s0 s1 s2 s3 s4 s5 : ByteArray) (e : Int) (s7 s8 s9 : ByteArray) (c q : Int) :
    ∀ v ∈ ([.string s0, .string s1, .string s2, .string s3, .string s4, .string s5, .int .i64 e, .string s7, .string s8, .string s9, .int .i64 c, .int .i64 q] : List Value), v.oneCell' = true := by
  intro v hv
  simp at hv
  rcases hv with rfl | rfl | rfl | rfl | rfl | rfl | rfl | rfl | rfl | rfl | rfl | rfl <;> rfl

theorem law (a0 a1 a2 a3 a4 a5 : ByteArray) (ae : Int) (a7 a8 a9 : ByteArray) (ac aq : Int) (b0 b1 b2 b3 b4 b5 : ByteArray) (be : Int) (b7 b8 b9 : ByteArray) (bc bq : Int)
    (c0 c1 c2 c3 c4 c5 : ByteArray) (ce : Int) (c7 c8 c9 : ByteArray) (cc cq : Int) (w : World) :
    Calls Trym.prog 3 #[.agg (row a0 a1 a2 a3 a4 a5 ae a7 a8 a9 ac aq), .agg (row b0 b1 b2 b3 b4 b5 be b7 b8 b9 bc bq), .agg (row c0 c1 c2 c3 c4 c5 ce c7 c8 c9 cc cq)] w fun x w' => x = .returned (.bool true) ∧ Below w.heap.size w w' := by
  refine core
    [.string a0, .string a1, .string a2, .string a3, .string a4, .string a5, .int .i64 ae, .string a7, .string a8, .string a9, .int .i64 ac, .int .i64 aq]
    [.string b0, .string b1, .string b2, .string b3, .string b4, .string b5, .int .i64 be, .string b7, .string b8, .string b9, .int .i64 bc, .int .i64 bq]
    [.string c0, .string c1, .string c2, .string c3, .string c4, .string c5, .int .i64 ce, .string c7, .string c8, .string c9, .int .i64 cc, .int .i64 cq]
    [.string c0, .string c1, .string c2, .string c3, .string c4, .string c5, .int .i64 ce, .string c7, .string c8, .string c9, .int .i64 cc, .int .i64 aq]
    (sess a0 a1 a2 a3 a4 a5 ae a7 a8 a9 ac aq).toList (sess b0 b1 b2 b3 b4 b5 be b7 b8 b9 bc bq).toList (sess c0 c1 c2 c3 c4 c5 ce c7 c8 c9 cc cq).toList (sess c0 c1 c2 c3 c4 c5 ce c7 c8 c9 cc aq).toList
    aq bq cq (aq == bq) (bq == cq) (aq == cq) w
    (bytes_any a0 a1 a2 a3 a4 a5 ae a7 a8 a9 ac aq b0 b1 b2 b3 b4 b5 be b7 b8 b9 bc bq c0 c1 c2 c3 c4 c5 ce c7 c8 c9 cc cq)
    ?_
    (of_any a0 a1 a2 a3 a4 a5 ae a7 a8 a9 ac aq) (of_any b0 b1 b2 b3 b4 b5 be b7 b8 b9 bc bq) (of_any c0 c1 c2 c3 c4 c5 ce c7 c8 c9 cc cq) (of_any c0 c1 c2 c3 c4 c5 ce c7 c8 c9 cc aq)
    rfl rfl rfl (row_one _ _ _ _ _ _ _ _ _ _ _ _) rfl rfl rfl rfl ?_ rfl ?_ rfl ?_ ?_ ?_ ?_
    (isSess a0 a1 a2 a3 a4 a5 ae a7 a8 a9 ac aq) (isSess b0 b1 b2 b3 b4 b5 be b7 b8 b9 bc bq) (isSess c0 c1 c2 c3 c4 c5 ce c7 c8 c9 cc cq) (isSess c0 c1 c2 c3 c4 c5 ce c7 c8 c9 cc aq)
  · rintro L (rfl | rfl | rfl)
    · exact sum_any a0 a1 a2 a3 a4 a5 ae a7 a8 a9 ac aq
    · exact sum_any b0 b1 b2 b3 b4 b5 be b7 b8 b9 bc bq
    · exact sum_any c0 c1 c2 c3 c4 c5 ce c7 c8 c9 cc cq
  · exact beq_flip aq bq
  · exact beq_flip bq cq
  · exact beq_flip aq cq
  · intro h1 h2
    simp only [beq_iff_eq] at *
    omega
  · intro h1 h2
    simp only [beq_iff_eq] at *
    omega
  · intro h1 h2
    simp only [beq_iff_eq] at *
    omega
end Go.Proofs.Qxb6604490aMods
