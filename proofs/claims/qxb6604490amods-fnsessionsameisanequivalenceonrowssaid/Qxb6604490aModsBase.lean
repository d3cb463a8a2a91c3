/-
  Session.Same (7), ZZnewSession (8), sessionOf (6).
-/
import Derived.Test.Qxb6604490aModsRows
import Derived.WalkKit
import Derived.WalkSpells
import Derived.Below
import Derived.Laws.Rows
import Derived.Deep.WholeRow
import Derived.Outline
namespace Go.Proofs.Qxb6604490aMods
open Go.RowKit

/-- A session's cells, of the row number q. -/
structure IsSess (D : Array Value) (q : Int) : Prop where
  size : D.size = 15
  seq : D[11]? = some (.int .i64 q)
  one : D.all (·.oneCell') = true

theorem same_any (D E : Array Value) (p q : Int) (hD : IsSess D p) (hE : IsSess E q) (w : World) :
    Calls Trym.prog 7 #[.agg D, .agg E] w fun e w' => e = .returned (.bool (p == q)) ∧ Below w.heap.size w w' := by
  have d11 := hD.seq
  have e11 := hE.seq
  go_enter Trym.func7, Trym.ntmps7
  go_wp2
  go_ret
  exact ⟨rfl, ((Below.refl _ _).alloc (Nat.le_refl _) _).alloc (by simp) _⟩

/-- A row's cells. -/
abbrev row (s0 s1 s2 s3 s4 s5 : ByteArray) (e : Int) (s7 s8 s9 : ByteArray) (c q : Int) : Array Value :=
  #[.string s0, .string s1, .string s2, .string s3, .string s4, .string s5, .int .i64 e, .string s7, .string s8, .string s9, .int .i64 c, .int .i64 q]
/-- The cells of the session that is made of it. -/
abbrev sess (s0 s1 s2 s3 s4 s5 : ByteArray) (e : Int) (s7 s8 s9 : ByteArray) (c q : Int) : Array Value :=
  #[.string s0, .string s1, .string s2, .string s3, .string s4, .string s5, .int .i64 e, .string s7, .string s8, .string s9, .int .i64 c, .int .i64 q, .int .u64 0, .int .i64 0, .pointer none]

theorem isSess (s0 s1 s2 s3 s4 s5 : ByteArray) (e : Int) (s7 s8 s9 : ByteArray) (c q : Int) : IsSess (sess s0 s1 s2 s3 s4 s5 e s7 s8 s9 c q) q :=
  ⟨rfl, rfl, by simp [Value.oneCell']⟩

theorem new_any (s0 s1 s2 s3 s4 s5 : ByteArray) (e : Int) (s7 s8 s9 : ByteArray) (c q : Int) (w : World) :
    Calls Trym.prog 8 #[.string s0, .string s1, .string s2, .string s3, .string s4, .string s5, .int .i64 e, .string s7, .string s8, .string s9, .int .i64 c, .int .i64 q] w fun x w' =>
      x = .returned (.agg (sess s0 s1 s2 s3 s4 s5 e s7 s8 s9 c q)) ∧ w' = w.alloc (.cells (sess s0 s1 s2 s3 s4 s5 e s7 s8 s9 c q) 32) := by
  go_enter Trym.func8, Trym.ntmps8
  go_wp2
  simp [bodyPost, results, Trym.results8, go_sem]

theorem of_any (s0 s1 s2 s3 s4 s5 : ByteArray) (e : Int) (s7 s8 s9 : ByteArray) (c q : Int) (w : World) :
    Calls Trym.prog 6 #[.agg (row s0 s1 s2 s3 s4 s5 e s7 s8 s9 c q)] w fun x w' => x = .returned (.agg (sess s0 s1 s2 s3 s4 s5 e s7 s8 s9 c q)) ∧ Below w.heap.size w w' := by
  go_enter Trym.func6, Trym.ntmps6
  go_wp2_with fail
  refine (new_any s0 s1 s2 s3 s4 s5 e s7 s8 s9 c q _).mono ?_
  rintro x w' ⟨rfl, rfl⟩
  go_wp2_with fail
  simp [bodyPost, results, Trym.results6, go_sem]
  exact (((Below.refl _ _).alloc (Nat.le_refl _) _).alloc (by simp) _).alloc (by simp; omega) _
end Go.Proofs.Qxb6604490aMods
