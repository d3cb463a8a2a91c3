/-
  A SessionRow that came in, opened.
-/
import Derived.Test.Qxb6604490aModsBase
import Derived.ProofKit
import Derived.OpenShut
namespace Go.Proofs.Qxb6604490aMods
open Go.ChangeShapes Go.WideShapes Go.ChangeAt Go.RowKit

theorem Trym.cells23 : Trym.prog.cellsOf 23 = 12 := by kernel_rfl
theorem Trym.cells9 : Trym.prog.cellsOf 9 = 1 := by kernel_rfl
theorem Trym.cells2 : Trym.prog.cellsOf 2 = 1 := by kernel_rfl
theorem Trym.cells3 : Trym.prog.cellsOf 3 = 1 := by kernel_rfl

theorem list12 {α : Type} (l : List α) (h : l.length = 12) : ∃ c0 c1 c2 c3 c4 c5 c6 c7 c8 c9 c10 c11, l = [c0, c1, c2, c3, c4, c5, c6, c7, c8, c9, c10, c11] := by
  match l, h with
  | [c0, c1, c2, c3, c4, c5, c6, c7, c8, c9, c10, c11], _ => exact ⟨c0, c1, c2, c3, c4, c5, c6, c7, c8, c9, c10, c11, rfl⟩

theorem open_row {H : Type} {enc : TypeId × Value → H} {W : World} {base b0 : Nat} {spare : Nat → Bool} {held : Bool} {r : Reach} {v : Value} {d : DataW H} {p : List MemPlace}
    (hv : Value.okWide Trym.prog W r b0 23 v) (h : DataW.Trod enc Trym.prog W base spare held 23 v d p) :
    ∃ (s0 s1 s2 s3 s4 s5 : ByteArray) (e : Int) (s7 s8 s9 : ByteArray) (c q : Int), v = .agg (row s0 s1 s2 s3 s4 s5 e s7 s8 s9 c q) := by
  obtain ⟨cs, rfl, hsz⟩ := okWide_struct Trym.underlying23 hv
  rw [Trym.cells23] at hsz
  obtain ⟨fuel, hf⟩ := h
  obtain ⟨xs, n, _, _, hl, hlen, hf⟩ := DataW.trod_struct Trym.underlying23 hf
  obtain ⟨c0, c1, c2, c3, c4, c5, c6, c7, c8, c9, c10, c11, hc⟩ := list12 cs.toList (by simpa using hsz)
  obtain ⟨x0, x1, x2, x3, x4, x5, x6, x7, x8, x9, x10, x11, rfl⟩ := list12 xs (by simpa using hlen)
  simp only [Value.cells, hc] at hf
  have g0 := hf 0 _ rfl
  have g1 := hf 1 _ rfl
  have g2 := hf 2 _ rfl
  have g3 := hf 3 _ rfl
  have g4 := hf 4 _ rfl
  have g5 := hf 5 _ rfl
  have g6 := hf 6 _ rfl
  have g7 := hf 7 _ rfl
  have g8 := hf 8 _ rfl
  have g9 := hf 9 _ rfl
  have g10 := hf 10 _ rfl
  have g11 := hf 11 _ rfl
  simp [Trym.cells9, Trym.cells2, Trym.cells3] at g0 g1 g2 g3 g4 g5 g6 g7 g8 g9 g10 g11
  obtain ⟨s0, e0, _⟩ := DataW.trod_string Trym.underlying9 g0
  obtain ⟨s1, e1, _⟩ := DataW.trod_string Trym.underlying9 g1
  obtain ⟨s2, e2, _⟩ := DataW.trod_string Trym.underlying9 g2
  obtain ⟨s3, e3, _⟩ := DataW.trod_string Trym.underlying9 g3
  obtain ⟨s4, e4, _⟩ := DataW.trod_string Trym.underlying9 g4
  obtain ⟨s5, e5, _⟩ := DataW.trod_string Trym.underlying9 g5
  obtain ⟨s6, e6, _⟩ := DataW.trod_int Trym.underlying2 g6
  obtain ⟨s7, e7, _⟩ := DataW.trod_string Trym.underlying9 g7
  obtain ⟨s8, e8, _⟩ := DataW.trod_string Trym.underlying9 g8
  obtain ⟨s9, e9, _⟩ := DataW.trod_string Trym.underlying9 g9
  obtain ⟨s10, e10, _⟩ := DataW.trod_int Trym.underlying3 g10
  obtain ⟨s11, e11, _⟩ := DataW.trod_int Trym.underlying2 g11
  simp only [List.cons.injEq, and_true] at e0 e1 e2 e3 e4 e5 e6 e7 e8 e9 e10 e11
  subst e0 e1 e2 e3 e4 e5 e6 e7 e8 e9 e10 e11
  refine ⟨s0, s1, s2, s3, s4, s5, s6, s7, s8, s9, s10, s11, ?_⟩
  have : cs = cs.toList.toArray := by simp
  rw [this, hc]
end Go.Proofs.Qxb6604490aMods
