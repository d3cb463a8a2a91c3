/-
  A RECORD IN MEMORY, AND ITS METHOD size (12, 9).
-/
import Derived.Test.Qxb6604362aModsBase
import Derived.Deep.MidRow
import Derived.Deep.WholeRow
import Derived.Outline
namespace Go.Proofs.Qxb6604362aMods
open Go.RowKit

/-- One chunk's cells: 32 bytes of sum, the length. -/
def chunk (x : Int) : List Value := List.replicate 32 (.int .u8 0) ++ [.int .i64 x]
theorem chunk_len (x : Int) : (chunk x).length = 33 := by simp [chunk]
theorem chunk_32 (x : Int) : (chunk x)[32]? = some (.int .i64 x) := by simp [chunk]
theorem chunk_at (x : Int) (h : 32 < (chunk x).length) : (chunk x)[32]'h = .int .i64 x := by simp [chunk]
theorem chunk_one (x : Int) : ∀ v ∈ chunk x, v.oneCell' = true := by
  intro v hv
  simp [chunk] at hv
  rcases hv with rfl | rfl <;> rfl

/-- n chunks of the lengths f 0, f 1, .. lie in block g. -/
def CH (w : World) (g n : Nat) (f : Nat → Int) : Prop :=
  ∃ cur : Array Value, w.heap[g]? = some (.cells cur 33 (0, 0)) ∧ cur.size = n * 33 ∧ ∀ i, i < n → ∀ j, j < 33 → cur[i * 33 + j]? = (chunk (f i))[j]?

theorem CH.range {w : World} {g n : Nat} {f : Nat → Int} (h : CH w g n f) (i : Nat) (hi : i < n) : w.rangeAt g (i * 33) (chunk (f i)) := by
  obtain ⟨cur, hg, hs, hc⟩ := h
  intro j v hv
  have hj : j < 33 := by have := (List.getElem?_eq_some_iff.1 hv).1; rwa [chunk_len] at this
  rw [cell_of_row w g _ cur 33 (0, 0) hg, hc i hi j hj, hv]

theorem CH.lt {w : World} {g n : Nat} {f : Nat → Int} (h : CH w g n f) : g < w.heap.size := by
  obtain ⟨cur, hg, _⟩ := h
  exact (Array.getElem?_eq_some_iff.1 hg).1

theorem CH.below {w w' : World} {g n : Nat} {f : Nat → Int} (h : CH w g n f) (hb : Below w.heap.size w w') : CH w' g n f := by
  have hl := h.lt
  obtain ⟨cur, hg, hs, hc⟩ := h
  exact ⟨cur, by rw [hb.block g hl]; exact hg, hs, hc⟩

/-- A file's record in block b, its chunks in block g. -/
structure IsRec (w : World) (b g n : Nat) (f : Nat → Int) : Prop where
  target : w.cell? ⟨b, 2, none⟩ = some (.string ByteArray.empty)
  chunks : w.cell? ⟨b, 7, none⟩ = some (.slice (some ⟨g, 0, none⟩) n n)
  left : w.cell? ⟨b, 8, none⟩ = some (.int .i64 0)
  ch : CH w g n f

theorem IsRec.below {w w' : World} {b g n : Nat} {f : Nat → Int} (h : IsRec w b g n f) (hb : Below w.heap.size w w') : IsRec w' b g n f := by
  have hl : b < w.heap.size := block_lt_of_cell h.left
  exact ⟨by rw [hb.cell (p := ⟨b, 2, none⟩) hl]; exact h.target, by rw [hb.cell (p := ⟨b, 7, none⟩) hl]; exact h.chunks, by rw [hb.cell (p := ⟨b, 8, none⟩) hl]; exact h.left, h.ch.below hb⟩

/-- What size sums up: int64's own sums. -/
def S (f : Nat → Int) : Nat → Int
  | 0 => 0
  | k + 1 => wrap64 (S f k + f k)

theorem wpList_store_new {P : Program} {ops : Array Oper} {rest : List Oper} {op : Oper} {a : Act} {w : World} {Q : Exit → Act → World → Prop} (hgd : op.guard = none) (ty : TypeId) (x y : Operand) (ho : op.op = .store ty x y)
    (c c' : Array Value) (hx : a.eval x = .pointer (some ⟨w.heap.size, 0, none⟩)) (hy : a.eval y = .agg c')
    (hi : (P.info? ty).map (·.size) = some c'.size) (hs : c.size = c'.size) (h1 : c'.all (·.oneCell') = true)
    (h : wpList P ops Q rest (a.put op.dst undef) (w.alloc (.cells c' ty))) : wpList P ops Q (op :: rest) a (w.alloc (.cells c ty)) := by
  refine wpList_plain hgd fun K hK => ?_
  unfold Oper.wp execOp
  simp only [ho, hx, hy, Sem.run_bind, run_storeAt_new w ty c c' hi hs h1, Sem.run_pure, Result.andThen_ok]
  exact hK _ _ h

set_option maxHeartbeats 400000 in
theorem size_any (b g n : Nat) (f : Nat → Int) (w : World) (hr : IsRec w b g n f) (hn : n ≤ 1048577) :
    Calls Trym.prog 12 #[.pointer (some ⟨b, 0, none⟩)] w fun e w' => e = .returned (.int .i64 (S f n)) ∧ Below w.heap.size w w' := by
  have h2 := hr.target
  have h7 := hr.chunks
  have h8 := hr.left
  go_enter Trym.func12, Trym.ntmps12
  go_wp2
  go_loopw [3, 25] (fun t i wr => ∃ k : Nat, k ≤ n ∧ i = .int .i64 k ∧ t = .int .i64 (S f k) ∧ Below w.heap.size w wr) (fun _ i _ => n - (intOf i).toNat)
  case atStart => exact ⟨0, Nat.zero_le _, rfl, rfl, Below.refl _ _⟩
  case round =>
    obtain ⟨k, hk, rfl, rfl, hb⟩ := hrel
    by_cases hlt : k < n
    · have hrg := (hr.ch.below hb).range k hlt
      clear hr h2 h7 h8
      have hck : ∀ x (h : 32 < (chunk x).length), (chunk x)[32]'h = .int .i64 x := chunk_at
      have hcl : ∀ x, (chunk x).length = 33 := chunk_len
      have hz : (Trym.prog.info? 33).map (·.size) = some (chunk (f k)).length := by rw [chunk_len]; kernel_rfl
      have hz' : (Trym.prog.info? 33).map (·.size) = some (chunk (f k)).toArray.size := by rw [List.size_toArray, chunk_len]; kernel_rfl
      go_wp2_with (first
        | (refine wpList_load_mid rfl 33 _ (by rfl) g (k * 33) (by rfl) (chunk (f k)) _ hrg Trym.underlying33 rfl hz ?_)
        | (refine wpList_store_new rfl 33 _ _ (by rfl) _ (chunk (f k)).toArray (by rfl) (by rfl) hz' (by simp [chunk_len]) (all_oneCell_toArray (chunk_one _)) ?_))
      go_roundw
      case rel => exact ⟨k + 1, by omega, by go_num, rfl, hb.alloc hb.size _⟩
      case measure => simp [intOf]; omega
    · go_wp2
      go_ret
      have hkn : k = n := by omega
      subst hkn
      exact ⟨rfl, hb⟩
end Go.Proofs.Qxb6604362aMods
