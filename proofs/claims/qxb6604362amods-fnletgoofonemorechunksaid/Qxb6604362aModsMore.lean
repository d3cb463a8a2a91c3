/-
  FnLetGoOfOneMoreChunk (4): the walk.
-/
import Derived.Test.Qxb6604362aModsCount
namespace Go.Proofs.Qxb6604362aMods
open Go.RowKit

theorem S_congr (f f' : Nat → Int) (k : Nat) (h : ∀ j, j < k → f j = f' j) : S f k = S f' k := by
  induction k with
  | zero => rfl
  | succ k ih => simp only [S]; rw [ih (fun j hj => h j (by omega)), h k (by omega)]

/-- The lengths with one more behind them. -/
def more (f : Nat → Int) (n : Nat) (x : Int) : Nat → Int := fun i => if i < n then f i else x

theorem S_more (f : Nat → Int) (n : Nat) (x : Int) : S (more f n x) (n + 1) = wrap64 (S f n + x) := by
  simp only [S]
  rw [S_congr (more f n x) f n (fun j hj => by simp [more, hj])]
  simp [more]

/-- What lies in the longer row behind the copy. -/
theorem splice_cell (n : Nat) (f : Nat → Int) (i : Nat) (hi : i < n + 1) :
    (splice (madeCells #[Value.int IntKind.i64 0] (n + 1)).toList 0 ((List.range n).map fun i => Value.int .i64 (f i)))[i]? = some (.int .i64 (if i < n then f i else 0)) := by
  rw [toList_madeCells_one]
  simp only [splice, List.take_zero, List.nil_append]
  by_cases h : i < n
  · rw [List.getElem?_append_left (by simpa using h)]
    simp [h]
  · rw [List.getElem?_append_right (by simp; omega)]
    have : i = n := by omega
    subst this
    simp

theorem more_cells {g n : Nat} {w : World} {f : Nat → Int} (x : Int) (hg : w.heap[g]? = some (.cells (splice (madeCells #[Value.int IntKind.i64 0] (n + 1)).toList 0 ((List.range n).map fun i => Value.int .i64 (f i))).toArray 3 (0, 0))) :
    (∀ i, i < n + 1 → (w.setCell ⟨g, n, none⟩ (.int .i64 x)).cell? ⟨g, i, none⟩ = some (.int .i64 (more f n x i))) ∧ w.cell? ⟨g, n, none⟩ = some (.int .i64 0) ∧ w.frozen? ⟨g, n, none⟩ = false := by
  have hc : ∀ i, i < n + 1 → w.cell? ⟨g, i, none⟩ = some (.int .i64 (if i < n then f i else 0)) := fun i hi => by
    rw [cell_of_row w g i _ 3 (0, 0) hg, List.getElem?_toArray]; exact splice_cell n f i hi
  refine ⟨fun i hi => ?_, by simpa using hc n (by omega), frozen_of_row w g n _ 3 hg⟩
  by_cases e : i = n
  · subst e
    rw [World.cell?_setCell_same _ _ _ (hc i (by omega))]
    simp [more]
  · rw [World.cell?_setCell_other _ _ _ _ (by intro h; injection h; omega), hc i hi]
    have : i < n := by omega
    simp [more, this]

set_option maxHeartbeats 1000000 in
theorem more_some (nm : ByteArray) (x : Addr) (n c : Nat) (zs : List Int) (y : Int) (w : World) (hs : nm.size ≤ maxLen) (hn0 : n ≤ maxLen) (hz : n ≤ zs.length) (hc : ∀ i, i < zs.length → w.cell? (x.add i) = some (.int .i64 (zs.getD i 0))) :
    Calls Trym.prog 4 #[.string nm, .slice (some x) n c, .int .i64 y] w fun e w' => e = .returned (.bool true) ∧ Below w.heap.size w w' := by
  have hs' : nm.size ≤ 9223372036854775807 := hs
  have hn' : n ≤ 9223372036854775807 := hn0
  obtain ⟨i0, hi, hz0, hz1, hz2⟩ := info_parts Trym.info3
  by_cases hA : nm.size + n ≤ 1048576
  · have hA' : decide (nm.size + n ≤ 1048576) = true := decide_eq_true hA
    by_cases hB : n ≤ 65536
    · by_cases hC : nm.size + 8 * n ≤ 1048576
      · have hb5 := bytes10 nm (some x) n c y w hs hn0
        rw [hA'] at hb5
        go_enter Trym.func4, Trym.ntmps4
        go_wp2_with fail
        refine hb5.mono ?_
        clear hb5
        rintro e w ⟨rfl, rfl⟩
        go_wp2_with fail
        refine (clone_some x n c zs _ (by omega) hz hc).mono ?_
        rintro e w1 ⟨rfl, hb1, hblk⟩
        obtain ⟨f, hf⟩ : ∃ f : Nat → Int, ∀ i, i < n → w1.cell? ⟨w.heap.size, i, none⟩ = some (.int .i64 (f i)) := ⟨fun i => zs.getD i 0, clone_cells hz hblk⟩
        have hw1 : w.heap.size < w1.heap.size := (Array.getElem?_eq_some_iff.1 hblk).1
        clear hblk hc hz hs hn0 hA hA'
        go_wp2_with (at_make; refine wpList_make_full _ rfl _ _ 22 rfl w1.heap.size 3 i0 (.int .i64 0) 1 Trym.underlying22 hi hz0 hz1 _ _ _ _ (n + 1) rfl rfl (by omega) (by omega) (by rw [hz2]; omega) (by unfold maxLen; omega) (Nat.le_refl _) ?_)
        intro w2 hown hgrow
        have hblk2 := own_block hown
        have hb2 : Below w1.heap.size w1 w2 := (Below.refl _ _).grown hgrow (Nat.le_refl _) (by simp)
        have hf2 : ∀ i, i < n → w2.cell? ⟨w.heap.size, i, none⟩ = some (.int .i64 (f i)) := fun i hi => by rw [hb2.cell (p := ⟨w.heap.size, i, none⟩) hw1]; exact hf i hi
        clear hown hgrow
        obtain ⟨L, hL⟩ : ∃ L, L = (madeCells #[Value.int IntKind.i64 0] (n + 1)).toList := ⟨_, rfl⟩
        rw [← hL] at hblk2
        have hLl : L.length = n + 1 := by rw [hL, toList_madeCells_one]; simp
        have HL : Hid (L = (madeCells #[Value.int IntKind.i64 0] (n + 1)).toList) := hL
        obtain ⟨cs, hcs⟩ : ∃ cs, cs = (List.range n).map fun i => Value.int .i64 (f i) := ⟨_, rfl⟩
        have hcl : cs.length = n := by rw [hcs]; simp
        have hsrc : ∀ j v, cs[j]? = some v → w2.cell? ((⟨w.heap.size, 0, none⟩ : Addr).add j) = some v := by
          intro j v hv
          have hj : j < n := by rw [← hcl]; exact (List.getElem?_eq_some_iff.1 hv).1
          rw [hcs] at hv
          simp [hj] at hv
          rw [Addr.add_mid, Nat.zero_add, hf2 j hj, hv]
        have h1 : ∀ v ∈ cs, v.oneCell' = true := by
          intro v hv
          rw [hcs] at hv
          simp at hv
          obtain ⟨_, _, rfl⟩ := hv
          rfl
        have HCS : Hid (cs = (List.range n).map fun i => Value.int .i64 (f i)) := hcs
        clear hL hcs hf
        go_wp2_with (refine wpList_copy_splice rfl _ _ 22 22 rfl 3 Trym.underlying22 (by kernel_rfl) (some ⟨w1.heap.size, 0, none⟩) (some ⟨w.heap.size, 0, none⟩) (n + 1) (n + 1) n n rfl rfl w1.heap.size 0 L 3 hblk2 cs (by rw [hcl]; exact (Nat.min_eq_left (by omega)).symm) (fun _ => ⟨rfl, _, rfl, hsrc⟩) (by omega) h1 w1.heap.size w2 (Below.refl _ _) (Nat.le_refl _) ?_)
        intro w3 HG hb3
        have hg3 := HG.out
        rw [HL.out, HCS.out] at hg3
        obtain ⟨hmc, hcn, hfr⟩ := more_cells y hg3
        have hw3 : w1.heap.size < w3.heap.size := (Array.getElem?_eq_some_iff.1 hg3).1
        have hf3 : ∀ i, i < n → (w3.setCell ⟨w1.heap.size, n, none⟩ (.int .i64 y)).cell? ⟨w.heap.size, i, none⟩ = some (.int .i64 (f i)) := fun i hi => by
          rw [World.cell?_setCell_other _ _ _ _ (by intro h; injection h; omega), hb3.cell (p := ⟨w.heap.size, i, none⟩) hw1]; exact hf2 i hi
        have hb4 : Below w1.heap.size w1 (w3.setCell ⟨w1.heap.size, n, none⟩ (.int .i64 y)) := (hb2.trans hb3).setCell (Nat.le_refl _) _
        have hz4 : (w3.setCell ⟨w1.heap.size, n, none⟩ (.int .i64 y)).heap.size = w3.heap.size := by simp [World.setCell]
        have HM : Hid (∀ i, i < n + 1 → (w3.setCell ⟨w1.heap.size, n, none⟩ (.int .i64 y)).cell? ⟨w1.heap.size, i, none⟩ = some (.int .i64 (more f n y i))) := hmc
        have HF : Hid (∀ i, i < n → (w3.setCell ⟨w1.heap.size, n, none⟩ (.int .i64 y)).cell? ⟨w.heap.size, i, none⟩ = some (.int .i64 (f i))) := hf3
        have HZ : Hid ((w3.setCell ⟨w1.heap.size, n, none⟩ (.int .i64 y)).heap.size = w3.heap.size) := hz4
        clear HL HCS HG hg3 hmc hf3 hz4 hf2 hblk2 hsrc h1 hcl hLl hb2 hb3
        go_wp2_with fail
        refine (new_some nm w.heap.size 0 n n f (w3.setCell ⟨w1.heap.size, n, none⟩ (.int .i64 y)) (by omega) (fun i hi => by rw [Nat.zero_add]; exact HF.out i hi)).mono ?_
        rintro e w5 ⟨p, g, rfl, hr5, hb5⟩
        have hf5 : ∀ i, i < n + 1 → w5.cell? ⟨w1.heap.size, 0 + i, none⟩ = some (.int .i64 (more f n y i)) := fun i hi => by
          rw [Nat.zero_add, hb5.cell (p := ⟨w1.heap.size, i, none⟩) (by rw [HZ.out]; exact hw3)]; exact HM.out i hi
        have hb6 : Below w1.heap.size w1 w5 := hb4.trans (hb5.mono (by rw [HZ.out]; exact Nat.le_of_lt hw3))
        clear HF HM HZ hb5 hb4 hcn hfr
        go_wp2_with fail
        refine (new_some nm w1.heap.size 0 (n + 1) (n + 1) (more f n y) w5 (by omega) hf5).mono ?_
        rintro e w6 ⟨p2, g2, rfl, hr6, hb7⟩
        have hr1 := hr5.below hb7
        have h7 := hr1.chunks
        have h72 := hr6.chunks
        have hb8 : Below w1.heap.size w1 w6 := hb6.trans (hb7.mono hb6.size)
        clear hr5 hf5 hb6 hb7
        go_wp2_with fail
        refine (letgo_some p n n _ w6 h7).mono ?_
        rintro e w6 ⟨rfl, rfl⟩
        go_wp2_with fail
        refine (letgo_some p2 (n + 1) (n + 1) _ w6 h72).mono ?_
        rintro e w6 ⟨rfl, rfl⟩
        go_wp2_with fail
        refine (letgo_some p n n _ w6 h7).mono ?_
        rintro e w6 ⟨rfl, rfl⟩
        clear h7 h72
        go_wp2_with fail
        have hrs := recsize_any p2 g2 (n + 1) (more f n y) w6 hr6 (by omega)
        rw [S_more] at hrs
        refine hrs.mono ?_
        clear hrs
        rintro e w7 ⟨rfl, hb9⟩
        have hr7 := hr1.below hb9
        clear hr1 hr6
        go_wp2_with fail
        refine (recsize_any p g n f w7 hr7 (by omega)).mono ?_
        rintro e w8 ⟨rfl, hb10⟩
        clear hr7
        have hb11 : Below w.heap.size w w8 := hb1.trans ((hb8.trans ((hb9.mono hb8.size).trans (hb10.mono (Nat.le_trans hb8.size hb9.size)))).mono (Nat.le_of_lt hw1))
        clear hb8 hb9 hb10 hb1
        go_wp2_with fail
        go_ret
        exact ⟨rfl, hb11⟩
      · have hb5 := bytes10 nm (some x) n c y w hs hn0
        rw [hA'] at hb5
        go_enter Trym.func4, Trym.ntmps4
        go_wp2_with fail
        refine hb5.mono ?_
        clear hb5
        rintro e w ⟨rfl, rfl⟩
        go_wp2_with fail
        go_ret
        exact ⟨rfl, Below.refl _ _⟩
    · have hb5 := bytes10 nm (some x) n c y w hs hn0
      rw [hA'] at hb5
      go_enter Trym.func4, Trym.ntmps4
      go_wp2_with fail
      refine hb5.mono ?_
      clear hb5
      rintro e w ⟨rfl, rfl⟩
      go_wp2_with fail
      go_ret
      exact ⟨rfl, Below.refl _ _⟩
  · have hA' : decide (nm.size + n ≤ 1048576) = false := decide_eq_false hA
    have hb5 := bytes10 nm (some x) n c y w hs hn0
    rw [hA'] at hb5
    go_enter Trym.func4, Trym.ntmps4
    go_wp2_with fail
    refine hb5.mono ?_
    clear hb5
    rintro e w ⟨rfl, rfl⟩
    go_wp2_with fail
    go_ret
    exact ⟨rfl, Below.refl _ _⟩
end Go.Proofs.Qxb6604362aMods
