/-
  FnLetGoOfOneMoreChunk (4) at the nil slice: the walk.
-/
import Derived.Test.Qxb6604362aModsMore
namespace Go.Proofs.Qxb6604362aMods
open Go.RowKit

theorem S_one (y : Int) : S (fun _ => y) 1 = wrap64 (0 + y) := rfl

set_option maxHeartbeats 1000000 in
theorem more_nil (nm : ByteArray) (y : Int) (w : World) (hs : nm.size ≤ maxLen) (hy1 : -9223372036854775808 ≤ y) (hy2 : y ≤ 9223372036854775807) :
    Calls Trym.prog 4 #[.string nm, .slice none 0 0, .int .i64 y] w fun e w' => e = .returned (.bool true) ∧ Below w.heap.size w w' := by
  have hs' : nm.size ≤ 9223372036854775807 := hs
  obtain ⟨i0, hi, hz0, hz1, hz2⟩ := info_parts Trym.info3
  have hb5 := bytes10 nm none 0 0 y w hs (Nat.zero_le _)
  by_cases hA : nm.size ≤ 1048576
  · have hA' : decide (nm.size + 0 ≤ 1048576) = true := decide_eq_true hA
    rw [hA'] at hb5
    clear hA'
    go_enter Trym.func4, Trym.ntmps4
    go_wp2_with fail
    refine hb5.mono ?_
    clear hb5
    rintro e w ⟨rfl, rfl⟩
    go_wp2_with fail
    refine (clone_nil 0 0 w).mono ?_
    rintro e w ⟨rfl, rfl⟩
    clear hs
    go_wp2_with (at_make; refine wpList_make_full _ rfl _ _ 22 rfl w.heap.size 3 i0 (.int .i64 0) 1 Trym.underlying22 hi hz0 hz1 _ _ _ _ 1 rfl rfl (by omega) (by omega) (by rw [hz2]; omega) (by unfold maxLen; omega) (Nat.le_refl _) ?_)
    intro w2 hown hgrow
    have hblk2 := own_block hown
    have hb2 : Below w.heap.size w w2 := (Below.refl _ _).grown hgrow (Nat.le_refl _) (by simp)
    rw [toList_madeCells_one] at hblk2
    have hcn : w2.cell? ⟨w.heap.size, 0, none⟩ = some (.int .i64 0) := by rw [cell_of_row w2 _ 0 _ 3 (0, 0) hblk2]; rfl
    have hfr : w2.frozen? ⟨w.heap.size, 0, none⟩ = false := frozen_of_row w2 _ 0 _ 3 hblk2
    have hw2 : w.heap.size < w2.heap.size := (Array.getElem?_eq_some_iff.1 hblk2).1
    have hb4 : Below w.heap.size w (w2.setCell ⟨w.heap.size, 0, none⟩ (.int .i64 y)) := hb2.setCell (Nat.le_refl _) _
    have HZ : Hid ((w2.setCell ⟨w.heap.size, 0, none⟩ (.int .i64 y)).heap.size = w2.heap.size) := by show _ = _; simp [World.setCell]
    have HM : Hid ((w2.setCell ⟨w.heap.size, 0, none⟩ (.int .i64 y)).cell? ⟨w.heap.size, 0, none⟩ = some (.int .i64 y)) := by show _ = _; exact World.cell?_setCell_same _ _ _ hcn
    clear hown hgrow hblk2 hb2
    go_wp2_with (refine wpList_copy_nothing rfl _ _ 22 22 rfl 3 Trym.underlying22 (by kernel_rfl) (some ⟨w.heap.size, 0, none⟩) none 1 1 0 0 rfl rfl rfl ?_)
    refine (new_nil nm (fun _ => y) (w2.setCell ⟨w.heap.size, 0, none⟩ (.int .i64 y))).mono ?_
    rintro e w5 ⟨p, g, rfl, hr5, hb5⟩
    have hf5 : ∀ i, i < 1 → w5.cell? ⟨w.heap.size, 0 + i, none⟩ = some (.int .i64 y) := fun i hi => by
      obtain rfl : i = 0 := by omega
      rw [Nat.zero_add, hb5.cell (p := ⟨w.heap.size, 0, none⟩) (by rw [HZ.out]; exact hw2)]; exact HM.out
    have hb6 : Below w.heap.size w w5 := hb4.trans (hb5.mono (by rw [HZ.out]; exact Nat.le_of_lt hw2))
    clear HM HZ hb5 hb4 hcn hfr
    go_wp2_with fail
    refine (new_some nm w.heap.size 0 1 1 (fun _ => y) w5 (by omega) hf5).mono ?_
    rintro e w6 ⟨p2, g2, rfl, hr6, hb7⟩
    have hr1 := hr5.below hb7
    have h7 := hr1.chunks
    have h72 := hr6.chunks
    have hb8 : Below w.heap.size w w6 := hb6.trans (hb7.mono hb6.size)
    clear hr5 hf5 hb6 hb7
    go_wp2_with fail
    refine (letgo_some p 0 0 _ w6 h7).mono ?_
    rintro e w6 ⟨rfl, rfl⟩
    go_wp2_with fail
    refine (letgo_some p2 1 1 _ w6 h72).mono ?_
    rintro e w6 ⟨rfl, rfl⟩
    go_wp2_with fail
    refine (letgo_some p 0 0 _ w6 h7).mono ?_
    rintro e w6 ⟨rfl, rfl⟩
    clear h7 h72
    go_wp2_with fail
    have hrs := recsize_any p2 g2 1 (fun _ => y) w6 hr6 (by omega)
    rw [S_one, Int.zero_add, wrap64_id y hy1 hy2] at hrs
    refine hrs.mono ?_
    clear hrs
    rintro e w7 ⟨rfl, hb9⟩
    have hr7 := hr1.below hb9
    clear hr1 hr6
    go_wp2_with fail
    refine (recsize_zero p g _ w7 hr7).mono ?_
    rintro e w8 ⟨rfl, hb10⟩
    clear hr7
    have hb11 : Below w.heap.size w w8 := hb8.trans ((hb9.mono hb8.size).trans (hb10.mono (Nat.le_trans hb8.size hb9.size)))
    clear hb8 hb9 hb10
    go_wp2_with fail
    go_ret
    exact ⟨rfl, hb11⟩
  · have hA' : decide (nm.size + 0 ≤ 1048576) = false := decide_eq_false hA
    rw [hA'] at hb5
    clear hA'
    go_enter Trym.func4, Trym.ntmps4
    go_wp2_with fail
    refine hb5.mono ?_
    clear hb5
    rintro e w ⟨rfl, rfl⟩
    go_wp2_with fail
    go_ret
    exact ⟨rfl, Below.refl _ _⟩
end Go.Proofs.Qxb6604362aMods
