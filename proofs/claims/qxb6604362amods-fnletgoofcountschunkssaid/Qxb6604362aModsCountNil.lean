/-
  FnLetGoOfCountsChunks (3) at the nil slice: the walk.
-/
import Derived.Test.Qxb6604362aModsCount
namespace Go.Proofs.Qxb6604362aMods
open Go.RowKit

set_option maxHeartbeats 1000000 in
theorem count_nil (nm : ByteArray) (w : World) (hs : nm.size ≤ maxLen) :
    Calls Trym.prog 3 #[.string nm, .slice none 0 0] w fun e w' => e = .returned (.bool true) ∧ Below w.heap.size w w' := by
  have hs' : nm.size ≤ 9223372036854775807 := hs
  have hb5 := bytes5 nm none 0 0 w hs (Nat.zero_le _)
  by_cases hA : nm.size ≤ 1048576
  · have hA' : decide (nm.size + 0 ≤ 1048576) = true := decide_eq_true hA
    rw [hA'] at hb5
    clear hA'
    go_enter Trym.func3, Trym.ntmps3
    go_wp2_with fail
    refine hb5.mono ?_
    clear hb5
    rintro e w ⟨rfl, rfl⟩
    go_wp2_with fail
    refine (clone_nil 0 0 w).mono ?_
    rintro e w ⟨rfl, rfl⟩
    clear hs
    go_wp2_with fail
    refine (new_nil nm (fun _ => 0) w).mono ?_
    rintro e w2 ⟨p, g, rfl, hr2, hb2⟩
    go_wp2_with fail
    refine (new_nil nm (fun _ => 0) w2).mono ?_
    rintro e w3 ⟨p0, g0, rfl, he3, hb3⟩
    have hr3 := hr2.below hb3
    clear hr2
    have h7 := hr3.chunks
    have h70 := he3.chunks
    go_wp2_with fail
    refine (letgo_nil w3).mono ?_
    rintro e w3 ⟨rfl, rfl⟩
    go_wp2_with fail
    refine (letgo_some p 0 0 _ w3 h7).mono ?_
    rintro e w3 ⟨rfl, rfl⟩
    go_wp2_with fail
    refine (letgo_some p0 0 0 _ w3 h70).mono ?_
    rintro e w3 ⟨rfl, rfl⟩
    go_wp2_with fail
    refine (recsize_zero p0 g0 _ w3 he3).mono ?_
    rintro e w4 ⟨rfl, hb4⟩
    have hr4 := hr3.below hb4
    have hb0 : Below w.heap.size w w4 := (hb2.trans (hb3.mono hb2.size)).trans (hb4.mono (Nat.le_trans hb2.size hb3.size))
    clear hr3 he3 h7 h70 hb2 hb3 hb4
    go_wp2_with fail
    go_loop [7, 8] (fun t i => i = .int .i64 0 ∧ t = .int .i64 0) (fun _ i => 0 - (intOf i).toNat)
    case atStart => exact ⟨rfl, rfl⟩
    case round =>
      obtain ⟨rfl, rfl⟩ := hrel
      go_wp2_with fail
      refine (recsize_zero p g _ w4 hr4).mono ?_
      rintro e w5 ⟨rfl, hb5⟩
      have h7 := (hr4.below hb5).chunks
      have hb6 : Below w.heap.size w w5 := hb0.trans (hb5.mono hb0.size)
      clear hr4
      go_wp2_with fail
      refine (letgo_some p 0 0 _ w5 h7).mono ?_
      rintro e w5 ⟨rfl, rfl⟩
      go_wp2_with fail
      go_ret
      exact ⟨rfl, hb6⟩
  · have hA' : decide (nm.size + 0 ≤ 1048576) = false := decide_eq_false hA
    rw [hA'] at hb5
    clear hA'
    go_enter Trym.func3, Trym.ntmps3
    go_wp2_with fail
    refine hb5.mono ?_
    clear hb5
    rintro e w ⟨rfl, rfl⟩
    go_wp2_with fail
    go_ret
    exact ⟨rfl, Below.refl _ _⟩
end Go.Proofs.Qxb6604362aMods
