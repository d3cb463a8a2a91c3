/-
  isHexDigit (20), ZZisHexDigit (8), zzOverlap (9).
-/
import Derived.Test.Qxb6604480aModsRows
import Derived.WalkKit
import Derived.WalkSpells
import Derived.RowKit3
import Derived.Outline
namespace Go.Proofs.Qxb6604480aMods
open Go.RowKit

/-- Is c a hexadecimal digit? -/
def hexB (c : Int) : Bool := decide ((48 ≤ c ∧ c ≤ 57) ∨ (97 ≤ c ∧ c ≤ 102) ∨ (65 ≤ c ∧ c ≤ 70))

theorem hex_any (c : Int) (w : World) :
    Calls Trym.prog 8 #[.int .u8 c] w fun e w' => e = .returned (.bool (hexB c)) ∧ w' = w := by
  rcases (show c < 48 ∨ (48 ≤ c ∧ c ≤ 57) ∨ (58 ≤ c ∧ c ≤ 64) ∨ (65 ≤ c ∧ c ≤ 70) ∨ (71 ≤ c ∧ c ≤ 96) ∨ (97 ≤ c ∧ c ≤ 102) ∨ 103 ≤ c by omega) with h | ⟨h, h'⟩ | ⟨h, h'⟩ | ⟨h, h'⟩ | ⟨h, h'⟩ | ⟨h, h'⟩ | h
  · have hd : hexB c = false := by simp only [hexB, decide_eq_false_iff_not]; omega
    rw [hd]; clear hd
    go_enter Trym.func8, Trym.ntmps8
    go_wp2
    go_ret
    exact ⟨rfl, rfl⟩
  · have hd : hexB c = true := by simp only [hexB, decide_eq_true_eq]; omega
    rw [hd]; clear hd
    go_enter Trym.func8, Trym.ntmps8
    go_wp2
    go_ret
    exact ⟨rfl, rfl⟩
  · have hd : hexB c = false := by simp only [hexB, decide_eq_false_iff_not]; omega
    rw [hd]; clear hd
    have d1 : decide (c ≤ 57) = false := decide_eq_false (by omega)
    go_enter Trym.func8, Trym.ntmps8
    go_wp2
    go_ret
    exact ⟨rfl, rfl⟩
  · have hd : hexB c = true := by simp only [hexB, decide_eq_true_eq]; omega
    rw [hd]; clear hd
    have d1 : decide (c ≤ 57) = false := decide_eq_false (by omega)
    go_enter Trym.func8, Trym.ntmps8
    go_wp2
    go_ret
    exact ⟨rfl, rfl⟩
  · have hd : hexB c = false := by simp only [hexB, decide_eq_false_iff_not]; omega
    rw [hd]; clear hd
    have d1 : decide (c ≤ 57) = false := decide_eq_false (by omega)
    have d2 : decide (c ≤ 70) = false := decide_eq_false (by omega)
    go_enter Trym.func8, Trym.ntmps8
    go_wp2
    go_ret
    exact ⟨rfl, rfl⟩
  · have hd : hexB c = true := by simp only [hexB, decide_eq_true_eq]; omega
    rw [hd]; clear hd
    have d1 : decide (c ≤ 57) = false := decide_eq_false (by omega)
    have d2 : decide (c ≤ 70) = false := decide_eq_false (by omega)
    go_enter Trym.func8, Trym.ntmps8
    go_wp2
    go_ret
    exact ⟨rfl, rfl⟩
  · have hd : hexB c = false := by simp only [hexB, decide_eq_false_iff_not]; omega
    rw [hd]; clear hd
    have d1 : decide (c ≤ 57) = false := decide_eq_false (by omega)
    have d2 : decide (c ≤ 70) = false := decide_eq_false (by omega)
    have d3 : decide (c ≤ 102) = false := decide_eq_false (by omega)
    go_enter Trym.func8, Trym.ntmps8
    go_wp2
    go_ret
    exact ⟨rfl, rfl⟩

/-- How many numbers of lo .. hi lie in a .. b. -/
def over (lo hi a b : Int) : Int := if max a lo ≤ min b hi then min b hi - max a lo + 1 else 0

theorem over_any (lo hi a b : Int) (w : World) (h1 : 0 ≤ lo ∧ lo ≤ 255) (h2 : 0 ≤ hi ∧ hi ≤ 255) (h3 : 0 ≤ a ∧ a ≤ 255) (h4 : 0 ≤ b ∧ b ≤ 255) :
    Calls Trym.prog 9 #[.int .i64 lo, .int .i64 hi, .int .i64 a, .int .i64 b] w fun e w' => e = .returned (.int .i64 (over lo hi a b)) ∧ w' = w := by
  obtain ⟨p1, q1⟩ := h1
  obtain ⟨p2, q2⟩ := h2
  obtain ⟨p3, q3⟩ := h3
  obtain ⟨p4, q4⟩ := h4
  by_cases c1 : lo < a
  · by_cases c2 : b < hi
    · by_cases c3 : b < a
      · have hd : over lo hi a b = 0 := by unfold over; rw [if_neg (by omega)]
        rw [hd]; clear hd
        go_enter Trym.func9, Trym.ntmps9
        go_wp2
        go_ret
        exact ⟨rfl, rfl⟩
      · have hd : over lo hi a b = b - a + 1 := by unfold over; rw [if_pos (by omega)]; omega
        rw [hd]; clear hd
        go_enter Trym.func9, Trym.ntmps9
        go_wp2
        go_ret
        exact ⟨rfl, rfl⟩
    · by_cases c3 : hi < a
      · have hd : over lo hi a b = 0 := by unfold over; rw [if_neg (by omega)]
        rw [hd]; clear hd
        go_enter Trym.func9, Trym.ntmps9
        go_wp2
        go_ret
        exact ⟨rfl, rfl⟩
      · have hd : over lo hi a b = hi - a + 1 := by unfold over; rw [if_pos (by omega)]; omega
        rw [hd]; clear hd
        go_enter Trym.func9, Trym.ntmps9
        go_wp2
        go_ret
        exact ⟨rfl, rfl⟩
  · by_cases c2 : b < hi
    · by_cases c3 : b < lo
      · have hd : over lo hi a b = 0 := by unfold over; rw [if_neg (by omega)]
        rw [hd]; clear hd
        go_enter Trym.func9, Trym.ntmps9
        go_wp2
        go_ret
        exact ⟨rfl, rfl⟩
      · have hd : over lo hi a b = b - lo + 1 := by unfold over; rw [if_pos (by omega)]; omega
        rw [hd]; clear hd
        go_enter Trym.func9, Trym.ntmps9
        go_wp2
        go_ret
        exact ⟨rfl, rfl⟩
    · by_cases c3 : hi < lo
      · have hd : over lo hi a b = 0 := by unfold over; rw [if_neg (by omega)]
        rw [hd]; clear hd
        go_enter Trym.func9, Trym.ntmps9
        go_wp2
        go_ret
        exact ⟨rfl, rfl⟩
      · have hd : over lo hi a b = hi - lo + 1 := by unfold over; rw [if_pos (by omega)]; omega
        rw [hd]; clear hd
        go_enter Trym.func9, Trym.ntmps9
        go_wp2
        go_ret
        exact ⟨rfl, rfl⟩
end Go.Proofs.Qxb6604480aMods
