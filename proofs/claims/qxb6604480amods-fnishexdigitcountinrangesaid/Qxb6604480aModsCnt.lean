/-
  FnIsHexDigitCountInRange (4): the walk.
-/
import Derived.Test.Qxb6604480aModsBase
namespace Go.Proofs.Qxb6604480aMods
open Go.RowKit

/-- How many digits lie in lo .. hi. -/
def tot (lo hi : Int) : Int := over lo hi 48 57 + over lo hi 65 70 + over lo hi 97 102

theorem over_bd (lo hi a b : Int) (h : a ≤ b) : 0 ≤ over lo hi a b ∧ over lo hi a b ≤ b - a + 1 := by
  unfold over
  split <;> omega
theorem over_step (lo k a b : Int) (h : lo ≤ k) : over lo k a b = over lo (k - 1) a b + if a ≤ k ∧ k ≤ b then 1 else 0 := by
  unfold over
  by_cases h1 : a ≤ k ∧ k ≤ b
  · rw [if_pos h1]
    split <;> split <;> omega
  · rw [if_neg h1]
    split <;> split <;> omega
theorem over_none (lo hi a b : Int) (h : hi < lo) : over lo hi a b = 0 := by
  unfold over
  rw [if_neg (by omega)]
theorem tot_yes (lo k : Int) (h : lo ≤ k) (hx : hexB k = true) : tot lo k = tot lo (k - 1) + 1 := by
  simp only [hexB, decide_eq_true_eq] at hx
  unfold tot
  rw [over_step lo k 48 57 h, over_step lo k 65 70 h, over_step lo k 97 102 h]
  split <;> split <;> split <;> omega
theorem tot_no (lo k : Int) (h : lo ≤ k) (hx : hexB k = false) : tot lo k = tot lo (k - 1) := by
  simp only [hexB, decide_eq_false_iff_not] at hx
  unfold tot
  rw [over_step lo k 48 57 h, over_step lo k 65 70 h, over_step lo k 97 102 h]
  split <;> split <;> split <;> omega
theorem tot_bd (lo hi : Int) : 0 ≤ tot lo hi ∧ tot lo hi ≤ 22 := by
  have h1 := over_bd lo hi 48 57 (by omega)
  have h2 := over_bd lo hi 65 70 (by omega)
  have h3 := over_bd lo hi 97 102 (by omega)
  unfold tot
  omega
theorem tot_none (lo hi : Int) (h : hi < lo) : tot lo hi = 0 := by
  unfold tot
  rw [over_none _ _ _ _ h, over_none _ _ _ _ h, over_none _ _ _ _ h]
  rfl

set_option maxHeartbeats 400000 in
theorem cnt (lo hi : Int) (w : World) (h0 : 0 ≤ lo) (h1 : lo ≤ 255) (h2 : 0 ≤ hi) (h3 : hi ≤ 255) :
    Calls Trym.prog 4 #[.int .u8 lo, .int .u8 hi] w fun e w' => e = .returned (.bool true) ∧ Grown w w' := by
  go_enter Trym.func4, Trym.ntmps4
  go_wp2
  go_loop [5, 6] (fun t i => ∃ k : Int, lo ≤ k ∧ (k ≤ hi + 1 ∨ k = lo) ∧ i = .int .i64 k ∧ t = .int .i64 (tot lo (k - 1))) (fun _ i => (hi + 1 - intOf i).toNat)
  case atStart => exact ⟨lo, Int.le_refl _, .inr rfl, rfl, by rw [tot_none _ _ (by omega)]⟩
  case round =>
    obtain ⟨k, hk, hor, rfl, rfl⟩ := hrel
    have hb := tot_bd lo (k - 1)
    by_cases hlt : k ≤ hi
    · clear hor
      obtain ⟨b1, b2⟩ := hb
      have k8 : k % 256 = k := by omega
      have hk1 : k + 1 - 1 = k := by omega
      have K1 : Hid (k + 1 - 1 = k) := hk1
      clear hk1
      cases hx : hexB k with
      | true =>
        have HT : Hid (tot lo k = tot lo (k - 1) + 1) := tot_yes lo k hk hx
        have hxa := fun W => hex_any k W
        simp only [hx] at hxa
        clear hx
        go_wp2_with fail
        refine (hxa w).mono ?_
        clear hxa
        rintro e w ⟨rfl, rfl⟩
        go_wp2_with fail
        go_round
        case rel => exact ⟨k + 1, by omega, .inl (by omega), rfl, by rw [K1.out, HT.out]⟩
        case measure => simp [intOf]; omega
      | false =>
        have HT : Hid (tot lo k = tot lo (k - 1)) := tot_no lo k hk hx
        have hxa := fun W => hex_any k W
        simp only [hx] at hxa
        clear hx
        go_wp2_with fail
        refine (hxa w).mono ?_
        clear hxa
        rintro e w ⟨rfl, rfl⟩
        go_wp2_with fail
        go_round
        case rel => exact ⟨k + 1, by omega, .inl (by omega), rfl, by rw [K1.out, HT.out]⟩
        case measure => simp [intOf]; omega
    · have he : tot lo (k - 1) = over lo hi 48 57 + over lo hi 65 70 + over lo hi 97 102 := by
        show _ = tot lo hi
        rcases hor with h | h
        · have : k - 1 = hi := by omega
          rw [this]
        · rw [tot_none _ _ (by omega), tot_none _ _ (by omega)]
      have HO : Hid (k ≤ hi + 1 ∨ k = lo) := hor
      rw [he]
      clear he hor hb HO
      obtain ⟨p1, q1⟩ := over_bd lo hi 48 57 (by omega)
      obtain ⟨p2, q2⟩ := over_bd lo hi 65 70 (by omega)
      obtain ⟨p3, q3⟩ := over_bd lo hi 97 102 (by omega)
      go_wp2_with fail
      refine (over_any lo hi 48 57 w ⟨h0, h1⟩ ⟨h2, h3⟩ (by omega) (by omega)).mono ?_
      rintro e w ⟨rfl, rfl⟩
      go_wp2_with fail
      refine (over_any lo hi 65 70 w ⟨h0, h1⟩ ⟨h2, h3⟩ (by omega) (by omega)).mono ?_
      rintro e w ⟨rfl, rfl⟩
      go_wp2_with fail
      refine (over_any lo hi 97 102 w ⟨h0, h1⟩ ⟨h2, h3⟩ (by omega) (by omega)).mono ?_
      rintro e w ⟨rfl, rfl⟩
      go_wp2_with fail
      go_ret
      exact ⟨rfl, Grown.refl _⟩
end Go.Proofs.Qxb6604480aMods
