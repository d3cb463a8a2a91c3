/-
  zzTSDomain (23), ZZtimestampValue (24), Value.Timestamp (25); FnValueTimestampRepacksNum (7): the walk.
-/
import Derived.Test.Qxb6604377aModsRows
import Derived.WalkKit
import Derived.WalkSpells
import Derived.RowKit3
import Derived.Laws.BitsLemmas
import Derived.Laws.Bits64
namespace Go.Proofs.Qxb6604377aMods
open Go.RowKit

/-- The packed words that the package writes. -/
def dom (x : Int) : Bool := decide (x / 36028797018963968 = 0) && decide (x / 4294967296 % 1048576 < 1000000) && decide (x / 4503599627370496 ≤ 6)

theorem dom_any (x : Int) (w : World) (_h0 : 0 ≤ x) :
    Calls Trym.prog 23 #[.int .u64 x] w fun e w' => e = .returned (.bool (dom x)) ∧ w' = w := by
  by_cases a1 : x / 36028797018963968 = 0
  · by_cases a2 : x / 4294967296 % 1048576 < 1000000
    · by_cases a3 : x / 4503599627370496 ≤ 6
      · have hd : dom x = true := by simp [dom, a1, a2, a3]
        rw [hd]
        clear hd
        go_enter Trym.func23, Trym.ntmps23
        go_wp2
        go_ret
        exact ⟨rfl, rfl⟩
      · have hd : dom x = false := by simp [dom, a3]
        rw [hd]
        clear hd
        go_enter Trym.func23, Trym.ntmps23
        go_wp2
        go_ret
        exact ⟨rfl, rfl⟩
    · have hd : dom x = false := by simp [dom, a2]
      rw [hd]
      clear hd
      go_enter Trym.func23, Trym.ntmps23
      go_wp2
      go_ret
      exact ⟨rfl, rfl⟩
  · have hd : dom x = false := by simp [dom, a1]
    rw [hd]
    clear hd
    go_enter Trym.func23, Trym.ntmps23
    go_wp2
    go_ret
    exact ⟨rfl, rfl⟩

theorem value_any (x : Int) (w : World) :
    Calls Trym.prog 24 #[.int .u64 x] w fun e w' => e = .returned (.agg #[.int .u8 7, .int .u32 0, .int .u64 x, .pointer none]) ∧ ∃ c, w' = w.alloc (.cells c 38) := by
  go_enter Trym.func24, Trym.ntmps24
  go_wp2
  simp [bodyPost, results, Trym.results24, go_sem]
  exact ⟨_, rfl⟩

theorem wraps_u64 (n : Int) (h₀ : 0 ≤ n) (h₁ : n < 2 ^ 64) : IntKind.u64.wrap n = n := by rw [IntKind.wrap_u64]; omega
theorem and20 (y : Int) (h0 : 0 ≤ y) (h1 : y < 18446744073709551616) : bits .and .u64 y 1048575 = y % 1048576 := bits_mask .u64 64 (by decide) wraps_u64 20 (by decide) y h0 h1
theorem and3 (y : Int) (h0 : 0 ≤ y) (h1 : y < 18446744073709551616) : bits .and .u64 y 7 = y % 8 := bits_mask .u64 64 (by decide) wraps_u64 3 (by decide) y h0 h1
theorem wrap64_id (x : Int) (h1 : -9223372036854775808 ≤ x) (h2 : x ≤ 9223372036854775807) : wrap64 x = x := by unfold wrap64; omega

theorem stamp_any (x s m d : Int) (w : World) (h0 : 0 ≤ x) (h1 : x < 18446744073709551616) (hs : x % 4294967296 = s) (hm : x / 4294967296 % 1048576 = m) (hd : x / 4503599627370496 % 8 = d) :
    Calls Trym.prog 25 #[.agg #[.int .u8 7, .int .u32 0, .int .u64 x, .pointer none]] w fun e w' => e = .returned (.agg #[.int .u32 s, .int .i64 m, .int .i64 d]) ∧ ∃ c1 c2, w' = (w.alloc (.cells c1 38)).alloc (.cells c2 49) := by
  have e1 : bits .and .u64 (x / 4294967296) 1048575 = m := by rw [and20 _ (by omega) (by omega)]; exact hm
  have e2 : bits .and .u64 (x / 4503599627370496) 7 = d := by rw [and3 _ (by omega) (by omega)]; exact hd
  have b1 : 0 ≤ m := by omega
  have b2 : m ≤ 1048575 := by omega
  have b3 : 0 ≤ d := by omega
  have b4 : d ≤ 7 := by omega
  clear hm hd
  go_enter Trym.func25, Trym.ntmps25
  go_wp2
  simp [bodyPost, results, Trym.results25, go_sem]
  exact ⟨_, _, rfl⟩

theorem repack (x : Int) (h0 : 0 ≤ x) (hd : dom x = true) : ∃ s m d : Int, x % 4294967296 = s ∧ x / 4294967296 % 1048576 = m ∧ x / 4503599627370496 % 8 = d ∧ 0 ≤ s ∧ s < 4294967296 ∧ 0 ≤ m ∧ m < 1000000 ∧ 0 ≤ d ∧ d ≤ 6 ∧ s + m * 4294967296 + d * 4503599627370496 = x := by
  simp [dom] at hd
  obtain ⟨⟨a1, a2⟩, a3⟩ := hd
  exact ⟨_, _, _, rfl, rfl, rfl, by omega, by omega, by omega, by omega, by omega, by omega, by omega⟩

set_option maxHeartbeats 1000000 in
theorem law (x : Int) (w : World) (h0 : 0 ≤ x) (h1 : x ≤ 18446744073709551615) :
    Calls Trym.prog 7 #[.int .u64 x] w fun e w' => e = .returned (.bool true) ∧ Grown w w' := by
  have hdm := dom_any x w h0
  cases hd : dom x with
  | false =>
    rw [hd] at hdm
    clear hd
    go_enter Trym.func7, Trym.ntmps7
    go_wp2_with fail
    refine hdm.mono ?_
    clear hdm
    rintro e w ⟨rfl, rfl⟩
    go_wp2_with fail
    go_ret
    exact ⟨rfl, Grown.refl _⟩
  | true =>
    rw [hd] at hdm
    obtain ⟨s, m, d, hs, hm, hdd, s0, s1, m0, m1, d0, d1, hx⟩ := repack x h0 hd
    have hst := fun W => stamp_any x s m d W h0 (by omega) hs hm hdd
    have he : (s + m * 4294967296 + d * 4503599627370496 == x) = true := by simp [hx]
    clear hs hm hdd hx hd
    go_enter Trym.func7, Trym.ntmps7
    go_wp2_with fail
    refine hdm.mono ?_
    clear hdm
    rintro e w ⟨rfl, rfl⟩
    go_wp2_with fail
    refine (value_any x w).mono ?_
    rintro e w' ⟨rfl, c, rfl⟩
    go_wp2_with fail
    refine (hst _).mono ?_
    clear hst
    rintro e w' ⟨rfl, c1, c2, rfl⟩
    go_wp2_with fail
    go_ret
    exact ⟨rfl, by repeat (first | exact Grown.refl _ | apply Grown.drew | apply Grown.alloc)⟩
end Go.Proofs.Qxb6604377aMods
