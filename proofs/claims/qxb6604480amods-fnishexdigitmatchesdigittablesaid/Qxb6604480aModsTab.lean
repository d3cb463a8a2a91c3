/-
  FnIsHexDigitMatchesDigitTable (3): the walk.
-/
import Derived.Test.Qxb6604480aModsBase
namespace Go.Proofs.Qxb6604480aMods
open Go.RowKit

/-- The table's digits. -/
def digs : List Int := [48, 49, 50, 51, 52, 53, 54, 55, 56, 57, 97, 98, 99, 100, 101, 102, 65, 66, 67, 68, 69, 70]
/-- Is c among the first k of them? -/
def tabB (c : Int) (k : Nat) : Bool := (digs.take k).any fun d => d == c
theorem tab_succ (c : Int) (k : Nat) (h : k < 22) : tabB c (k + 1) = (tabB c k || digs.getD k 0 == c) := by
  have h' : k < digs.length := h
  unfold tabB
  rw [List.take_succ_eq_append_getElem h', List.any_append]
  simp [h']
theorem digs_at : ∀ k : Fin 22, ((((⟨#[48, 49, 50, 51, 52, 53, 54, 55, 56, 57, 97, 98, 99, 100, 101, 102, 65, 66, 67, 68, 69, 70]⟩ : ByteArray)[k.1]'k.2).toNat : Nat) : Int) = digs.getD k.1 0 := by decide
theorem tab_hex (c : Int) : tabB c 22 = hexB c := by
  unfold tabB hexB digs
  rw [Bool.eq_iff_iff]
  simp
  omega

theorem tab (c : Int) (w : World) :
    Calls Trym.prog 3 #[.int .u8 c] w fun e w' => e = .returned (.bool true) ∧ Grown w w' := by
  go_enter Trym.func3, Trym.ntmps3
  go_wp2
  go_loop [3, 4] (fun t i => ∃ k : Nat, k ≤ 22 ∧ i = .int .i64 k ∧ t = .bool (tabB c k)) (fun _ i => 22 - (intOf i).toNat)
  case atStart => exact ⟨0, Nat.zero_le _, rfl, rfl⟩
  case round =>
    obtain ⟨k, hk, rfl, rfl⟩ := hrel
    by_cases hlt : k < 22
    · have H1 : Hid (tabB c (k + 1) = (tabB c k || digs.getD k 0 == c)) := tab_succ c k hlt
      have H2 : Hid (((((⟨#[48, 49, 50, 51, 52, 53, 54, 55, 56, 57, 97, 98, 99, 100, 101, 102, 65, 66, 67, 68, 69, 70]⟩ : ByteArray)[k]'hlt).toNat : Nat) : Int) = digs.getD k 0) := digs_at ⟨k, hlt⟩
      go_wp2
      · have ht := ‹_ = true›
        go_round
        case rel => exact ⟨k + 1, by omega, by go_num, by rw [H1.out, ← H2.out]; simp only [ht, Bool.or_true]⟩
        case measure => simp [intOf]; omega
      · have ht := ‹_ = false›
        go_round
        case rel => exact ⟨k + 1, by omega, by go_num, by rw [H1.out, ← H2.out]; simp only [ht, Bool.or_false]⟩
        case measure => simp [intOf]; omega
    · have hkn : k = 22 := by omega
      subst hkn
      rw [tab_hex]
      go_wp2_with fail
      refine (hex_any c w).mono ?_
      rintro e w ⟨rfl, rfl⟩
      go_wp2_with fail
      go_ret
      exact ⟨rfl, Grown.refl _⟩
end Go.Proofs.Qxb6604480aMods
