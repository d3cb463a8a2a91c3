/-
  THE CALLEES' CONTRACTS: the leaves: zzBytes (5, 10), letGoOf (11, 8).
-/
import Derived.Test.Qxb6604362aModsRows
import Derived.WalkKit
import Derived.WalkSpells
import Derived.Laws.Pointers
import Derived.Below
namespace Go.Proofs.Qxb6604362aMods
open Go.RowKit

theorem bytes5 (nm : ByteArray) (a : Option Addr) (n c : Nat) (w : World) (h1 : nm.size ≤ maxLen) (h2 : n ≤ maxLen) :
    Calls Trym.prog 5 #[.string nm, .slice a n c] w fun e w' => e = .returned (.bool (decide (nm.size + n ≤ 1048576))) ∧ w' = w := by
  unfold maxLen at h1 h2
  by_cases c1 : nm.size ≤ 1048576
  · by_cases c2 : n ≤ 1048576
    · by_cases c3 : nm.size + n ≤ 1048576
      · go_enter Trym.func5, Trym.ntmps5
        go_wp2
        go_ret
        exact ⟨by simp [c3], rfl⟩
      · go_enter Trym.func5, Trym.ntmps5
        go_wp2
        go_ret
        exact ⟨by simp [c3], rfl⟩
    · have c3 : ¬ nm.size + n ≤ 1048576 := by omega
      go_enter Trym.func5, Trym.ntmps5
      go_wp2
      go_ret
      exact ⟨by simp [c3], rfl⟩
  · have c3 : ¬ nm.size + n ≤ 1048576 := by omega
    go_enter Trym.func5, Trym.ntmps5
    go_wp2
    go_ret
    exact ⟨by simp [c3], rfl⟩

theorem bytes10 (nm : ByteArray) (a : Option Addr) (n c : Nat) (x : Int) (w : World) (h1 : nm.size ≤ maxLen) (h2 : n ≤ maxLen) :
    Calls Trym.prog 10 #[.string nm, .slice a n c, .int .i64 x] w fun e w' => e = .returned (.bool (decide (nm.size + n ≤ 1048576))) ∧ w' = w := by
  unfold maxLen at h1 h2
  by_cases c1 : nm.size ≤ 1048576
  · by_cases c2 : n ≤ 1048576
    · by_cases c3 : nm.size + n ≤ 1048576
      · go_enter Trym.func10, Trym.ntmps10
        go_wp2
        go_ret
        exact ⟨by simp [c3], rfl⟩
      · go_enter Trym.func10, Trym.ntmps10
        go_wp2
        go_ret
        exact ⟨by simp [c3], rfl⟩
    · have c3 : ¬ nm.size + n ≤ 1048576 := by omega
      go_enter Trym.func10, Trym.ntmps10
      go_wp2
      go_ret
      exact ⟨by simp [c3], rfl⟩
  · have c3 : ¬ nm.size + n ≤ 1048576 := by omega
    go_enter Trym.func10, Trym.ntmps10
    go_wp2
    go_ret
    exact ⟨by simp [c3], rfl⟩

theorem letgo_nil (w : World) :
    Calls Trym.prog 8 #[.pointer none] w fun e w' => e = .returned (.int .i64 1) ∧ w' = w := by
  go_enter Trym.func8, Trym.ntmps8
  go_wp2
  go_ret
  exact ⟨rfl, rfl⟩

theorem letgo_some (b n c : Nat) (a : Option Addr) (w : World) (h7 : w.cell? ⟨b, 7, none⟩ = some (.slice a n c)) :
    Calls Trym.prog 8 #[.pointer (some ⟨b, 0, none⟩)] w fun e w' => e = .returned (.int .i64 n) ∧ w' = w := by
  go_enter Trym.func8, Trym.ntmps8
  go_wp2
  go_ret
  exact ⟨rfl, rfl⟩
end Go.Proofs.Qxb6604362aMods
