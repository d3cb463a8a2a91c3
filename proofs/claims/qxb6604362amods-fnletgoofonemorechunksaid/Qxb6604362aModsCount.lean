/-
  FnLetGoOfCountsChunks (3): the walk.
-/
import Derived.Test.Qxb6604362aModsRec
namespace Go.Proofs.Qxb6604362aMods
open Go.RowKit

set_option maxHeartbeats 400000 in
theorem new_nil (nm : ByteArray) (f : Nat → Int) (w : World) :
    Calls Trym.prog 7 #[.string nm, .slice none 0 0] w fun e w' => ∃ p g, e = .returned (.pointer (some ⟨p, 0, none⟩)) ∧ IsRec w' p g 0 f ∧ Below w.heap.size w w' := by
  obtain ⟨i0, hi, hz0, hz1, hz2⟩ := info_parts Trym.info33
  go_enter Trym.func7, Trym.ntmps7
  go_wp2_with (first
    | (at_make; refine wpList_make_full _ rfl _ _ 30 rfl w.heap.size 33 i0 (.agg (chunk 0).toArray) 33 Trym.underlying30 hi hz0 hz1 _ _ _ _ 0 rfl rfl rfl rfl (by omega) (by unfold maxLen; omega) (Nat.le_refl _) ?_))
  intro w1 hown hgrow
  have hch : CH w1 w.heap.size 0 f := ⟨_, own_block hown, by simp [size_madeCells], fun i hi => by omega⟩
  have hb1 : Below w.heap.size w w1 := (Below.refl _ _).grown hgrow (Nat.le_refl _) (by simp)
  clear hown hgrow
  go_wp2
  go_loopw [12] (fun i wr => i = .int .i64 0 ∧ CH wr w.heap.size 0 f ∧ Below w.heap.size w wr) (fun i _ => 0 - (intOf i).toNat)
  case atStart => exact ⟨rfl, hch, hb1⟩
  case round =>
    clear hch hb1
    obtain ⟨rfl, hch, hb⟩ := hrel
    go_wp2
    go_ret
    refine ⟨_, _, rfl, ⟨?_, ?_, ?_, hch.below ((Below.refl _ _).alloc (Nat.le_refl _) _)⟩, hb.alloc hb.size _⟩
    · simp
      rfl
    · simp
    · simp

theorem recsize_zero (b g : Nat) (f : Nat → Int) (w : World) (hr : IsRec w b g 0 f) :
    Calls Trym.prog 9 #[.pointer (some ⟨b, 0, none⟩)] w fun e w' => e = .returned (.int .i64 0) ∧ Below w.heap.size w w' :=
  recsize_any b g 0 f w hr (by omega)

/-- The plain sum. -/
def T (f : Nat → Int) : Nat → Int
  | 0 => 0
  | k + 1 => T f k + f k

theorem T_bd (f : Nat → Int) (k : Nat) (h : ∀ j, j < k → 1 ≤ f j ∧ f j ≤ 1099511627776) : (k : Int) ≤ T f k ∧ T f k ≤ k * 1099511627776 := by
  induction k with
  | zero => simp [T]
  | succ k ih =>
    have := ih (fun j hj => h j (by omega))
    have h2 := h k (by omega)
    simp only [T]
    omega

theorem wrap64_id (x : Int) (h1 : -9223372036854775808 ≤ x) (h2 : x ≤ 9223372036854775807) : wrap64 x = x := by unfold wrap64; omega

theorem S_T (f : Nat → Int) (k : Nat) (hk : k ≤ 1048577) (h : ∀ j, j < k → 1 ≤ f j ∧ f j ≤ 1099511627776) : S f k = T f k := by
  induction k with
  | zero => rfl
  | succ k ih =>
    have := ih (by omega) (fun j hj => h j (by omega))
    have hb := T_bd f k (fun j hj => h j (by omega))
    have h2 := h k (by omega)
    simp only [S, T]
    rw [this, wrap64_id _ (by omega) (by omega)]

theorem clone_cells {zs : List Int} {n b : Nat} {w1 : World} (hz : n ≤ zs.length) (hblk : w1.heap[b]? = some (.cells ((zs.take n).map (Value.int .i64)).toArray 3 (0, 0))) :
    ∀ i, i < n → w1.cell? ⟨b, i, none⟩ = some (.int .i64 (zs.getD i 0)) := by
  intro i hi
  have h : i < zs.length := by omega
  rw [cell_of_row w1 b i _ 3 (0, 0) hblk]
  simp [hi, h]

set_option maxHeartbeats 1000000 in
theorem count_some (nm : ByteArray) (x : Addr) (n c : Nat) (zs : List Int) (w : World) (hs : nm.size ≤ maxLen) (hn0 : n ≤ maxLen) (hz : n ≤ zs.length) (hc : ∀ i, i < zs.length → w.cell? (x.add i) = some (.int .i64 (zs.getD i 0))) :
    Calls Trym.prog 3 #[.string nm, .slice (some x) n c] w fun e w' => e = .returned (.bool true) ∧ Below w.heap.size w w' := by
  have hs' : nm.size ≤ 9223372036854775807 := hs
  have hn' : n ≤ 9223372036854775807 := hn0
  by_cases hA : nm.size + n ≤ 1048576
  · have hA' : decide (nm.size + n ≤ 1048576) = true := decide_eq_true hA
    by_cases hB : n ≤ 131072
    · by_cases hC : nm.size + 8 * n ≤ 1048576
      · have hb5 := bytes5 nm (some x) n c w hs hn0
        rw [hA'] at hb5
        go_enter Trym.func3, Trym.ntmps3
        go_wp2_with fail
        refine hb5.mono ?_
        clear hb5
        rintro e w ⟨rfl, rfl⟩
        go_wp2_with fail
        refine (clone_some x n c zs _ (by omega) hz hc).mono ?_
        rintro e w1 ⟨rfl, hb1, hblk⟩
        obtain ⟨f, hf⟩ : ∃ f : Nat → Int, ∀ i, i < n → w1.cell? ⟨w.heap.size, i, none⟩ = some (.int .i64 (f i)) := ⟨fun i => zs.getD i 0, clone_cells hz hblk⟩
        have hw1 : w.heap.size < w1.heap.size := (Array.getElem?_eq_some_iff.1 hblk).1
        clear hblk hc hz hs hn0 hA hA'
        go_wp2_with fail
        refine (new_some nm w.heap.size 0 n n f w1 (by omega) (fun i hi => by rw [Nat.zero_add]; exact hf i hi)).mono ?_
        rintro e w2 ⟨p, g, rfl, hr2, hb2⟩
        go_wp2_with fail
        refine (new_nil nm f w2).mono ?_
        rintro e w3 ⟨p0, g0, rfl, he3, hb3⟩
        have hr3 := hr2.below hb3
        clear hr2
        have h7 := hr3.chunks
        have h70 := he3.chunks
        go_wp2_with fail
        refine (letgo_nil w3).mono ?_
        rintro e w3 ⟨rfl, rfl⟩
        go_wp2_with fail
        refine (letgo_some p n n _ w3 h7).mono ?_
        rintro e w3 ⟨rfl, rfl⟩
        go_wp2_with fail
        refine (letgo_some p0 0 0 _ w3 h70).mono ?_
        rintro e w3 ⟨rfl, rfl⟩
        go_wp2_with fail
        refine (recsize_zero p0 g0 f w3 he3).mono ?_
        rintro e w4 ⟨rfl, hb4⟩
        have hr4 := hr3.below hb4
        have hbb : Below w1.heap.size w1 w4 := (hb2.trans (hb3.mono hb2.size)).trans (hb4.mono (Nat.le_trans hb2.size hb3.size))
        have hb0 : Below w.heap.size w w4 := hb1.trans (hbb.mono (Nat.le_of_lt hw1))
        have hf4 : ∀ i, i < n → w4.cell? ⟨w.heap.size, i, none⟩ = some (.int .i64 (f i)) := fun i hi => by rw [hbb.cell (p := ⟨w.heap.size, i, none⟩) hw1]; exact hf i hi
        clear hr3 he3 h7 h70 hb2 hb3 hb4 hf hb1
        go_wp2_with fail
        go_loop [7, 8] (fun t i => ∃ k : Nat, k ≤ n ∧ i = .int .i64 k ∧ t = .int .i64 (T f k) ∧ ∀ j, j < k → 1 ≤ f j ∧ f j ≤ 1099511627776) (fun _ i => n - (intOf i).toNat)
        case atStart => exact ⟨0, Nat.zero_le _, rfl, rfl, fun j hj => by omega⟩
        case round =>
          obtain ⟨k, hk, rfl, rfl, hall⟩ := hrel
          have hT := T_bd f k hall
          by_cases hlt : k < n
          · have hcx := hf4 k hlt
            by_cases hlo : f k < 1
            · clear hall hf4 hr4
              go_wp2
              go_ret
              exact ⟨rfl, hb0⟩
            · by_cases hhi : 1099511627776 < f k
              · clear hall hf4 hr4
                go_wp2
                go_ret
                exact ⟨rfl, hb0⟩
              · have hall' : Hid (∀ j, j < k + 1 → 1 ≤ f j ∧ f j ≤ 1099511627776) := fun j hj => by
                  by_cases e : j = k
                  · subst e; omega
                  · exact hall j (by omega)
                obtain ⟨hT1, hT2⟩ := hT
                have hT3 : T f k ≤ 144115188075855872 := by omega
                have hT4 : 0 ≤ T f k := by omega
                clear hall hf4 hr4
                go_wp2
                go_round
                case rel => exact ⟨k + 1, by omega, by go_num, rfl, hall'.out⟩
                case measure => simp [intOf]; omega
          · have hkn : k = n := by omega
            subst hkn
            have hST := S_T f k (by omega) hall
            obtain ⟨hT1, hT2⟩ := hT
            have hrs := recsize_any p g k f w4 hr4 (by omega)
            rw [hST] at hrs
            clear hST hf4 hall
            by_cases hk0 : k = 0
            · have e1 : ((k : Int) == 0) = true := by simp [hk0]
              have e2 : (T f k == 0) = true := by simp [hk0, T]
              clear hk0
              go_wp2_with fail
              refine hrs.mono ?_
              rintro e w5 ⟨rfl, hb5⟩
              have h7 := (hr4.below hb5).chunks
              have hb6 : Below w.heap.size w w5 := hb0.trans (hb5.mono hb0.size)
              clear hrs hr4
              go_wp2_with fail
              refine (letgo_some p k k _ w5 h7).mono ?_
              rintro e w5 ⟨rfl, rfl⟩
              go_wp2_with fail
              go_ret
              exact ⟨rfl, hb6⟩
            · have e1 : ((k : Int) == 0) = false := by simp [hk0]
              have e2 : (T f k == 0) = false := by simp; omega
              clear hk0
              go_wp2_with fail
              refine hrs.mono ?_
              rintro e w5 ⟨rfl, hb5⟩
              have h7 := (hr4.below hb5).chunks
              have hb6 : Below w.heap.size w w5 := hb0.trans (hb5.mono hb0.size)
              clear hrs hr4
              go_wp2_with fail
              refine (letgo_some p k k _ w5 h7).mono ?_
              rintro e w5 ⟨rfl, rfl⟩
              go_wp2_with fail
              go_ret
              exact ⟨rfl, hb6⟩
      · have hb5 := bytes5 nm (some x) n c w hs hn0
        rw [hA'] at hb5
        go_enter Trym.func3, Trym.ntmps3
        go_wp2_with fail
        refine hb5.mono ?_
        clear hb5
        rintro e w ⟨rfl, rfl⟩
        go_wp2_with fail
        go_ret
        exact ⟨rfl, Below.refl _ _⟩
    · have hb5 := bytes5 nm (some x) n c w hs hn0
      rw [hA'] at hb5
      go_enter Trym.func3, Trym.ntmps3
      go_wp2_with fail
      refine hb5.mono ?_
      clear hb5
      rintro e w ⟨rfl, rfl⟩
      go_wp2_with fail
      go_ret
      exact ⟨rfl, Below.refl _ _⟩
  · have hA' : decide (nm.size + n ≤ 1048576) = false := decide_eq_false hA
    have hb5 := bytes5 nm (some x) n c w hs hn0
    rw [hA'] at hb5
    go_enter Trym.func3, Trym.ntmps3
    go_wp2_with fail
    refine hb5.mono ?_
    clear hb5
    rintro e w ⟨rfl, rfl⟩
    go_wp2_with fail
    go_ret
    exact ⟨rfl, Below.refl _ _⟩
end Go.Proofs.Qxb6604362aMods
