/-
  ZZnewFileRecord (7).
-/
import Derived.Test.Qxb6604362aModsMake
namespace Go.Proofs.Qxb6604362aMods
open Go.RowKit

theorem CH.congr {w : World} {g n : Nat} {f f' : Nat → Int} (h : CH w g n f) (e : ∀ i, i < n → f i = f' i) : CH w g n f' := by
  obtain ⟨cur, hg, hs, hc⟩ := h
  exact ⟨cur, hg, hs, fun i hi j hj => by rw [← e i hi]; exact hc i hi j hj⟩

theorem chunk_lo (x y : Int) (j : Nat) (h : j ≠ 32) : (chunk x)[j]? = (chunk y)[j]? := by
  by_cases h' : j < 32
  · unfold chunk
    rw [List.getElem?_append_left (by simpa using h'), List.getElem?_append_left (by simpa using h')]
  · rw [List.getElem?_eq_none (by rw [chunk_len]; omega), List.getElem?_eq_none (by rw [chunk_len]; omega)]

theorem CH.store {w : World} {g n : Nat} {f : Nat → Int} (h : CH w g n f) (k : Nat) (hk : k < n) (v : Int) :
    CH (w.setCell ⟨g, k * 33 + 32, none⟩ (.int .i64 v)) g n (fun i => if i = k then v else f i) := by
  obtain ⟨cur, hg, hs, hc⟩ := h
  refine ⟨_, heap_setCell_same w g _ cur 33 _ hg, by simp [hs], fun i hi j hj => ?_⟩
  rw [Array.getElem?_setIfInBounds]
  by_cases e : k * 33 + 32 = i * 33 + j
  · have e1 : i = k := by omega
    have e2 : j = 32 := by omega
    subst e1; subst e2
    have : i * 33 + 32 < cur.size := by omega
    simp [this, chunk_32]
  · rw [if_neg e, hc i hi j hj]
    by_cases e1 : i = k
    · have e2 : j ≠ 32 := by omega
      simp only [e1, if_true]
      exact chunk_lo _ _ j e2
    · simp [e1]

theorem CH.made (w : World) (g n : Nat) (hg : w.heap[g]? = some (.cells (madeCells (chunk 0).toArray (n * 33)).toList.toArray 33 (0, 0))) : CH w g n (fun _ => 0) := by
  refine ⟨_, hg, by simp [size_madeCells], fun i hi j hj => ?_⟩
  have h1 : i * 33 + j < n * 33 := by omega
  have h2 : (i * 33 + j) % 33 = j := by omega
  have h3 : j < (chunk 0).length := by rw [chunk_len]; exact hj
  rw [List.getElem?_eq_getElem h3]
  simp [madeCells, h1, chunk_len, h2, hj]

theorem CH.cell {w : World} {g n : Nat} {f : Nat → Int} (h : CH w g n f) (k : Nat) (hk : k < n) : w.cell? ⟨g, k * 33 + 32, none⟩ = some (.int .i64 (f k)) := h.range k hk 32 _ (chunk_32 _)
theorem CH.free {w : World} {g n : Nat} {f : Nat → Int} (h : CH w g n f) (o : Nat) : w.frozen? ⟨g, o, none⟩ = false := by
  obtain ⟨cur, hg, _⟩ := h
  exact frozen_of_row w g o cur 33 hg

theorem Trym.info33 : (Trym.prog.info? 33).map (fun i => (i.zero, i.size, i.bytes)) = some (some (.agg (chunk 0).toArray), 33, 40) := by kernel_rfl

set_option maxHeartbeats 400000 in
theorem new_some (nm : ByteArray) (b off n c : Nat) (f : Nat → Int) (w : World) (hn : n ≤ 1048577) (hc : ∀ i, i < n → w.cell? ⟨b, off + i, none⟩ = some (.int .i64 (f i))) :
    Calls Trym.prog 7 #[.string nm, .slice (some ⟨b, off, none⟩) n c] w fun e w' => ∃ p g, e = .returned (.pointer (some ⟨p, 0, none⟩)) ∧ IsRec w' p g n f ∧ Below w.heap.size w w' := by
  obtain ⟨i0, hi, hz0, hz1, hz2⟩ := info_parts Trym.info33
  go_enter Trym.func7, Trym.ntmps7
  go_wp2_with (first
    | (at_make; refine wpList_make_full _ rfl _ _ 30 rfl w.heap.size 33 i0 (.agg (chunk 0).toArray) 33 Trym.underlying30 hi hz0 hz1 _ _ _ _ n rfl rfl rfl rfl (by rw [hz2]; omega) (by unfold maxLen; omega) (Nat.le_refl _) ?_))
  intro w1 hown hgrow
  have hch : CH w1 w.heap.size n (fun _ => 0) := CH.made _ _ _ (own_block hown)
  have hb1 : Below w.heap.size w w1 := (Below.refl _ _).grown hgrow (Nat.le_refl _) (by simp)
  clear hown hgrow
  go_wp2
  go_loopw [12] (fun i wr => ∃ k : Nat, k ≤ n ∧ i = .int .i64 k ∧ CH wr w.heap.size n (fun i => if i < k then f i else 0) ∧ Below w.heap.size w wr) (fun i _ => n - (intOf i).toNat)
  case atStart => exact ⟨0, Nat.zero_le _, rfl, by simpa using hch, hb1⟩
  case round =>
    clear hch hb1
    obtain ⟨k, hk, rfl, hch, hb⟩ := hrel
    by_cases hlt : k < n
    · have hcx : wr.cell? ⟨b, off + k, none⟩ = some (.int .i64 (f k)) := by rw [hb.cell (p := ⟨b, off + k, none⟩) (block_lt_of_cell (hc k hlt))]; exact hc k hlt
      obtain ⟨v, hcv⟩ : ∃ v, wr.cell? ⟨w.heap.size, k * 33 + 32, none⟩ = some v := ⟨_, hch.cell k hlt⟩
      have hfr := hch.free (k * 33 + 32)
      have hch' := (hch.store k hlt (f k)).congr (f' := fun i => if i < k + 1 then f i else 0) (by
        intro i hi
        by_cases e : i = k
        · simp [e]
        · by_cases e2 : i < k
          · have : i < k + 1 := by omega
            simp [e, e2, this]
          · have : ¬ i < k + 1 := by omega
            simp [e, e2, this])
      have hb' : Below w.heap.size w (wr.setCell ⟨w.heap.size, k * 33 + 32, none⟩ (.int .i64 (f k))) := hb.setCell (Nat.le_refl _) _
      have HC : Hid (CH (wr.setCell ⟨w.heap.size, k * 33 + 32, none⟩ (.int .i64 (f k))) w.heap.size n fun i => if i < k + 1 then f i else 0) := hch'
      clear hch hch' hc
      go_wp2
      go_roundw
      case rel => exact ⟨k + 1, by omega, by go_num, HC.out, hb'⟩
      case measure => simp [intOf]; omega
    · have hkn : k = n := by omega
      subst hkn
      have hch2 := hch.congr (f' := f) (by intro i hi; simp [hi])
      clear hch
      go_wp2
      go_ret
      refine ⟨_, _, rfl, ⟨?_, ?_, ?_, hch2.below ((Below.refl _ _).alloc (Nat.le_refl _) _)⟩, hb.alloc hb.size _⟩
      · simp
        rfl
      · simp
      · simp
end Go.Proofs.Qxb6604362aMods
