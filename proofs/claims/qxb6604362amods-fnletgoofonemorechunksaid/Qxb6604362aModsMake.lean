/-
  zzCloneInts (6), ZZnewFileRecord (7), ZZrecordSize (9).
-/
import Derived.Test.Qxb6604362aModsSize
import Derived.Laws.CopyOwn
namespace Go.Proofs.Qxb6604362aMods
open Go.RowKit

theorem recsize_any (b g n : Nat) (f : Nat → Int) (w : World) (hr : IsRec w b g n f) (hn : n ≤ 1048577) :
    Calls Trym.prog 9 #[.pointer (some ⟨b, 0, none⟩)] w fun e w' => e = .returned (.int .i64 (S f n)) ∧ Below w.heap.size w w' := by
  go_enter Trym.func9, Trym.ntmps9
  go_wp2_with (go_at_call 12; refine (size_any b g n f _ hr hn).mono ?_; rintro e w' ⟨rfl, hb⟩)
  go_ret
  exact ⟨rfl, hb⟩

theorem Trym.info3 : (Trym.prog.info? 3).map (fun i => (i.zero, i.size, i.bytes)) = some (some (.int .i64 0), 1, 8) := by kernel_rfl

/-- What a slice of ints that was cloned is: nil, or a block of its own. -/
theorem clone_nil (n c : Nat) (w : World) :
    Calls Trym.prog 6 #[.slice none n c] w fun e w' => e = .returned (.slice none 0 0) ∧ w' = w := by
  have hq := fun wx : World => Lib.run_eql_slice_nil (P := Trym.prog) wx 22 3 none n c 0 0 Trym.underlying22
  go_enter Trym.func6, Trym.ntmps6
  go_wp2
  go_ret
  exact ⟨rfl, rfl⟩

theorem own_block {w : World} {base : Nat} {e : TypeId} {size g n : Nat} {xs : List Value} (h : w.ownsRow base e size (.slice (some ⟨g, 0, none⟩) n n) n xs) : w.heap[g]? = some (.cells xs.toArray e (0, 0)) := by
  obtain ⟨hl, h | ⟨g', cap, cur, hv, _, hg, _, _, hs, ht⟩⟩ := h
  · simp at h
  · simp at hv
    obtain ⟨rfl, rfl⟩ := hv
    rw [hg]
    have : cur.toList = xs := by rw [← ht, List.take_of_length_le (by simp [hs])]
    subst this
    simp

theorem splice_all {α : Type} (L cs : List α) (h : L.length = cs.length) : splice L 0 cs = cs := by simp [splice, ← h]

theorem clone_some (x : Addr) (n c : Nat) (zs : List Int) (w : World) (hn : n ≤ 1048577) (hz : n ≤ zs.length) (hc : ∀ i, i < zs.length → w.cell? (x.add i) = some (.int .i64 (zs.getD i 0))) :
    Calls Trym.prog 6 #[.slice (some x) n c] w fun e w' => e = .returned (.slice (some ⟨w.heap.size, 0, none⟩) n n) ∧ Below w.heap.size w w' ∧
      w'.heap[w.heap.size]? = some (.cells ((zs.take n).map (Value.int .i64)).toArray 3 (0, 0)) := by
  have hq := fun wx : World => Lib.run_eql_slice_nil (P := Trym.prog) wx 22 3 (some x) n c 0 0 Trym.underlying22
  obtain ⟨i0, hi, hz0, hz1, hz2⟩ := info_parts Trym.info3
  go_enter Trym.func6, Trym.ntmps6
  go_wp2_with (first
    | (at_make; refine wpList_make_full _ rfl _ _ 22 rfl w.heap.size 3 i0 (.int .i64 0) 1 Trym.underlying22 hi hz0 hz1 _ _ _ _ n rfl rfl rfl rfl (by rw [hz2]; omega) (by unfold maxLen; omega) (Nat.le_refl _) ?_))
  intro w1 hown hgrow
  have hblk := own_block hown
  have hb1 : Below w.heap.size w w1 := (Below.refl _ _).grown hgrow (Nat.le_refl _) (by simp)
  obtain ⟨L, hL⟩ : ∃ L, L = (madeCells #[Value.int IntKind.i64 0] n).toList := ⟨_, rfl⟩
  rw [← hL] at hblk
  have hLl : L.length = n := by rw [hL, toList_madeCells_one]; simp
  have hlt : ∀ i, i < zs.length → w1.cell? (x.add i) = some (.int .i64 (zs.getD i 0)) := fun i h => by
    rw [hb1.cell (p := x.add i) (block_lt_of_cell (hc i h))]; exact hc i h
  obtain ⟨cs, hcs⟩ : ∃ cs, cs = (zs.take n).map (Value.int .i64) := ⟨_, rfl⟩
  have hcl : cs.length = n := by rw [hcs]; simp; omega
  have hsrc : ∀ j v, cs[j]? = some v → w1.cell? (x.add j) = some v := by
    intro j v hv
    have hj : j < n := by rw [← hcl]; exact (List.getElem?_eq_some_iff.1 hv).1
    rw [hcs, List.getElem?_map, List.getElem?_take_of_lt hj] at hv
    rw [hlt j (by omega), List.getD_eq_getElem?_getD]
    rw [List.getElem?_eq_getElem (by omega)] at hv ⊢
    simpa using hv
  have h1 : ∀ v ∈ cs, v.oneCell' = true := by rw [hcs]; exact ints_oneCell _ _
  have hsp := splice_all L cs (by omega)
  have HCS : Hid (cs = (zs.take n).map (Value.int .i64)) := hcs
  have HSP : Hid (splice L 0 cs = cs) := hsp
  clear hown hgrow hc hlt hL hcs hsp
  go_wp2_with (refine wpList_copy_splice rfl _ _ 22 22 rfl 3 Trym.underlying22 (by kernel_rfl) (some ⟨w.heap.size, 0, none⟩) (some x) n n n c rfl rfl w.heap.size 0 L 3 hblk cs (by rw [hcl]; simp) (fun _ => ⟨rfl, x, rfl, hsrc⟩) (by omega) h1 w.heap.size w hb1 (Nat.le_refl _) ?_)
  intro w2 HG hB2
  go_wp2
  go_ret
  refine ⟨rfl, hB2, ?_⟩
  have := HG.out
  rw [HSP.out, HCS.out] at this
  exact this
end Go.Proofs.Qxb6604362aMods
