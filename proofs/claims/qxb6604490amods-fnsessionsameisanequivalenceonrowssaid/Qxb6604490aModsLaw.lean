/-
  FnSessionSameIsAnEquivalenceOnRows (3): the walk, over whatever cells.
-/
import Derived.Test.Qxb6604490aModsBase
import Derived.Deep.RegionHeld3
import Derived.Deep.MidRow
import Derived.Deep.Cut
namespace Go.Proofs.Qxb6604490aMods
open Go.RowKit

/-- Three rows in three blocks. -/
structure Three (w : World) (g : Nat) (A B C : List Value) : Prop where
  a : w.heap[g]? = some (.cells A.toArray 23 (0, 0))
  b : w.heap[g + 1]? = some (.cells B.toArray 23 (0, 0))
  c : w.heap[g + 1 + 1]? = some (.cells C.toArray 23 (0, 0))

theorem Three.below {w w' : World} {g : Nat} {A B C : List Value} (h : Three w g A B C) (hb : Below w.heap.size w w') : Three w' g A B C := by
  have ha := (Array.getElem?_eq_some_iff.1 h.a).1
  have hb' := (Array.getElem?_eq_some_iff.1 h.b).1
  have hc := (Array.getElem?_eq_some_iff.1 h.c).1
  exact ⟨by rw [hb.block _ ha]; exact h.a, by rw [hb.block _ hb']; exact h.b, by rw [hb.block _ hc]; exact h.c⟩

theorem three_made (w : World) (A B C : List Value) : Three (((w.alloc (.cells A.toArray 23)).alloc (.cells B.toArray 23)).alloc (.cells C.toArray 23)) w.heap.size A B C := by
  refine ⟨?_, ?_, ?_⟩
  · rw [heap_alloc_old _ _ (h := by simp; omega), heap_alloc_old _ _ (h := by simp)]; exact heap_alloc_new w _
  · rw [heap_alloc_old _ _ (h := by simp)]; have := heap_alloc_new (w.alloc (.cells A.toArray 23)) (.cells B.toArray 23); simpa using this
  · have := heap_alloc_new ((w.alloc (.cells A.toArray 23)).alloc (.cells B.toArray 23)) (.cells C.toArray 23); simpa using this

theorem rangeAt_of {w : World} {g : Nat} {A : List Value} {t : TypeId} (h : w.heap[g]? = some (.cells A.toArray t (0, 0))) : w.rangeAt g 0 A := by
  intro j v hv
  rw [cell_of_row w g _ _ t (0, 0) h, Nat.zero_add]
  simpa using hv

/-- The zero session's cells. -/
abbrev zero32 : Array Value := #[.string ⟨#[]⟩, .string ⟨#[]⟩, .string ⟨#[]⟩, .string ⟨#[]⟩, .string ⟨#[]⟩, .string ⟨#[]⟩, .int .i64 0, .string ⟨#[]⟩, .string ⟨#[]⟩, .string ⟨#[]⟩, .int .i64 0, .int .i64 0, .int .u64 0, .int .i64 0, .pointer none]
abbrev zero23 : Array Value := #[.string ⟨#[]⟩, .string ⟨#[]⟩, .string ⟨#[]⟩, .string ⟨#[]⟩, .string ⟨#[]⟩, .string ⟨#[]⟩, .int .i64 0, .string ⟨#[]⟩, .string ⟨#[]⟩, .string ⟨#[]⟩, .int .i64 0, .int .i64 0]
theorem wpList_store_new {P : Program} {ops : Array Oper} {rest : List Oper} {op : Oper} {a : Act} {w : World} {Q : Exit → Act → World → Prop} (hgd : op.guard = none) (ty : TypeId) (x y : Operand) (ho : op.op = .store ty x y)
    (c c' : Array Value) (hx : a.eval x = .pointer (some ⟨w.heap.size, 0, none⟩)) (hy : a.eval y = .agg c')
    (hi : (P.info? ty).map (·.size) = some c'.size) (hs : c.size = c'.size) (h1 : c'.all (·.oneCell') = true)
    (h : wpList P ops Q rest (a.put op.dst undef) (w.alloc (.cells c' ty))) : wpList P ops Q (op :: rest) a (w.alloc (.cells c ty)) := by
  refine wpList_plain hgd fun K hK => ?_
  unfold Oper.wp execOp
  simp only [ho, hx, hy, Sem.run_bind, run_storeAt_new w ty c c' hi hs h1, Sem.run_pure, Result.andThen_ok]
  exact hK _ _ h

theorem blk {w w' : World} {k : Nat} {o : Obj} (h : w.heap[k]? = some o) (hb : Below w.heap.size w w') : w'.heap[k]? = some o := by
  rw [hb.block k (Array.getElem?_eq_some_iff.1 h).1]; exact h

theorem wpList_load_on {P : Program} {ops : Array Oper} {rest : List Oper} {o : Oper} {a : Act} {w : World} {Q : Exit → Act → World → Prop} (hgd : Region.wanted o (yielded ops a.tmps) = true) (ty : TypeId) (x : Operand) (ho : o.op = .load ty x)
    (g : Nat) (hx : a.eval x = .pointer (some ⟨g, 0, none⟩)) (t : TypeId) (cs : Array Value) (fr : Nat × Nat) (d : TypeDesc) (hg : w.heap[g]? = some (.cells cs t fr))
    (hu : P.underlying ty = some d) (hd : (match d with | .struct _ | .array _ _ => true | _ => false) = true) (hi : (P.info? ty).map (·.size) = some cs.size)
    (h : wpList P ops Q rest (a.put o.dst (.agg cs)) w) : wpList P ops Q (o :: rest) a w :=
  wpList_step fun K hK => by
    rw [if_pos hgd]
    exact wp_load_row ty x ho g hx t cs fr d hg hu hd hi (hK _ _ h)

theorem same_is (D E : Array Value) (p q : Int) (b : Bool) (hD : IsSess D p) (hE : IsSess E q) (h : (p == q) = b) (w : World) :
    Calls Trym.prog 7 #[.agg D, .agg E] w fun e w' => e = .returned (.bool b) ∧ Below w.heap.size w w' := by
  rw [← h]; exact same_any D E p q hD hE w

/-- Four sessions in four blocks. -/
structure Four (w : World) (pa pb pc pd : Nat) (Da Db Dc Dd : Array Value) : Prop where
  a : w.heap[pa]? = some (.cells Da 32 (0, 0))
  b : w.heap[pb]? = some (.cells Db 32 (0, 0))
  c : w.heap[pc]? = some (.cells Dc 32 (0, 0))
  d : w.heap[pd]? = some (.cells Dd 32 (0, 0))

theorem Four.below {w w' : World} {pa pb pc pd : Nat} {Da Db Dc Dd : Array Value} (h : Four w pa pb pc pd Da Db Dc Dd) (hb : Below w.heap.size w w') : Four w' pa pb pc pd Da Db Dc Dd :=
  ⟨blk h.a hb, blk h.b hb, blk h.c hb, blk h.d hb⟩

def SumOK (L : List Value) : Prop := ∀ w, Calls Trym.prog 5 #[.agg L.toArray] w fun x w' => ∃ z, x = .returned (.int .i64 z) ∧ w' = w.alloc (.cells L.toArray 23)
def OfOK (L D : List Value) : Prop := ∀ w, Calls Trym.prog 6 #[.agg L.toArray] w fun x w' => x = .returned (.agg D.toArray) ∧ Below w.heap.size w w'
def BytesOK (A B C : List Value) : Prop := ∀ w, Calls Trym.prog 4 #[.agg A.toArray, .agg B.toArray, .agg C.toArray] w fun x w' => ∃ b, x = .returned (.bool b) ∧ Below w.heap.size w w'

set_option maxRecDepth 100000 in
set_option maxHeartbeats 4000000 in
theorem core (A B C C' Da Db Dc Dd : List Value) (p q r : Int) (xab xbc xac : Bool) (w : World)
    (hby : BytesOK A B C) (hsum : ∀ L, (L = A ∨ L = B ∨ L = C) → SumOK L) (hoa : OfOK A Da) (hob : OfOK B Db) (hoc : OfOK C Dc) (hod : OfOK C' Dd)
    (sA : A.length = 12) (sB : B.length = 12) (sC : C.length = 12) (oC : ∀ v ∈ C, v.oneCell' = true)
    (qA : A[11]? = some (.int .i64 p)) (_qC : C[11]? = some (.int .i64 r)) (eC : C.set 11 (.int .i64 p) = C')
    (hab : (p == q) = xab) (hba : (q == p) = xab) (hbc : (q == r) = xbc) (hcb : (r == q) = xbc) (hac : (p == r) = xac) (hca : (r == p) = xac) (t1 : xab = true → xbc = true → xac = true) (t2 : xab = true → xac = true → xbc = true) (t3 : xbc = true → xac = true → xab = true)
    (hDa : IsSess Da.toArray p) (hDb : IsSess Db.toArray q) (hDc : IsSess Dc.toArray r) (hDd : IsSess Dd.toArray p) :
    Calls Trym.prog 3 #[.agg A.toArray, .agg B.toArray, .agg C.toArray] w fun x w' => x = .returned (.bool true) ∧ Below w.heap.size w w' := by
  have Hab : Hid ((p == q) = xab) := hab
  have Hba : Hid ((q == p) = xab) := hba
  have Hbc : Hid ((q == r) = xbc) := hbc
  have Hcb : Hid ((r == q) = xbc) := hcb
  have Hac : Hid ((p == r) = xac) := hac
  have Hca : Hid ((r == p) = xac) := hca
  clear hab hba hbc hcb hac hca
  have hu := Trym.underlying23
  have iE : (Trym.prog.info? 23).map (·.size) = some C'.toArray.size := by rw [← eC, List.size_toArray, List.length_set, sC]; kernel_rfl
  have iA : (Trym.prog.info? 23).map (·.size) = some A.length := by rw [sA]; kernel_rfl
  have iB : (Trym.prog.info? 23).map (·.size) = some B.length := by rw [sB]; kernel_rfl
  have iC : (Trym.prog.info? 23).map (·.size) = some C.length := by rw [sC]; kernel_rfl
  have iA' : (Trym.prog.info? 23).map (·.size) = some A.toArray.size := by rw [List.size_toArray]; exact iA
  have iB' : (Trym.prog.info? 23).map (·.size) = some B.toArray.size := by rw [List.size_toArray]; exact iB
  have iC' : (Trym.prog.info? 23).map (·.size) = some C.toArray.size := by rw [List.size_toArray]; exact iC
  have T0 := three_made w A B C
  have iDa : (Trym.prog.info? 32).map (·.size) = some Da.toArray.size := by rw [hDa.size]; kernel_rfl
  have iDb : (Trym.prog.info? 32).map (·.size) = some Db.toArray.size := by rw [hDb.size]; kernel_rfl
  have iDc : (Trym.prog.info? 32).map (·.size) = some Dc.toArray.size := by rw [hDc.size]; kernel_rfl
  have iDd : (Trym.prog.info? 32).map (·.size) = some Dd.toArray.size := by rw [hDd.size]; kernel_rfl
  have sC' : zero23.size = C.toArray.size := by rw [show C.toArray.size = 12 from by rw [List.size_toArray, sC]]; rfl
  have oC' := all_oneCell_toArray oC
  have sDa : zero32.size = Da.toArray.size := by rw [hDa.size]; rfl
  have sDb : zero32.size = Db.toArray.size := by rw [hDb.size]; rfl
  have sDc : zero32.size = Dc.toArray.size := by rw [hDc.size]; rfl
  have sDd : zero32.size = Dd.toArray.size := by rw [hDd.size]; rfl
  go_enter Trym.func3, Trym.ntmps3
  go_wp2_with (first
    | (refine wpList_load_row rfl 23 _ (by rfl) w.heap.size (by rfl) 23 A.toArray (0, 0) _ T0.a Trym.underlying23 rfl iA' ?_)
    | (refine wpList_load_row rfl 23 _ (by rfl) (w.heap.size + 1) (by rfl) 23 B.toArray (0, 0) _ T0.b Trym.underlying23 rfl iB' ?_)
    | (refine wpList_load_row rfl 23 _ (by rfl) (w.heap.size + 1 + 1) (by rfl) 23 C.toArray (0, 0) _ T0.c Trym.underlying23 rfl iC' ?_))
  refine (hby _).mono ?_
  clear hby
  rintro e w1 ⟨b, rfl, hb1⟩
  have T1 := T0.below hb1
  have hB1 : Below w.heap.size w w1 := ((((Below.refl _ _).alloc (Nat.le_refl _) _).alloc (by simp) _).alloc (by simp; omega) _).trans (hb1.mono (by simp; omega))
  obtain ⟨g, hg⟩ : ∃ g, g = w.heap.size := ⟨_, rfl⟩
  rw [← hg] at T1
  have HG : Hid (g = w.heap.size) := hg
  rw [← hg]
  clear hg T0 hb1
  cases b with
  | false =>
    go_wp2_with fail
    go_ret
    exact ⟨rfl, hB1⟩
  | true =>
    have rA := rangeAt_of T1.a
    have rB := rangeAt_of T1.b
    have rC := rangeAt_of T1.c
    go_wp2_with fail
    refine wp_region_held_drew (S := fun w' => w'.rangeAt g 0 A ∧ w'.rangeAt (g + 1) 0 B ∧ w'.rangeAt (g + 1 + 1) 0 C) (by kernel_rfl) ⟨by simpa using rA, by simpa using rB, by simpa using rC⟩ (fun hHeld0 => ?_)
    refine wpAnyH_take (i := 0) rfl (by kernel_rfl) (by kernel_rfl) (by kernel_rfl) (fun _ _ _ h => h) (yieldsIf_load_mid (by rfl) 23 _ rfl g 0 rfl A _ (fun w h => h.1) hu rfl iA) hHeld0 ?_
    refine wpAnyH_take (i := 2) rfl (by kernel_rfl) (by kernel_rfl) (by kernel_rfl) (fun _ _ _ h => h) (yieldsIf_load_mid (by rfl) 23 _ rfl (g + 1) 0 rfl B _ (fun w h => h.2.1) hu rfl iB) hHeld0 ?_
    refine wpAnyH_take (i := 5) rfl (by kernel_rfl) (by kernel_rfl) (by kernel_rfl) (fun _ _ _ h => h) (yieldsIf_load_mid (by rfl) 23 _ rfl (g + 1 + 1) 0 rfl C _ (fun w h => h.2.2) hu rfl iC) hHeld0 ?_
    refine wpAnyH_ready (rs := [1]) (by kernel_rfl) (by simp) ?_
    refine AllReadyH.cons rfl (fun K hK => ?_) AllReadyH.nil
    go_simp
    refine (hsum A (.inl rfl) _).mono ?_
    rintro e w' ⟨za, rfl, rfl⟩
    go_wp2_with fail
    refine hK.out _ _ ⟨World.rangeAt_alloc hHeld0.1 _, World.rangeAt_alloc hHeld0.2.1 _, World.rangeAt_alloc hHeld0.2.2 _⟩ (fun hHeld1 => ?_)
    clear hK K hHeld0
    refine wpAnyH_ready (rs := [3]) (by kernel_rfl) (by simp) ?_
    refine AllReadyH.cons rfl (fun K hK => ?_) AllReadyH.nil
    go_simp
    refine (hsum B (.inr (.inl rfl)) _).mono ?_
    rintro e w' ⟨zb, rfl, rfl⟩
    go_wp2_with fail
    refine hK.out _ _ ⟨World.rangeAt_alloc hHeld1.1 _, World.rangeAt_alloc hHeld1.2.1 _, World.rangeAt_alloc hHeld1.2.2 _⟩ (fun hHeld2 => ?_)
    clear hK K hHeld1
    obtain ⟨zab, hzab⟩ : ∃ z, IntKind.i64.wrap (za + zb) = z := ⟨_, rfl⟩
    refine wpAnyH_take (i := 4) (v := .int .i64 zab) rfl (by kernel_rfl) (by kernel_rfl) (by kernel_rfl) (fun _ _ _ h => h) (Or.inl ⟨by rfl, ?_⟩) hHeld2 ?_
    · intro w hSw
      go_simp
    refine wpAnyH_ready (rs := [6]) (by kernel_rfl) (by simp) ?_
    refine AllReadyH.cons rfl (fun K hK => ?_) AllReadyH.nil
    go_simp
    refine (hsum C (.inr (.inr rfl)) _).mono ?_
    rintro e w' ⟨zc, rfl, rfl⟩
    go_wp2_with fail
    refine hK.out _ _ ⟨World.rangeAt_alloc hHeld2.1 _, World.rangeAt_alloc hHeld2.2.1 _, World.rangeAt_alloc hHeld2.2.2 _⟩ (fun hHeld3 => ?_)
    clear hK K hHeld2
    clear hzab
    obtain ⟨zs, hzs⟩ : ∃ z, IntKind.i64.wrap (zab + zc) = z := ⟨_, rfl⟩
    refine wpAnyH_take (i := 7) (v := .int .i64 zs) rfl (by kernel_rfl) (by kernel_rfl) (by kernel_rfl) (fun _ _ _ h => h) (Or.inl ⟨by rfl, ?_⟩) hHeld3 ?_
    · intro w hSw
      go_simp
    clear hzs
    refine wpAnyH_take (i := 8) (v := .bool (decide (1048576 < zs))) rfl (by kernel_rfl) (by kernel_rfl) (by kernel_rfl) (fun _ _ _ h => h) (Or.inl ⟨by rfl, ?_⟩) hHeld3 ?_
    · intro w hSw
      go_simp
    refine wpAnyH_done (by kernel_rfl) ?_ _
    clear hHeld3
    have hb2 : Below w1.heap.size w1 (((w1.alloc (Obj.cells A.toArray 23)).alloc (Obj.cells B.toArray 23)).alloc (Obj.cells C.toArray 23)).drew :=
      ((((Below.refl _ _).alloc (Nat.le_refl _) _).alloc (by simp) _).alloc (by simp; omega) _).drew
    have T2 := T1.below hb2
    have hB2 := hB1.trans (hb2.mono hB1.size)
    clear rA rB rC T1 hB1 hb2 hsum
    generalize (((w1.alloc (Obj.cells A.toArray 23)).alloc (Obj.cells B.toArray 23)).alloc (Obj.cells C.toArray 23)).drew = w2 at *
    clear hu
    by_cases hbig : 1048576 < zs
    · go_wp2_with fail
      go_ret
      exact ⟨rfl, hB2⟩
    · go_wp2_with (refine wpList_load_row rfl 23 _ (by rfl) g (by rfl) 23 A.toArray (0, 0) _ T2.a Trym.underlying23 rfl iA' ?_)
      refine (hoa w2).mono ?_
      clear hoa
      rintro e w3 ⟨rfl, hb3⟩
      have hb3' : Below w2.heap.size w2 (w3.alloc (.cells Da.toArray 32)) := hb3.alloc hb3.size _
      have T3 := T2.below hb3'
      have hB3 := hB2.trans (hb3'.mono hB2.size)
      have ma := heap_alloc_new w3 (.cells Da.toArray 32)
      clear hb3 hb3' T2 hB2
      go_wp2_with (first
        | (refine wpList_store_new rfl 32 _ _ (by rfl) _ Da.toArray (by rfl) (by rfl) iDa sDa hDa.one ?_)
        | (refine wpList_load_row rfl 23 _ (by rfl) (g + 1) (by rfl) 23 B.toArray (0, 0) _ T3.b Trym.underlying23 rfl iB' ?_))
      generalize w3.alloc (.cells Da.toArray 32) = w4 at *
      generalize w3.heap.size = pa at *
      clear w3
      refine (hob w4).mono ?_
      clear hob
      rintro e w5 ⟨rfl, hb5⟩
      have hb5' : Below w4.heap.size w4 (w5.alloc (.cells Db.toArray 32)) := hb5.alloc hb5.size _
      have T5 := T3.below hb5'
      have hB5 := hB3.trans (hb5'.mono hB3.size)
      have ma5 := blk ma hb5'
      have mb := heap_alloc_new w5 (.cells Db.toArray 32)
      clear hb5 hb5' T3 hB3 ma
      go_wp2_with (first
        | (refine wpList_store_new rfl 32 _ _ (by rfl) _ Db.toArray (by rfl) (by rfl) iDb sDb hDb.one ?_)
        | (refine wpList_load_row rfl 23 _ (by rfl) (g + 1 + 1) (by rfl) 23 C.toArray (0, 0) _ T5.c Trym.underlying23 rfl iC' ?_))
      generalize w5.alloc (.cells Db.toArray 32) = w6 at *
      generalize w5.heap.size = pb at *
      clear w5
      refine (hoc w6).mono ?_
      clear hoc
      rintro e w7 ⟨rfl, hb7⟩
      have hb7' : Below w6.heap.size w6 (w7.alloc (.cells Dc.toArray 32)) := hb7.alloc hb7.size _
      have T7 := T5.below hb7'
      have hB7 := hB5.trans (hb7'.mono hB5.size)
      have ma7 := blk ma5 hb7'
      have mb7 := blk mb hb7'
      have mc := heap_alloc_new w7 (.cells Dc.toArray 32)
      clear hb7 hb7' T5 hB5 ma5 mb
      go_upto_region 8 with (refine wpList_store_new rfl 32 _ _ (by rfl) _ Dc.toArray (by rfl) (by rfl) iDc sDc hDc.one ?_)
      generalize w7.alloc (.cells Dc.toArray 32) = w8 at *
      generalize w7.heap.size = pc at *
      clear w7
      go_upto_region 9 with (first
        | (refine wpList_load_row rfl 23 _ (by rfl) (g + 1 + 1) (by rfl) 23 C.toArray (0, 0) _ T7.c Trym.underlying23 rfl iC' ?_)
        | (refine wpList_store_new rfl 23 _ _ (by rfl) _ C.toArray (by rfl) (by rfl) iC' sC' oC' ?_))
      have cA : w8.cell? ⟨g, 11, none⟩ = some (.int .i64 p) := by rw [cell_of_row w8 g 11 _ 23 (0, 0) T7.a]; simpa using qA
      have hg8 : g < w8.heap.size := (Array.getElem?_eq_some_iff.1 T7.a).1
      go_upto_region 10 with fail
      have hb9 : Below w8.heap.size w8 (w8.alloc (.cells C'.toArray 23)) := (Below.refl _ _).alloc (Nat.le_refl _) _
      have hB9 := hB7.trans (hb9.mono hB7.size)
      have ma9 := blk ma7 hb9
      have mb9 := blk mb7 hb9
      have mc9 := blk mc hb9
      have me := heap_alloc_new w8 (.cells C'.toArray 23)
      clear hb9 hB7 ma7 mb7 mc T7 cA hg8
      generalize w8.alloc (.cells C'.toArray 23) = w9 at *
      generalize w8.heap.size = pe at *
      clear w8
      go_wp2_with (refine wpList_load_row rfl 23 _ (by rfl) pe (by rfl) 23 C'.toArray (0, 0) _ me Trym.underlying23 rfl iE ?_)
      refine (hod w9).mono ?_
      clear hod
      rintro e w10 ⟨rfl, hb10⟩
      have hb10' : Below w9.heap.size w9 (w10.alloc (.cells Dd.toArray 32)) := hb10.alloc hb10.size _
      have hB10 := hB9.trans (hb10'.mono hB9.size)
      have F : Four (w10.alloc (.cells Dd.toArray 32)) pa pb pc w10.heap.size Da.toArray Db.toArray Dc.toArray Dd.toArray := ⟨blk ma9 hb10', blk mb9 hb10', blk mc9 hb10', heap_alloc_new w10 _⟩
      clear hb10 hb10' hB9 ma9 mb9 mc9 me
      go_upto_region 11 with (refine wpList_store_new rfl 32 _ _ (by rfl) _ Dd.toArray (by rfl) (by rfl) iDd sDd hDd.one ?_)
      generalize w10.alloc (.cells Dd.toArray 32) = W0 at *
      generalize w10.heap.size = pd at *
      clear w10 hbig
      have hB0 := hB10
      have F0 := F
      clear hB10 F
      go_wp2_with (first | (refine wpList_load_on (by rfl) 32 _ (by rfl) pa (by rfl) 32 Da.toArray (0, 0) _ F0.a Trym.underlying32 rfl iDa ?_))
      refine (same_is Da.toArray Da.toArray p p true hDa hDa (beq_self_eq_true _) W0).mono ?_
      rintro e W1 ⟨rfl, hb1⟩
      have F1 := F0.below hb1
      have hB1 := hB0.trans (hb1.mono hB0.size)
      clear F0 hB0 hb1
      go_wp2_with (first | (refine wpList_load_on (by rfl) 32 _ (by rfl) pb (by rfl) 32 Db.toArray (0, 0) _ F1.b Trym.underlying32 rfl iDb ?_))
      refine (same_is Db.toArray Db.toArray q q true hDb hDb (beq_self_eq_true _) W1).mono ?_
      rintro e W2 ⟨rfl, hb2⟩
      have F2 := F1.below hb2
      have hB2 := hB1.trans (hb2.mono hB1.size)
      clear F1 hB1 hb2
      go_wp2_with (first | (refine wpList_load_on (by rfl) 32 _ (by rfl) pc (by rfl) 32 Dc.toArray (0, 0) _ F2.c Trym.underlying32 rfl iDc ?_))
      refine (same_is Dc.toArray Dc.toArray r r true hDc hDc (beq_self_eq_true _) W2).mono ?_
      rintro e W3 ⟨rfl, hb3⟩
      have F3 := F2.below hb3
      have hB3 := hB2.trans (hb3.mono hB2.size)
      clear F2 hB2 hb3
      go_wp2_with (first | (refine wpList_load_on (by rfl) 32 _ (by rfl) pd (by rfl) 32 Dd.toArray (0, 0) _ F3.d Trym.underlying32 rfl iDd ?_))
      refine (same_is Dd.toArray Dd.toArray p p true hDd hDd (beq_self_eq_true _) W3).mono ?_
      rintro e W4 ⟨rfl, hb4⟩
      have F4 := F3.below hb4
      have hB4 := hB3.trans (hb4.mono hB3.size)
      clear F3 hB3 hb4
      go_wp2_with (first | (refine wpList_load_on (by rfl) 32 _ (by rfl) pa (by rfl) 32 Da.toArray (0, 0) _ F4.a Trym.underlying32 rfl iDa ?_) | (refine wpList_load_on (by rfl) 32 _ (by rfl) pb (by rfl) 32 Db.toArray (0, 0) _ F4.b Trym.underlying32 rfl iDb ?_))
      refine (same_is Da.toArray Db.toArray p q xab hDa hDb Hab.out W4).mono ?_
      rintro e W5 ⟨rfl, hb5⟩
      have F5 := F4.below hb5
      have hB5 := hB4.trans (hb5.mono hB4.size)
      clear F4 hB4 hb5
      go_wp2_with (first | (refine wpList_load_on (by rfl) 32 _ (by rfl) pb (by rfl) 32 Db.toArray (0, 0) _ F5.b Trym.underlying32 rfl iDb ?_) | (refine wpList_load_on (by rfl) 32 _ (by rfl) pa (by rfl) 32 Da.toArray (0, 0) _ F5.a Trym.underlying32 rfl iDa ?_))
      refine (same_is Db.toArray Da.toArray q p xab hDb hDa Hba.out W5).mono ?_
      rintro e W6 ⟨rfl, hb6⟩
      have F6 := F5.below hb6
      have hB6 := hB5.trans (hb6.mono hB5.size)
      clear F5 hB5 hb6
      go_wp2_with (first | (refine wpList_load_on (by rfl) 32 _ (by rfl) pb (by rfl) 32 Db.toArray (0, 0) _ F6.b Trym.underlying32 rfl iDb ?_) | (refine wpList_load_on (by rfl) 32 _ (by rfl) pc (by rfl) 32 Dc.toArray (0, 0) _ F6.c Trym.underlying32 rfl iDc ?_))
      refine (same_is Db.toArray Dc.toArray q r xbc hDb hDc Hbc.out W6).mono ?_
      rintro e W7 ⟨rfl, hb7⟩
      have F7 := F6.below hb7
      have hB7 := hB6.trans (hb7.mono hB6.size)
      clear F6 hB6 hb7
      go_wp2_with (first | (refine wpList_load_on (by rfl) 32 _ (by rfl) pc (by rfl) 32 Dc.toArray (0, 0) _ F7.c Trym.underlying32 rfl iDc ?_) | (refine wpList_load_on (by rfl) 32 _ (by rfl) pb (by rfl) 32 Db.toArray (0, 0) _ F7.b Trym.underlying32 rfl iDb ?_))
      refine (same_is Dc.toArray Db.toArray r q xbc hDc hDb Hcb.out W7).mono ?_
      rintro e W8 ⟨rfl, hb8⟩
      have F8 := F7.below hb8
      have hB8 := hB7.trans (hb8.mono hB7.size)
      clear F7 hB7 hb8
      go_wp2_with (first | (refine wpList_load_on (by rfl) 32 _ (by rfl) pa (by rfl) 32 Da.toArray (0, 0) _ F8.a Trym.underlying32 rfl iDa ?_) | (refine wpList_load_on (by rfl) 32 _ (by rfl) pc (by rfl) 32 Dc.toArray (0, 0) _ F8.c Trym.underlying32 rfl iDc ?_))
      refine (same_is Da.toArray Dc.toArray p r xac hDa hDc Hac.out W8).mono ?_
      rintro e W9 ⟨rfl, hb9⟩
      have F9 := F8.below hb9
      have hB9 := hB8.trans (hb9.mono hB8.size)
      clear F8 hB8 hb9
      go_wp2_with (first | (refine wpList_load_on (by rfl) 32 _ (by rfl) pc (by rfl) 32 Dc.toArray (0, 0) _ F9.c Trym.underlying32 rfl iDc ?_) | (refine wpList_load_on (by rfl) 32 _ (by rfl) pa (by rfl) 32 Da.toArray (0, 0) _ F9.a Trym.underlying32 rfl iDa ?_))
      refine (same_is Dc.toArray Da.toArray r p xac hDc hDa Hca.out W9).mono ?_
      rintro e W10 ⟨rfl, hb10⟩
      have F10 := F9.below hb10
      have hB10 := hB9.trans (hb10.mono hB9.size)
      clear F9 hB9 hb10
      go_upto_region 19 with fail
      cases xab <;> cases xbc <;> cases xac
      case true.true.false => exact absurd (t1 rfl rfl) (by decide)
      case true.false.true => exact absurd (t2 rfl rfl) (by decide)
      case false.true.true => exact absurd (t3 rfl rfl) (by decide)
      all_goals
        clear t1 t2 t3
        go_wp2_with (first | (refine wpList_load_on (by rfl) 32 _ (by rfl) pb (by rfl) 32 Db.toArray (0, 0) _ F10.b Trym.underlying32 rfl iDb ?_) | (refine wpList_load_on (by rfl) 32 _ (by rfl) pd (by rfl) 32 Dd.toArray (0, 0) _ F10.d Trym.underlying32 rfl iDd ?_))
        refine (same_is Db.toArray Dd.toArray q p _ hDb hDd Hba.out W10).mono ?_
        rintro e W11 ⟨rfl, hb11⟩
        have F11 := F10.below hb11
        have hB11 := hB10.trans (hb11.mono hB10.size)
        clear F10 hB10 hb11
        go_wp2_with (first | (refine wpList_load_on (by rfl) 32 _ (by rfl) pd (by rfl) 32 Dd.toArray (0, 0) _ F11.d Trym.underlying32 rfl iDd ?_) | (refine wpList_load_on (by rfl) 32 _ (by rfl) pb (by rfl) 32 Db.toArray (0, 0) _ F11.b Trym.underlying32 rfl iDb ?_))
        refine (same_is Dd.toArray Db.toArray p q _ hDd hDb Hab.out W11).mono ?_
        rintro e W12 ⟨rfl, hb12⟩
        have F12 := F11.below hb12
        have hB12 := hB11.trans (hb12.mono hB11.size)
        clear F11 hB11 hb12
        go_wp2_with (first | (refine wpList_load_on (by rfl) 32 _ (by rfl) pd (by rfl) 32 Dd.toArray (0, 0) _ F12.d Trym.underlying32 rfl iDd ?_) | (refine wpList_load_on (by rfl) 32 _ (by rfl) pa (by rfl) 32 Da.toArray (0, 0) _ F12.a Trym.underlying32 rfl iDa ?_))
        refine (same_is Dd.toArray Da.toArray p p _ hDd hDa (beq_self_eq_true _) W12).mono ?_
        rintro e W13 ⟨rfl, hb13⟩
        have F13 := F12.below hb13
        have hB13 := hB12.trans (hb13.mono hB12.size)
        clear F12 hB12 hb13
        go_wp2_with (first | (refine wpList_load_on (by rfl) 32 _ (by rfl) pa (by rfl) 32 Da.toArray (0, 0) _ F13.a Trym.underlying32 rfl iDa ?_) | (refine wpList_load_on (by rfl) 32 _ (by rfl) pd (by rfl) 32 Dd.toArray (0, 0) _ F13.d Trym.underlying32 rfl iDd ?_))
        refine (same_is Da.toArray Dd.toArray p p _ hDa hDd (beq_self_eq_true _) W13).mono ?_
        rintro e W14 ⟨rfl, hb14⟩
        have F14 := F13.below hb14
        have hB14 := hB13.trans (hb14.mono hB13.size)
        clear F13 hB13 hb14
        go_wp2_with fail
        go_ret
        exact ⟨rfl, hB14⟩
end Go.Proofs.Qxb6604490aMods
