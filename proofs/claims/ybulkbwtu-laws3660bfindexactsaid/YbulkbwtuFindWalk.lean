import Derived.Test.YbulkbwtuFindLaw
namespace Go.Proofs.Ybulkbwtu
open Go.RowKit

/-- The path as far as it has been gone. -/
structure Gone (w wr : World) (F : List Int) (P pre : List Nat) (f c : Nat) (s8 : Value) : Prop where
  lt : c < F.length
  fuel : c < f
  path : pre ++ pathOf f F c = P
  own : wr.ownsRow (w.heap.size + 1) 21 1 s8 (pre.length + 1) (vals (pre ++ [c]))
  row : HasRow wr w.heap.size F
  below : Below w.heap.size w wr
  size : w.heap.size + 1 ≤ wr.heap.size

theorem Gone.step {w wr w' : World} {F : List Int} {P pre : List Nat} {f c d : Nat} {s8 v' : Value} {o : Obj} (hw : Wf F id) (h : Gone w wr F P pre (f + 1) c s8) (hd : nth F c = (d : Int))
    (hown : w'.ownsRow (w.heap.size + 1) 21 1 v' (pre.length + 1 + 1) (vals (pre ++ [c]) ++ [.int .i32 (d : Int)])) (hg : (wr.alloc o).grownBy w' s8.ownBlock) : Gone w w' F P (pre ++ [c]) f d v' := by
  obtain ⟨h1, h2⟩ := hw.par h.lt hd
  simp only [id] at h2
  have hf := h.fuel
  have hs := h.size
  have hr := h.row.lt
  have hne : ∀ k, s8.ownBlock = some k → w.heap.size + 1 ≤ k := fun k hk => (h.own.lt k hk).1
  refine ⟨h1, by omega, ?_, ?_, ?_, ?_, ?_⟩
  · rw [← h.path, pathOf_child _ _ _ _ hd]; simp
  · have e : vals (pre ++ [c] ++ [d]) = vals (pre ++ [c]) ++ [.int .i32 (d : Int)] := by simp [vals]
    rw [e]; simpa using hown
  · unfold HasRow
    rw [hg.block _ (by simp; omega) (fun e => by have := hne _ e.symm; omega), Go.heap_alloc_old _ _ hr]
    exact h.row
  · exact (h.below.alloc (by omega) _).grown hg (by simp; omega) (fun k hk => by have := hne k hk; omega)
  · have := hg.size; simp at this; omega

/-- The whole path lies there. -/
structure Pathed (w wa : World) (F : List Int) (P : List Nat) (gp : Nat) : Prop where
  cells : ∀ j, j < P.length → wa.cell? ⟨gp, j, none⟩ = some (.int .i32 (nthN P j : Int))
  lo : w.heap.size + 1 ≤ gp
  hi : gp < wa.heap.size
  row : HasRow wa w.heap.size F
  below : Below w.heap.size w wa

theorem Gone.stop {w wr : World} {F : List Int} {P pre : List Nat} {f c gp m cp : Nat} (h : Gone w wr F P pre (f + 1) c (.slice (some ⟨gp, 0, none⟩) m cp)) (hn : nth F c < 0) : m = P.length ∧ 0 < P.length ∧ Pathed w wr F P gp := by
  have hP : pre ++ [c] = P := by rw [← h.path, pathOf_root _ _ _ hn]
  have hm : m = pre.length + 1 := by
    rcases h.own.2 with ⟨h0, _⟩ | ⟨g, cap, cur, hv, _⟩
    · simp at h0
    · simp at hv; exact hv.2.1
  subst hm
  have hl : P.length = pre.length + 1 := by rw [← hP]; simp
  obtain ⟨g, cp', hv, h1, h2⟩ := own_shape h.own
  simp at hv
  obtain ⟨rfl, _⟩ := hv
  refine ⟨by omega, by omega, ⟨fun j hj => ?_, h1, h2, h.row, h.below⟩⟩
  rw [h.own.cellAt j (by omega), hP, vals_at P j hj]

/-- The expected array as far as it has been written. -/
structure Exped (wa wr : World) (n : Nat) (F : List Int) (P : List Nat) (k : Nat) (E : List Int) : Prop where
  row : HasRow wr wa.heap.size E
  len : E.length = n
  eq : halved (P.drop k) E = halved P F
  other : Below wa.heap.size wa wr
  size : wr.heap.size = wa.heap.size + 1

theorem Exped.start (wa : World) (n : Nat) (F : List Int) (P : List Nat) (hF : F.length = n) : Exped wa ((wa.alloc (.cells (i32s (List.replicate n 0)) 21)).setRow wa.heap.size (i32s F)) n F P 0 F := by
  refine ⟨setRow_row _ _ _ _ (heap_alloc_new _ _), hF, by simp, ?_, by simp⟩
  exact ((Below.refl _ _).alloc (Nat.le_refl _) _).trans ⟨rfl, rfl, rfl, by simp, fun b hb => setRow_other _ _ _ _ (by omega)⟩

theorem Exped.step {wa wr : World} {n : Nat} {F : List Int} {P : List Nat} {k : Nat} {E : List Int} (h : Exped wa wr n F P k E) (hk : k + 2 < P.length) :
    Exped wa (wr.setCell ⟨wa.heap.size, nthN P k, none⟩ (.int .i32 (nthN P (k + 2) : Int))).drew n F P (k + 2) (E.set (nthN P k) (nthN P (k + 2) : Int)) := by
  refine ⟨HasRow.set h.row _ _, by rw [List.length_set]; exact h.len, by rw [← halved_step P k E hk]; exact h.eq, (h.other.setCell (Nat.le_refl _) _).drew, ?_⟩
  show (wr.setCell _ _).heap.size = _
  rw [World.size_setCell]; exact h.size

/-- Both arrays lie there. -/
structure Ready (w wa wb : World) (F E : List Int) (n : Nat) : Prop where
  urow : HasRow wb (wa.heap.size + 1) F
  erow : HasRow wb wa.heap.size E
  below : Below w.heap.size w wb
  size : wb.heap.size = wa.heap.size + 2

theorem ready_mk {w wa wr : World} {F E : List Int} {P : List Nat} {n k gp : Nat} (hA : Pathed w wa F P gp) (hE : Exped wa wr n F P k E) :
    Ready w wa ((wr.alloc (.cells (i32s (List.replicate n 0)) 21)).setRow wr.heap.size (i32s F)) F E n := by
  have hs := hE.size
  have hl := hA.row.lt
  refine ⟨?_, ?_, ?_, by simp; omega⟩
  · rw [← hs]; exact setRow_row _ _ (List.replicate n 0) _ (heap_alloc_new _ _)
  · unfold HasRow
    rw [setRow_other _ _ _ _ (by omega), Go.heap_alloc_old _ _ (by omega)]; exact hE.row
  · refine ((hA.below.trans (hE.other.mono (by omega))).alloc (by omega) _).trans ⟨rfl, rfl, rfl, by simp, fun b hb => setRow_other _ _ _ _ (by omega)⟩

set_option maxHeartbeats 400000 in
set_option maxRecDepth 100000 in
theorem find_walk (ao : Option Addr) (n cap : Nat) (z : List Int) (x : Int) (w : World) (hn0 : 0 < n) (hn1 : n ≤ 1024) (hz : Ints .i32 (-2147483648) 2147483647 w ao n z) (hx0 : 0 ≤ x) (hx1 : x ≤ 18446744073709551615) :
    Calls Yba.prog 3 #[.slice ao n cap, .int .u64 x] w fun e w' => e = .returned (.bool true) ∧ Below w.heap.size w w' := by
  have HZ : Hid (Ints .i32 (-2147483648) 2147483647 w ao n z) := hz
  clear hz
  have b1 : ((n : Int) == 0) = false := by simp; omega
  obtain ⟨F, hF⟩ : ∃ F, F = foL z n n := ⟨_, rfl⟩
  have hFl : F.length = n := by rw [hF, foL_length]
  have hFw : Wf F id := by rw [hF]; exact foL_wf z n
  obtain ⟨v, hv⟩ : ∃ v : Nat, x % (n : Int) = (v : Int) := ⟨(x % (n : Int)).toNat, by have := Int.emod_nonneg x (show (n : Int) ≠ 0 by omega); omega⟩
  have hvn : v < n := by have := Int.emod_lt_of_pos x (show (0 : Int) < (n : Int) by omega); omega
  obtain ⟨P, hP⟩ : ∃ P, P = pathOf n F v := ⟨_, rfl⟩
  have hPl : P.length ≤ 1025 := by rw [hP]; have := pathOf_length n F v; omega
  have HFl : Hid (F.length = n) := hFl
  have HF : Hid (F = foL z n n) := hF
  have HP : Hid (P = pathOf n F v) := hP
  clear hFl hF hP
  obtain ⟨i0, hi, hz0, hz1, hz2⟩ := info_parts Yba.info21
  go_enter Yba.func3, Yba.ntmps3
  go_wp2_with fail
  refine (forest_any ao n cap z w hn1 HZ.out).mono ?_
  rintro e w1 ⟨rfl, hr1, hs1, hb1⟩
  rw [← HF.out] at hr1
  have HR1 : Hid (HasRow w1 w.heap.size F) := hr1
  have HS1 : Hid (w1.heap.size = w.heap.size + 1) := hs1
  clear hr1 hs1
  go_wp2_with fail
  simp only [hv]
  clear hv
  go_loopw [8, 9] (fun s8 s9 wr => ∃ (pre : List Nat) (f c gp cp m : Nat), s9 = .int .i32 (c : Int) ∧ s8 = .slice (some ⟨gp, 0, none⟩) m cp ∧ Gone w wr F P pre f c s8) (fun _ s9 _ => (intOf s9).toNat)
  case atStart =>
    refine ⟨[], n, v, w1.heap.size, 1, 1, rfl, rfl, ⟨by rw [HFl.out]; exact hvn, hvn, HP.out.symm, World.ownsRow_lit w1 #[.int .i32 (v : Int)] 1 (by have := HS1.out; omega) (by unfold maxLen; omega) rfl, ?_, hb1.alloc (by have := HS1.out; omega) _, by have := HS1.out; simp; omega⟩⟩
    unfold HasRow
    rw [Go.heap_alloc_old _ _ (by have := HS1.out; omega)]; exact HR1.out
  case round =>
    obtain ⟨pre, f, c, gp, cp, m, rfl, rfl, hG⟩ := hrel
    have c1 := hG.row.cell c hG.lt
    have hcn : c < n := by have := hG.lt; rw [HFl.out] at this; exact this
    obtain ⟨f', rfl⟩ : ∃ f', f = f' + 1 := ⟨f - 1, by have := hG.fuel; omega⟩
    have hpl : pre.length ≤ 1025 := by have := hG.path; rw [← this] at hPl; simp at hPl; omega
    rcases Int.lt_or_le (nth F c) 0 with h1 | h1
    · obtain ⟨rfl, hp0, hA⟩ := hG.stop h1
      have c0 := c1
      clear hG c1 hpl
      obtain ⟨wa, rfl⟩ : ∃ wa, wa = wr := ⟨_, rfl⟩
      obtain ⟨l, hl⟩ : ∃ l, P.length = l + 1 := ⟨P.length - 1, by omega⟩
      have HLen : Hid (P.length = l + 1) := hl
      have hl1 : l ≤ 1024 := by omega
      rw [hl]
      clear hp0 hl hb1
      have c1 : wa.cell? ⟨gp, l, none⟩ = some (.int .i32 (nthN P l : Int)) := hA.cells l (by have := HLen.out; omega)
      have hmk := make_i32 22 Yba.underlying22 wa n (by omega)
      have hws : w.heap.size < wa.heap.size := hA.row.lt
      have hcp := copy_i32 22 22 Yba.underlying22 (wa.alloc (.cells (i32s (List.replicate n 0)) 21)) wa.heap.size w.heap.size n (List.replicate n 0) F (heap_alloc_new _ _) (by unfold HasRow; rw [Go.heap_alloc_old _ _ hws]; exact hA.row) (by simp) HFl.out
      have HA : Hid (Pathed w wa F P gp) := hA
      clear hA
      go_wp2_with fail
      go_loopw [12] (fun s wr => ∃ (k : Nat) (E : List Int), s = .int .i64 (k : Int) ∧ k ≤ 2000 ∧ Exped wa wr n F P k E) (fun s _ => 3000 - (intOf s).toNat)
      case atStart => exact ⟨0, F, rfl, by omega, Exped.start wa n F P HFl.out⟩
      case round =>
        obtain ⟨k, E, rfl, hk2, hE⟩ := hrel
        clear hmk hcp
        by_cases hk : k + 2 < l + 1
        · have hkP : k + 2 < P.length := by rw [HLen.out]; exact hk
          have ha : nthN P k < n := by rw [← HFl.out]; rw [HP.out]; exact pathOf_mem n F v hFw (by rw [HFl.out]; exact hvn) _ (nthN_mem _ _ (by rw [← HP.out]; omega))
          have c1' : wr.cell? ⟨gp, k, none⟩ = some (.int .i32 (nthN P k : Int)) := by rw [hE.other.cell (by exact HA.out.hi)]; exact HA.out.cells k (by omega)
          have c2' : wr.cell? ⟨gp, k + 2, none⟩ = some (.int .i32 (nthN P (k + 2) : Int)) := by rw [hE.other.cell (by exact HA.out.hi)]; exact HA.out.cells (k + 2) hkP
          have c3' := hE.row.cell (nthN P k) (by rw [hE.len]; exact ha)
          have f3' := hE.row.free (nthN P k)
          have HE : Hid (Exped wa wr n F P k E) := hE
          have i1 : (k : Int) + 2 < (l : Int) + 1 := by omega
          have i2 : (k : Int) < (l : Int) + 1 := by omega
          have i3 : ((nthN P k : Nat) : Int) < (n : Int) := by omega
          clear hE
          go_wp2
          go_region
          go_wp2
          exact ⟨⟨k + 2, _, by go_num, by omega, HE.out.step hkP⟩, by simp [intOf]; omega⟩
        · have i1 : ¬ (k : Int) + 2 < (l : Int) + 1 := by omega
          have hEq : E = halved P F := by rw [← hE.eq, halved_end P k E (by rw [HLen.out]; omega)]
          have hmk2 := make_i32 25 Yba.underlying25 wr n (by omega)
          have hsr : w.heap.size < wr.heap.size := by have := hE.size; omega
          have hcp2 := copy_i32 25 22 Yba.underlying25 (wr.alloc (.cells (i32s (List.replicate n 0)) 21)) wr.heap.size w.heap.size n (List.replicate n 0) F (heap_alloc_new _ _) (by unfold HasRow; rw [Go.heap_alloc_old _ _ hsr, hE.other.block _ hws]; exact HA.out.row) (by simp) HFl.out
          have hY := ready_mk HA.out hE
          have hsz2 := hE.size
          have HY : Hid (Ready w wa ((wr.alloc (.cells (i32s (List.replicate n 0)) 21)).setRow wr.heap.size (i32s F)) F E n) := hY
          have HSZ : Hid (wr.heap.size = wa.heap.size + 1) := hsz2
          have HEq : Hid (E = halved P F) := hEq
          clear hE hY hsz2 hEq
          go_wp2_with fail
          rw [HSZ.out] at HY ⊢
          have hx : findA n F v = (E, nthN P l) := by
            rw [findA_exact n F v hFw (by rw [HFl.out]; exact hvn) hvn, ← HP.out, last_nthN, HLen.out, HEq.out]; rfl
          have C := find_any id (wa.heap.size + 1) n v n F _ HFl.out hvn hFw hvn HY.out.urow
          rw [hx] at C
          refine C.mono ?_
          rintro e w5 ⟨rfl, hu5, ht5⟩
          have he5 : HasRow w5 wa.heap.size E := by unfold HasRow; rw [ht5.other _ (by omega)]; exact HY.out.erow
          have hb5 : Below w.heap.size w w5 := HY.out.below.trans ⟨ht5.os, ht5.tape, ht5.output, by have := ht5.size; omega, fun b hb => ht5.other b (by omega)⟩
          have HU5 : Hid (HasRow w5 (wa.heap.size + 1) E) := hu5
          have HE5 : Hid (HasRow w5 wa.heap.size E) := he5
          have HB5 : Hid (Below w.heap.size w w5) := hb5
          have hEl : E.length = n := by rw [HEq.out, length_halved]; exact HFl.out
          have HEl : Hid (E.length = n) := hEl
          clear hx C hu5 he5 hb5 ht5 hEl hmk2 hcp2
          go_wp2_with fail
          go_loopw [15] (fun s wx => ∃ (i nd : Nat), s = .int .i64 (i : Int) ∧ i ≤ n ∧ wx = w5.drewN nd) (fun s _ => n - (intOf s).toNat)
          case atStart => exact ⟨0, 0, rfl, Nat.zero_le _, rfl⟩
          case round =>
            obtain ⟨i, nd, rfl, hin, rfl⟩ := hrel
            by_cases hi2 : i < n
            · have d1 := HU5.out.cell i (by rw [HEl.out]; exact hi2)
              have d2 := HE5.out.cell i (by rw [HEl.out]; exact hi2)
              have i5 : (i : Int) < (n : Int) := by omega
              go_wp2
              go_quiet (fail)
              go_wp2
              exact ⟨⟨i + 1, _, by go_num, by omega, rfl⟩, by simp [intOf]; omega⟩
            · have i5 : ¬ (i : Int) < (n : Int) := by omega
              go_wp2
              go_ret
              exact ⟨rfl, ⟨HB5.out.os, HB5.out.tape, HB5.out.output, HB5.out.size, HB5.out.block⟩⟩
    · obtain ⟨d, hd⟩ : ∃ d : Nat, nth F c = (d : Int) := ⟨(nth F c).toNat, by omega⟩
      have hdc := hFw.par hG.lt hd
      simp only [id] at hdc
      have hown := hG.own
      have hsz := hG.size
      have HG : Hid (Gone w wr F P pre (f' + 1) c (.slice (some ⟨gp, 0, none⟩) m cp)) := hG
      clear hG
      go_wp2_with (at_builtin; refine wpList_append_own _ rfl _ _ 22 rfl (w.heap.size + 1) 21 i0 (.int .i32 0) 1 4 Yba.underlying22 hi hz0 hz1 hz2 rfl (by decide) _ _ _ rfl (hown.alloc _) ⟨wr.heap.size, 0, none⟩ 1 1 [.int .i32 (d : Int)] rfl rfl (cell_one_new _ _ _) (ints_oneCell .i32 [(d : Int)]) (by unfold maxLen; omega) (by omega) (by simp; omega) ?_; intro v' w2 hown' hgrow hnil)
      have hG' := HG.out.step hFw hd hown' hgrow
      have HG' : Hid (Gone w w2 F P (pre ++ [c]) f' d v') := hG'
      obtain ⟨g2, cp2, hv2, _⟩ := own_shape hown'
      clear hown' hgrow hnil hG' hown
      go_roundw
      case rel => exact ⟨pre ++ [c], f', d, g2, cp2, _, rfl, hv2, HG'.out⟩
      case measure => simp [intOf]; omega


set_option maxHeartbeats 400000 in
set_option maxRecDepth 100000 in
theorem find_none (ao : Option Addr) (n cap : Nat) (x : Int) (w : World) (hn : n = 0 ∨ 1024 < n) :
    Calls Yba.prog 3 #[.slice ao n cap, .int .u64 x] w fun e w' => e = .returned (.bool true) ∧ Below w.heap.size w w' := by
  rcases hn with rfl | hn
  · go_enter Yba.func3, Yba.ntmps3
    go_wp2
    go_ret
    exact ⟨rfl, Below.refl _ _⟩
  · have b1 : ((n : Int) == 0) = false := by simp; omega
    have b2 : (1024 : Int) < (n : Int) := by omega
    go_enter Yba.func3, Yba.ntmps3
    go_wp2
    go_ret
    exact ⟨rfl, Below.refl _ _⟩

end Go.Proofs.Ybulkbwtu
