import Derived.Test.YbulkbwuiPush
namespace Go.Proofs.Ybulkbwui
open Go.RowKit

/-- The stack that LawS3661CPushOne makes. -/
theorem one_stack (w : World) (n e : Nat) (z : List Int) (hz : n ≤ z.length) :
    Stack (((w.alloc (.cells (i64s (grown [] 0 (n + e))) 3)).alloc (.cells #[.slice (some ⟨w.heap.size, 0, none⟩) n (n + e)] 22)).setRow w.heap.size (i64s (grown z n (n + e)))) (w.heap.size + 1) n (n + e) (some ⟨w.heap.size, 0, none⟩) (grown z n (n + e)) where
  var := by rw [setRow_other _ _ _ _ (by omega)]; exact heap_alloc2_new _ _ _
  le := by omega
  len := grown_length _ _ _ hz (by omega)
  row _ := ⟨w.heap.size, rfl, by omega, setRow_heap _ _ _ _ 3 (0, 0) (heap_alloc2_old _ _ _)⟩

set_option maxHeartbeats 400000 in
set_option maxRecDepth 100000 in
theorem one_walk (ao : Option Addr) (n cap : Nat) (z : List Int) (a1 v : Int) (w : World) (hn : n ≤ 1024) (hzl : n ≤ z.length) (hz : Ints .i64 w ao n z) (h0 : 0 ≤ a1) (h1 : a1 ≤ 255) :
    Calls Yba.prog 3 #[.slice ao n cap, .int .u8 a1, .int .i64 v] w fun e w' => e = .returned (.bool true) ∧ Below w.heap.size w w' := by
  have HZ : Hid (Ints .i64 w ao n z) := hz
  obtain ⟨e, he⟩ : ∃ e : Nat, a1 % 4 = (e : Int) := ⟨(a1 % 4).toNat, by omega⟩
  have he4 : e < 4 := by omega
  have hmk := make_i64 w n (n + e) (by omega) (by omega) (n : Int) ((n : Int) + (e : Int)) rfl (by omega)
  have hcp := copy_i64 ((w.alloc (.cells (i64s (grown [] 0 (n + e))) 3)).alloc (.cells #[.slice (some ⟨w.heap.size, 0, none⟩) n (n + e)] 22)) w.heap.size n (n + e) cap ao z (heap_alloc2_old _ _ _) (by omega) hzl (fun j hj => by
    obtain ⟨b, o, hao, hb, hc⟩ := hz j hj
    refine ⟨_, hao, ?_⟩
    rw [WideShapes.add_plain, World.cell?_of_block (Go.heap_alloc_old _ _ (by simp; omega)), World.cell?_of_block (Go.heap_alloc_old _ _ (by simpa using hb))]
    exact hc)
  have HSt : Hid (Stack _ _ _ _ _ _) := one_stack w n e z hzl
  clear hz
  go_enter Yba.func3, Yba.ntmps3
  go_wp2_with fail
  refine (push_any _ n (n + e) _ v _ _ HSt.out (by omega)).mono ?_
  rintro e' w4 ⟨rfl, g, c', L', hP, hl', hlo, hv', hc', hn', hgs, hg⟩
  have hgH : w.heap.size ≤ g := by
    rcases hg with hg | hg
    · rw [hg]; simp; omega
    · simp at hg; omega
  have hb4 : Below w.heap.size w w4 := by
    have h3 : Below w.heap.size w (((w.alloc (.cells (i64s (grown [] 0 (n + e))) 3)).alloc (.cells #[.slice (some ⟨w.heap.size, 0, none⟩) n (n + e)] 22)).setRow w.heap.size (i64s (grown z n (n + e)))) :=
      (((Below.refl _ _).alloc (Nat.le_refl _) _).alloc (by simp) _).trans ⟨rfl, rfl, rfl, by simp, fun b hb => setRow_other _ _ _ _ (by omega)⟩
    exact h3.trans ⟨hP.os, hP.tape, hP.output, hP.size, fun b hb => hP.other b (by simp; omega) (by omega) (by omega)⟩
  have d0 : w4.cell? ⟨w.heap.size + 1, 0, none⟩ = some (.slice (some ⟨g, 0, none⟩) (n + 1) c') := by rw [cell_of_row _ _ _ _ _ _ hP.cell]; rfl
  have dn : w4.cell? ⟨g, n, none⟩ = some (.int .i64 v) := by rw [hP.row.cell n (by omega), hv']
  have dr : ∀ i, i < n → w4.cell? ⟨g, i, none⟩ = some (.int .i64 (nth z i)) := fun i hi => by rw [hP.row.cell i (by omega), hlo i hi, nth_grown z n _ i hzl hi]
  have HD : Hid (∀ i, i < n → w4.cell? ⟨g, i, none⟩ = some (.int .i64 (nth z i))) := dr
  have HB : Hid (Below w.heap.size w w4) := hb4
  have HC : Hid (c' = if n = n + e then 2 * n + 1 else n + e) := hc'
  have hcb : c' ≤ 5000 := by rw [hc']; split <;> omega
  clear hP hl' hlo hv' hc' hg hb4 dr hmk hcp hgs hgH
  go_wp2_with fail
  clear he h0 h1
  go_loopw [10] (fun s wx => ∃ (i nd : Nat), s = .int .i64 (i : Int) ∧ i ≤ n ∧ wx = w4.drewN nd) (fun s _ => n - (intOf s).toNat)
  case atStart => exact ⟨0, 0, rfl, Nat.zero_le _, rfl⟩
  case round =>
    obtain ⟨i, nd, rfl, hin, rfl⟩ := hrel
    by_cases hi2 : i < n
    · obtain ⟨b, o, hao, hb, x0⟩ := HZ.out i hi2
      subst hao
      have x1 : w4.cell? ⟨b, o + i, none⟩ = some (.int .i64 (nth z i)) := by rw [HB.out.cell (by exact hb)]; exact x0
      have x2 := HD.out i hi2
      have i5 : (i : Int) < (n : Int) := by omega
      have i6 : (i : Int) < (n : Int) + 1 := by omega
      clear x0
      go_wp2
      go_quiet (fail)
      go_wp2
      exact ⟨⟨i + 1, _, by go_num, by omega, rfl⟩, by simp [intOf]; omega⟩
    · have i5 : ¬ (i : Int) < (n : Int) := by omega
      have B' : Hid (∀ k, Below w.heap.size w (w4.drewN k)) := fun k => ⟨HB.out.os, HB.out.tape, HB.out.output, HB.out.size, HB.out.block⟩
      by_cases he0 : e = 0
      · have e1 : ((e : Int) == 0) = true := by simp [he0]
        have hc2 : c' = 2 * n + 1 := by rw [HC.out, if_pos (by omega)]
        subst hc2
        clear he0
        go_wp2
        go_ret
        exact ⟨rfl, B'.out _⟩
      · have e1 : ((e : Int) == 0) = false := by simp [he0]
        have hc2 : c' = n + e := by rw [HC.out, if_neg (by omega)]
        subst hc2
        clear he0
        go_wp2
        go_ret
        exact ⟨rfl, B'.out _⟩

set_option maxHeartbeats 400000 in
set_option maxRecDepth 100000 in
theorem one_long (ao : Option Addr) (n cap : Nat) (a1 v : Int) (w : World) (hn : 1024 < n) :
    Calls Yba.prog 3 #[.slice ao n cap, .int .u8 a1, .int .i64 v] w fun e w' => e = .returned (.bool true) ∧ Below w.heap.size w w' := by
  have b1 : (1024 : Int) < (n : Int) := by omega
  go_enter Yba.func3, Yba.ntmps3
  go_wp2
  go_ret
  exact ⟨rfl, Below.refl _ _⟩

end Go.Proofs.Ybulkbwui
