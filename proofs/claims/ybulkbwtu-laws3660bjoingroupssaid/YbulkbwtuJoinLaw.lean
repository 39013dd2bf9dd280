import Derived.Test.YbulkbwtuForest
import Derived.Test.YbulkbwtuJoin
import Derived.Deep.Cut
namespace Go.Proofs.Ybulkbwtu
open Go.RowKit

/-- A row of int. -/
def i64s (L : List Int) : Array Value := (L.map (Value.int .i64)).toArray
def HasLab (w : World) (g : Nat) (L : List Int) : Prop := w.heap[g]? = some (.cells (i64s L) 3 (0, 0))
theorem HasLab.cell {w : World} {g : Nat} {L : List Int} (h : HasLab w g L) (j : Nat) (hj : j < L.length) : w.cell? ⟨g, j, none⟩ = some (.int .i64 (nth L j)) := by
  rw [cell_of_row w g j _ _ _ h]
  simp [i64s, nth_get L j hj]
theorem HasLab.free {w : World} {g : Nat} {L : List Int} (h : HasLab w g L) (j : Nat) : w.frozen? ⟨g, j, none⟩ = false := frozen_of_row w g j _ _ h
theorem HasLab.set {w : World} {g : Nat} {L : List Int} (h : HasLab w g L) (j : Nat) (x : Int) : HasLab (w.setCell ⟨g, j, none⟩ (.int .i64 x)) g (L.set j x) := by
  unfold HasLab
  rw [heap_setCell_same w g j _ _ _ h]
  simp [i64s]

/-- The two arrays of the law: u in block w.heap.size, the labels in the next. -/
structure Two (w wr : World) (U lab : List Int) : Prop where
  u : HasRow wr w.heap.size U
  l : HasLab wr (w.heap.size + 1) lab
  below : Below w.heap.size w wr
  size : wr.heap.size = w.heap.size + 2

theorem Two.setU {w wr : World} {U lab : List Int} (h : Two w wr U lab) (j : Nat) (x : Int) : Two w (wr.setCell ⟨w.heap.size, j, none⟩ (.int .i32 x)) (U.set j x) lab :=
  ⟨h.u.set j x, by unfold HasLab; rw [heap_setCell_other _ _ _ _ (by simp)]; exact h.l, h.below.setCell (Nat.le_refl _) _, by rw [World.size_setCell]; exact h.size⟩
theorem Two.setL {w wr : World} {U lab : List Int} (h : Two w wr U lab) (j : Nat) (x : Int) : Two w (wr.setCell ⟨w.heap.size + 1, j, none⟩ (.int .i64 x)) U (lab.set j x) :=
  ⟨by unfold HasRow; rw [heap_setCell_other _ _ _ _ (by simp)]; exact h.u, h.l.set j x, h.below.setCell (Nat.le_succ _) _, by rw [World.size_setCell]; exact h.size⟩
theorem Two.drewN {w wr : World} {U lab : List Int} (h : Two w wr U lab) (n : Nat) : Two w (wr.drewN n) U lab := ⟨h.u, h.l, ⟨h.below.os, h.below.tape, h.below.output, h.below.size, h.below.block⟩, h.size⟩
theorem Two.turned {w wr w' : World} {U U' lab : List Int} (h : Two w wr U lab) (hr : HasRow w' w.heap.size U') (ht : Turned wr w' w.heap.size) : Two w w' U' lab :=
  ⟨hr, by unfold HasLab; rw [ht.other _ (by omega)]; exact h.l, h.below.trans ⟨ht.os, ht.tape, ht.output, by have := ht.size; omega, fun k hk => ht.other k (by omega)⟩, by rw [ht.size]; exact h.size⟩

/-! ### The start -/
def initU (n k : Nat) : List Int := (List.range n).map fun i => if i < k then -1 else 0
def initL (n k : Nat) : List Int := (List.range n).map fun i => if i < k then (i : Int) else 0
theorem initU_length (n k : Nat) : (initU n k).length = n := by simp [initU]
theorem initL_length (n k : Nat) : (initL n k).length = n := by simp [initL]
theorem nth_initU (n k i : Nat) (hi : i < n) : nth (initU n k) i = if i < k then -1 else 0 := by simp [initU, nth, List.getD, hi]
theorem nth_initL (n k i : Nat) (hi : i < n) : nth (initL n k) i = if i < k then (i : Int) else 0 := by simp [initL, nth, List.getD, hi]
theorem initU_zero (n : Nat) : initU n 0 = List.replicate n 0 := by
  apply ext_nth (by simp [initU_length])
  intro j hj
  rw [initU_length] at hj
  rw [nth_initU _ _ _ hj, if_neg (by omega)]
  simp [nth, List.getD, hj]
theorem initL_zero (n : Nat) : initL n 0 = List.replicate n 0 := by
  apply ext_nth (by simp [initL_length])
  intro j hj
  rw [initL_length] at hj
  rw [nth_initL _ _ _ hj, if_neg (by omega)]
  simp [nth, List.getD, hj]
theorem initU_set (n k : Nat) : (initU n k).set k (-1) = initU n (k + 1) := by
  apply ext_nth (by simp [initU_length])
  intro j hj
  rw [List.length_set, initU_length] at hj
  by_cases e : k = j
  · subst e
    rw [nth_set_same _ _ _ (by rw [initU_length]; exact hj), nth_initU _ _ _ hj, if_pos (by omega)]
  · rw [nth_set_other _ _ _ _ e, nth_initU _ _ _ hj, nth_initU _ _ _ hj]
    by_cases h : j < k
    · rw [if_pos h, if_pos (by omega)]
    · rw [if_neg h, if_neg (by omega)]
theorem initL_set (n k : Nat) : (initL n k).set k (k : Int) = initL n (k + 1) := by
  apply ext_nth (by simp [initL_length])
  intro j hj
  rw [List.length_set, initL_length] at hj
  by_cases e : k = j
  · subst e
    rw [nth_set_same _ _ _ (by rw [initL_length]; exact hj), nth_initL _ _ _ hj, if_pos (by omega)]
  · rw [nth_set_other _ _ _ _ e, nth_initL _ _ _ hj, nth_initL _ _ _ hj]
    by_cases h : j < k
    · rw [if_pos h, if_pos (by omega)]
    · rw [if_neg h, if_neg (by omega)]
theorem cnt_id (r : Nat) : ∀ n, cnt id n r = if r < n then 1 else 0
  | 0 => by simp [cnt]
  | n + 1 => by
    rw [cnt_succ, cnt_id r n]
    simp only [id]
    by_cases h1 : r < n
    · rw [if_pos h1, if_neg (by omega), if_pos (by omega)]
    · by_cases h2 : n = r
      · rw [if_neg h1, if_pos h2, if_pos (by omega)]
      · rw [if_neg h1, if_neg h2, if_neg (by omega)]
theorem forest_start (n : Nat) : Forest (initU n n) n (fun _ => 0) id ∧ Sized (initU n n) n id ∧ Same id (initL n n) n := by
  have hm : ∀ v, v < n → nth (initU n n) v = -1 := fun v hv => by rw [nth_initU _ _ _ hv, if_pos hv]
  refine ⟨⟨initU_length _ _, fun v hv => hv, fun v hv p hp => ?_, fun v _ _ => rfl, fun v hv => ?_⟩, fun r hr _ => ?_, fun i j hi hj => ?_⟩
  · rw [hm v hv] at hp; omega
  · simp only [id]; rw [hm v hv]; omega
  · rw [hm r hr, cnt_id, if_pos hr]; rfl
  · rw [nth_initL _ _ _ hi, nth_initL _ _ _ hj, if_pos hi, if_pos hj]
    simp only [id]; omega

theorem Yba.info3 : (Yba.prog.info? 3).map (fun i => (i.zero, i.size, i.bytes)) = some (some (.int .i64 0), 1, 8) := by kernel_rfl
theorem made_i64 (n : Nat) : madeCells (Value.int .i64 0).cells n = i64s (List.replicate n 0) := by
  apply Array.toList_inj.1
  rw [show (Value.int .i64 0).cells = #[.int .i64 0] from rfl, toList_madeCells_one]
  simp [i64s]
theorem make_i64 (w : World) (n : Nat) (hn : n ≤ 100000) :
    (Instr.makeSlice 29 (.int .i64 n) (.int .i64 n)).run Yba.prog w = .ok (.slice (some ⟨w.heap.size, 0, none⟩) n n) (w.alloc (.cells (i64s (List.replicate n 0)) 3)) := by
  obtain ⟨i, hi, hz0, hz1, hz2⟩ := info_parts Yba.info3
  rw [run_make w 29 3 i _ Yba.underlying29 hi hz0 .i64 .i64 n n (by omega) (by omega) (by rw [hz2]; omega) (by omega)]
  simp only [Int.toNat_natCast, hz1, Nat.mul_one, made_i64]
theorem two_start (w : World) (n : Nat) : Two w ((w.alloc (.cells (i32s (initU n 0)) 21)).alloc (.cells (i64s (initL n 0)) 3)) (initU n 0) (initL n 0) :=
  ⟨by unfold HasRow; rw [Go.heap_alloc_old _ _ (by simp)]; exact heap_alloc_new _ _, heap_alloc2_new _ _ _, ((Below.refl _ _).alloc (Nat.le_refl _) _).alloc (by simp) _, by simp⟩

end Go.Proofs.Ybulkbwtu
