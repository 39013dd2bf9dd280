import Derived.Test.YbulkbwuiRows
import Derived.WalkKit
import Derived.WalkSpells
import Derived.WalkLawsBesides
import Derived.WideShapes
import Derived.Laws.CopyRow
import Derived.Laws.IdiomCopy
import Derived.Deep.QuietTactic
import Derived.BigQuiet
import Derived.RegionTactic
import Derived.Handy
namespace Go.Proofs.Ybulkbwui
open Go.RowKit

/-- The number at place j. -/
def nth (L : List Int) (j : Nat) : Int := L.getD j 0
theorem nth_get (L : List Int) (j : Nat) (h : j < L.length) : L[j]? = some (nth L j) := by
  simp [nth, List.getD, h]
theorem nth_set_same (L : List Int) (j : Nat) (x : Int) (h : j < L.length) : nth (L.set j x) j = x := by
  simp [nth, List.getD, h]
theorem nth_set_other (L : List Int) (i j : Nat) (x : Int) (h : i ≠ j) : nth (L.set i x) j = nth L j := by
  simp [nth, List.getD, h]

/-- A row of int. -/
def i64s (L : List Int) : Array Value := (L.map (Value.int .i64)).toArray
def HasRow (w : World) (g : Nat) (L : List Int) : Prop := w.heap[g]? = some (.cells (i64s L) 3 (0, 0))
theorem HasRow.cell {w : World} {g : Nat} {L : List Int} (h : HasRow w g L) (j : Nat) (hj : j < L.length) : w.cell? ⟨g, j, none⟩ = some (.int .i64 (nth L j)) := by
  rw [cell_of_row w g j _ _ _ h]
  simp [i64s, nth_get L j hj]
theorem HasRow.free {w : World} {g : Nat} {L : List Int} (h : HasRow w g L) (j : Nat) : w.frozen? ⟨g, j, none⟩ = false := frozen_of_row w g j _ _ h
theorem HasRow.set {w : World} {g : Nat} {L : List Int} (h : HasRow w g L) (j : Nat) (x : Int) : HasRow (w.setCell ⟨g, j, none⟩ (.int .i64 x)) g (L.set j x) := by
  unfold HasRow
  rw [heap_setCell_same w g j _ _ _ h]
  simp [i64s]
theorem HasRow.lt {w : World} {g : Nat} {L : List Int} (h : HasRow w g L) : g < w.heap.size := (Array.getElem?_eq_some_iff.1 h).1

theorem Yba.info3 : (Yba.prog.info? 3).map (fun i => (i.zero, i.size, i.bytes)) = some (some (.int .i64 0), 1, 8) := by kernel_rfl
theorem made_i64 (n : Nat) : madeCells (Value.int .i64 0).cells n = i64s (List.replicate n 0) := by
  apply Array.toList_inj.1
  rw [show (Value.int .i64 0).cells = #[.int .i64 0] from rfl, toList_madeCells_one]
  simp [i64s]

/-- What lies in a new array of c cells, behind a copy of the n first of L. -/
def grown (L : List Int) (n c : Nat) : List Int := L.take n ++ List.replicate (c - n) 0
theorem grown_length (L : List Int) (n c : Nat) (h : n ≤ L.length) (hc : n ≤ c) : (grown L n c).length = c := by simp [grown]; omega
theorem nth_grown (L : List Int) (n c j : Nat) (h : n ≤ L.length) (hj : j < n) : nth (grown L n c) j = nth L j := by
  have h1 : j < L.length := by omega
  have h2 : j < min n L.length := by omega
  simp [grown, nth, List.getD, List.getElem?_append, h1, h2]

theorem make_i64 (w : World) (n c : Nat) (hn : n ≤ c) (hc : c ≤ 100000) (x y : Int) (hx : x = (n : Int)) (hy : y = (c : Int)) :
    (Instr.makeSlice 22 (.int .i64 x) (.int .i64 y)).run Yba.prog w = .ok (.slice (some ⟨w.heap.size, 0, none⟩) n c) (w.alloc (.cells (i64s (grown [] 0 c)) 3)) := by
  subst hx hy
  obtain ⟨i, hi, hz0, hz1, hz2⟩ := info_parts Yba.info3
  rw [run_make w 22 3 i _ Yba.underlying22 hi hz0 .i64 .i64 n c (by omega) (by omega) (by rw [hz2]; omega) (by omega)]
  simp only [Int.toNat_natCast, hz1, Nat.mul_one, made_i64]
  simp [grown]

/-- copy(grown, old): n cells go over. -/
theorem copy_i64 (w : World) (d n c sc : Nat) (ao : Option Addr) (L : List Int) (hd : HasRow w d (grown [] 0 c)) (hn : n ≤ c) (hL : n ≤ L.length)
    (hs : ∀ j, j < n → ∃ a, ao = some a ∧ w.cell? (a.add j) = some (.int .i64 (nth L j))) (ty : TypeId) :
    (Builtin.copy_ #[22, 22] ty #[.slice (some ⟨d, 0, none⟩) n c, .slice ao n sc]).run Yba.prog w = .ok (.int .i64 (n : Int)) (w.setRow d (i64s (grown L n c))) := by
  have hsz : (Yba.prog.info? 3).map (·.size) = some 1 := by
    obtain ⟨i, hi, _, hz1, _⟩ := info_parts Yba.info3
    rw [hi]; simp [hz1]
  by_cases h0 : n = 0
  · subst h0
    rw [run_copy_none (P := Yba.prog) w 22 22 ty 3 (some ⟨d, 0, none⟩) ao 0 c 0 sc Yba.underlying22 hsz (by simp)]
    have e : grown L 0 c = grown [] 0 c := by simp [grown]
    rw [e, setRow_self w d _ 3 (0, 0) hd]
    rfl
  · obtain ⟨a, rfl, _⟩ := hs 0 (by omega)
    have := run_copy_row (P := Yba.prog) w 22 22 ty 3 d 0 n c a n sc (i64s (grown [] 0 c)) 3 ((L.take n).map (Value.int .i64)) Yba.underlying22 hsz hd (by simp [hL]) (by
        intro j v hv
        by_cases hj : j < n
        · obtain ⟨a', ha, hc⟩ := hs j hj
          cases ha
          rw [List.getElem?_map, List.getElem?_take, if_pos hj, nth_get L j (by omega)] at hv
          simp at hv
          subst hv
          exact hc
        · rw [List.getElem?_eq_none (by simp; omega)] at hv
          cases hv) (by simp [i64s, grown]; omega) (by
        intro v hv
        obtain ⟨x, _, rfl⟩ := List.mem_map.1 hv
        rfl)
    rw [this]
    simp [goInt, i64s, grown, hL]

/-- What push leaves. -/
structure Pushed (w w' : World) (sp g n c : Nat) (L : List Int) : Prop where
  os : w'.os = w.os
  tape : w'.tape = w.tape
  output : w'.output = w.output
  size : w.heap.size ≤ w'.heap.size
  cell : w'.heap[sp]? = some (.cells #[.slice (some ⟨g, 0, none⟩) n c] 22 (0, 0))
  row : HasRow w' g L
  other : ∀ b, b < w.heap.size → b ≠ sp → b ≠ g → w'.heap[b]? = w.heap[b]?

theorem room_mk (w : World) (sp g n c k : Nat) (v : Int) (L : List Int) (x : Value) (hne : sp ≠ g) (hs : w.heap[sp]? = some (.cells #[x] 22 (0, 0))) (hr : HasRow w g L) :
    Pushed w (((w.drewN k).setCell ⟨sp, 0, none⟩ (.slice (some ⟨g, 0, none⟩) (n + 1) c)).setCell ⟨g, n, none⟩ (.int .i64 v)).drew sp g (n + 1) c (L.set n v) where
  os := rfl
  tape := rfl
  output := rfl
  size := by
    show _ ≤ (((w.drewN k).setCell _ _).setCell _ _).heap.size
    simp
  cell := by
    show (((w.drewN k).setCell _ _).setCell _ _).heap[sp]? = _
    rw [heap_setCell_other _ _ _ _ hne]
    exact heap_setCell_same (w.drewN k) sp 0 #[x] 22 _ hs
  row := by
    refine HasRow.set (w := (w.drewN k).setCell ⟨sp, 0, none⟩ (.slice (some ⟨g, 0, none⟩) (n + 1) c)) ?_ n v
    unfold HasRow
    rw [heap_setCell_other _ _ _ _ (Ne.symm hne)]; exact hr
  other b hb h1 h2 := by
    show (((w.drewN k).setCell _ _).setCell _ _).heap[b]? = _
    rw [heap_setCell_other _ _ _ _ h2, heap_setCell_other _ _ _ _ h1]; rfl

set_option maxHeartbeats 400000 in
theorem push_room (sp g n c : Nat) (v : Int) (L : List Int) (w : World) (hne : sp ≠ g) (hnc : n < c) (hc : c ≤ 100000) (hL : L.length = c) (hs : w.heap[sp]? = some (.cells #[.slice (some ⟨g, 0, none⟩) n c] 22 (0, 0))) (hr : HasRow w g L) :
    Calls Yba.prog 5 #[.pointer (some ⟨sp, 0, none⟩), .int .i64 v] w fun e w' => e = .returned (.tuple #[]) ∧ Pushed w w' sp g (n + 1) c (L.set n v) := by
  have c0 : w.cell? ⟨sp, 0, none⟩ = some (.slice (some ⟨g, 0, none⟩) n c) := by rw [cell_of_row _ _ _ _ _ _ hs]; rfl
  have f0 : w.frozen? ⟨sp, 0, none⟩ = false := frozen_of_row _ _ _ _ _ hs
  have c1 := hr.cell n (by omega)
  have f1 := hr.free n
  have b0 : ((n : Int) == (c : Int)) = false := by simp; omega
  have F : Hid (∀ k, Pushed w _ sp g (n + 1) c (L.set n v)) := fun k => room_mk w sp g n c k v L _ hne hs hr
  clear hs hr hL
  go_enter Yba.func5, Yba.ntmps5
  go_wp2
  go_quiet (fail)
  go_wp2
  go_region
  go_wp2
  go_region
  go_wp2
  go_returns
  exact ⟨rfl, F.out _⟩

set_option maxHeartbeats 400000 in
theorem push_full (sp n : Nat) (ao : Option Addr) (v : Int) (L : List Int) (w : World) (hn : n ≤ 10000) (hL : L.length = n) (hs : w.heap[sp]? = some (.cells #[.slice ao n n] 22 (0, 0))) 
    (hr : ∀ j, j < n → ∃ a, ao = some a ∧ w.cell? (a.add j) = some (.int .i64 (nth L j))) :
    Calls Yba.prog 5 #[.pointer (some ⟨sp, 0, none⟩), .int .i64 v] w fun e w' => e = .returned (.tuple #[]) ∧ Pushed w w' sp w.heap.size (n + 1) (2 * n + 1) ((grown L n (2 * n + 1)).set n v) := by
  have c0 : w.cell? ⟨sp, 0, none⟩ = some (.slice ao n n) := by rw [cell_of_row _ _ _ _ _ _ hs]; rfl
  have f0 : w.frozen? ⟨sp, 0, none⟩ = false := frozen_of_row _ _ _ _ _ hs
  have b0 : ((n : Int) == (n : Int)) = true := by simp
  have hmk := fun w' : World => make_i64 w' n (2 * n + 1) (by omega) (by omega) (n : Int) (2 * (n : Int) + 1) rfl (by omega)
  have hlt : sp < w.heap.size := (Array.getElem?_eq_some_iff.1 hs).1
  obtain ⟨A, hA⟩ : ∃ A : Nat → World, A = fun k => (w.drewN k).alloc (.cells (i64s (grown [] 0 (2 * n + 1))) 3) := ⟨_, rfl⟩
  have eA : ∀ k, (w.drewN k).alloc (.cells (i64s (grown [] 0 (2 * n + 1))) 3) = A k := fun k => by rw [hA]
  have hAs : ∀ k, (A k).heap[sp]? = some (.cells #[.slice ao n n] 22 (0, 0)) := fun k => by rw [hA]; show ((w.drewN k).alloc _).heap[sp]? = _; rw [Go.heap_alloc_old (w.drewN k) _ hlt]; exact hs
  have hAr : ∀ k, HasRow (A k) w.heap.size (grown [] 0 (2 * n + 1)) := fun k => by rw [hA]; exact heap_alloc_new (w.drewN k) _
  have hAc : ∀ k j, j < n → ∃ a, ao = some a ∧ (A k).cell? (a.add j) = some (.int .i64 (nth L j)) := fun k j hj => by
    obtain ⟨a, ha, hc⟩ := hr j hj
    refine ⟨a, ha, ?_⟩
    have hb : (a.add j).block < w.heap.size := block_lt_of_cell hc
    rw [hA]
    show ((w.drewN k).alloc _).cell? _ = _
    rw [World.cell?_of_block (Go.heap_alloc_old (w.drewN k) _ hb)]
    exact hc
  have hcp := fun k ty => copy_i64 (A k) w.heap.size n (2 * n + 1) n ao L (hAr k) (by omega) (by omega) (hAc k) ty
  have hAc0 : ∀ k, (A k).cell? ⟨sp, 0, none⟩ = some (.slice ao n n) := fun k => by rw [cell_of_row _ _ _ _ _ _ (hAs k)]; rfl
  obtain ⟨B, hB⟩ : ∃ B : Nat → World, B = fun k => (A k).setRow w.heap.size (i64s (grown L n (2 * n + 1))) := ⟨_, rfl⟩
  have eB : ∀ k, (A k).setRow w.heap.size (i64s (grown L n (2 * n + 1))) = B k := fun k => by rw [hB]
  have hBs : ∀ k, (B k).heap[sp]? = some (.cells #[.slice ao n n] 22 (0, 0)) := fun k => by rw [hB]; show ((A k).setRow _ _).heap[sp]? = _; rw [setRow_other _ _ _ _ (by omega)]; exact hAs k
  have hBr : ∀ k, HasRow (B k) w.heap.size (grown L n (2 * n + 1)) := fun k => by rw [hB]; exact setRow_heap _ _ _ _ 3 (0, 0) (hAr k)
  have gl : (grown L n (2 * n + 1)).length = 2 * n + 1 := grown_length L n _ (by omega) (by omega)
  have d0 : ∀ k, (B k).cell? ⟨sp, 0, none⟩ = some (.slice ao n n) := fun k => by rw [cell_of_row _ _ _ _ _ _ (hBs k)]; rfl
  have d1 : ∀ k, (B k).frozen? ⟨sp, 0, none⟩ = false := fun k => frozen_of_row _ _ _ _ _ (hBs k)
  have d2 := fun k => (hBr k).cell n (by omega)
  have d3 := fun k => (hBr k).free n
  have hBo : ∀ k, Below w.heap.size w (B k) := fun k => by
    have h1 : Below w.heap.size w (w.drewN k) := ⟨rfl, rfl, rfl, Nat.le_refl _, fun _ _ => rfl⟩
    have h2 := h1.alloc (Nat.le_refl _) (.cells (i64s (grown [] 0 (2 * n + 1))) 3)
    rw [eA] at h2
    rw [← eB]
    exact h2.trans ⟨rfl, rfl, rfl, by simp, fun b hb => setRow_other _ _ _ _ (by omega)⟩
  have F : Hid (∀ k, Pushed w ((((B k).setCell ⟨sp, 0, none⟩ (.slice (some ⟨w.heap.size, 0, none⟩) n (2 * n + 1))).setCell ⟨sp, 0, none⟩ (.slice (some ⟨w.heap.size, 0, none⟩) (n + 1) (2 * n + 1))).setCell ⟨w.heap.size, n, none⟩ (.int .i64 v)).drew.drew sp w.heap.size (n + 1) (2 * n + 1) ((grown L n (2 * n + 1)).set n v)) := fun k => by
    have hX : ((B k).setCell ⟨sp, 0, none⟩ (.slice (some ⟨w.heap.size, 0, none⟩) n (2 * n + 1))).heap[sp]? = some (.cells #[.slice (some ⟨w.heap.size, 0, none⟩) n (2 * n + 1)] 22 (0, 0)) := heap_setCell_same (B k) sp 0 #[.slice ao n n] 22 _ (hBs k)
    have hXr : HasRow ((B k).setCell ⟨sp, 0, none⟩ (.slice (some ⟨w.heap.size, 0, none⟩) n (2 * n + 1))) w.heap.size (grown L n (2 * n + 1)) := by unfold HasRow; rw [heap_setCell_other _ _ _ _ (by simp; omega)]; exact hBr k
    have R := room_mk _ sp w.heap.size n (2 * n + 1) 0 v (grown L n (2 * n + 1)) _ (by omega) hX hXr
    have e : ∀ b, b ≠ sp → ((B k).setCell ⟨sp, 0, none⟩ (.slice (some ⟨w.heap.size, 0, none⟩) n (2 * n + 1))).heap[b]? = (B k).heap[b]? := fun b hb => heap_setCell_other _ _ _ _ hb
    have hsz := (hBo k).size
    have hsz2 : ((B k).setCell ⟨sp, 0, none⟩ (.slice (some ⟨w.heap.size, 0, none⟩) n (2 * n + 1))).heap.size = (B k).heap.size := World.size_setCell _ _ _
    exact ⟨R.os.trans (hBo k).os, R.tape.trans (hBo k).tape, R.output.trans (hBo k).output, by have := R.size; rw [hsz2] at this; exact Nat.le_trans hsz this, R.cell, R.row, fun b hb h1 h2 => ((R.other b (by rw [hsz2]; omega) h1 h2).trans (e b h1)).trans ((hBo k).block b hb)⟩
  clear hBo hBr hBs hAc hAr hAs hA hB hL hr hs gl
  go_enter Yba.func5, Yba.ntmps5
  go_wp2
  go_quiet (fail)
  go_wp2
  go_region
  go_wp2
  go_region
  go_wp2
  go_region
  go_wp2
  go_returns
  exact ⟨rfl, F.out _⟩

/-- A stack of n numbers in an array of c cells, behind the variable in block sp. -/
structure Stack (w : World) (sp n c : Nat) (ao : Option Addr) (L : List Int) : Prop where
  var : w.heap[sp]? = some (.cells #[.slice ao n c] 22 (0, 0))
  le : n ≤ c
  len : L.length = c
  row : 0 < c → ∃ g, ao = some ⟨g, 0, none⟩ ∧ g ≠ sp ∧ HasRow w g L

/-- push, whatever the stack. -/
theorem push_any (sp n c : Nat) (ao : Option Addr) (v : Int) (L : List Int) (w : World) (h : Stack w sp n c ao L) (hc : c ≤ 10000) :
    Calls Yba.prog 5 #[.pointer (some ⟨sp, 0, none⟩), .int .i64 v] w fun e w' => e = .returned (.tuple #[]) ∧ ∃ g c' L', Pushed w w' sp g (n + 1) c' L' ∧ L'.length = c' ∧ (∀ i, i < n → nth L' i = nth L i) ∧ nth L' n = v ∧ c' = (if n = c then 2 * n + 1 else c) ∧
      n + 1 ≤ c' ∧ g ≠ sp ∧ (g = w.heap.size ∨ ao = some ⟨g, 0, none⟩) := by
  by_cases hnc : n = c
  · subst hnc
    have hlt : sp < w.heap.size := (Array.getElem?_eq_some_iff.1 h.var).1
    refine (push_full sp n ao v L w (by omega) h.len h.var (fun j hj => ?_)).mono ?_
    · obtain ⟨g, rfl, _, hr⟩ := h.row (by omega)
      refine ⟨_, rfl, ?_⟩
      rw [WideShapes.add_plain]
      simpa using hr.cell j (by rw [h.len]; exact hj)
    · rintro e w' ⟨rfl, hP⟩
      have gl : (grown L n (2 * n + 1)).length = 2 * n + 1 := grown_length L n _ (by rw [h.len]; exact Nat.le_refl _) (by omega)
      refine ⟨rfl, _, _, _, hP, by rw [List.length_set]; exact gl, fun i hi => ?_, nth_set_same _ _ _ (by omega), by rw [if_pos rfl], by omega, by omega, .inl rfl⟩
      rw [nth_set_other _ _ _ _ (by omega), nth_grown L n _ i (by rw [h.len]; exact Nat.le_refl _) hi]
  · have hle := h.le
    obtain ⟨g, rfl, hne, hr⟩ := h.row (by omega)
    refine (push_room sp g n c v L w (Ne.symm hne) (by omega) (by omega) h.len h.var hr).mono ?_
    rintro e w' ⟨rfl, hP⟩
    refine ⟨rfl, _, _, _, hP, by rw [List.length_set]; exact h.len, fun i hi => nth_set_other _ _ _ _ (by omega), nth_set_same _ _ _ (by rw [h.len]; omega), by rw [if_neg hnc], by omega, hne, .inr rfl⟩

/-- What the walk is told of a slice of integers that came in. -/
def Ints (k : IntKind) (w : World) (ao : Option Addr) (len : Nat) (z : List Int) : Prop :=
  ∀ i, i < len → ∃ b o, ao = some ⟨b, o, none⟩ ∧ b < w.heap.size ∧ w.cell? ⟨b, o + i, none⟩ = some (.int k (nth z i))

end Go.Proofs.Ybulkbwui
