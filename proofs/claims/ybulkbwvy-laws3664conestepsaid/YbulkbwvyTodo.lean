import Derived.Test.YbulkbwvyRows
import Derived.WalkKit
import Derived.WalkSpells
import Derived.WalkLawsBesides
import Derived.WideShapes
import Derived.Deep.QuietTactic
import Derived.BigQuiet
import Derived.RegionTactic
import Derived.BigRegion
import Derived.Handy
namespace Go.Proofs.Ybulkbwvy
open Go.RowKit

/-- What the walk is told of the slice of steps that came in. -/
def Steps (w : World) (ao : Option Addr) (n : Nat) (K Y : Nat → Int) (E : Nat → Bool) : Prop :=
  ∀ i, i < n → ∃ b o, ao = some ⟨b, o, none⟩ ∧ b < w.heap.size ∧ w.cell? ⟨b, o + i * 3, none⟩ = some (.int .u8 (K i)) ∧ w.cell? ⟨b, o + i * 3 + 1, none⟩ = some (.int .u8 (Y i)) ∧ w.cell? ⟨b, o + i * 3 + 2, none⟩ = some (.bool (E i)) ∧
    0 ≤ K i ∧ K i ≤ 255 ∧ 0 ≤ Y i ∧ Y i ≤ 255

theorem Steps.below {w w' : World} {ao : Option Addr} {n : Nat} {K Y : Nat → Int} {E : Nat → Bool} (h : Steps w ao n K Y E) (hb : Below w.heap.size w w') : Steps w' ao n K Y E := by
  intro i hi
  obtain ⟨b, o, h1, h2, h3, h4, h5, h6⟩ := h i hi
  exact ⟨b, o, h1, Nat.lt_of_lt_of_le h2 hb.size, by rw [hb.cell (by exact h2)]; exact h3, by rw [hb.cell (by exact h2)]; exact h4, by rw [hb.cell (by exact h2)]; exact h5, h6⟩

/-- A row of n idSteps, the first k of them known. -/
def Todo (w : World) (g n k : Nat) (K Y : Nat → Int) (E : Nat → Bool) : Prop :=
  ∃ arr : Array Value, w.heap[g]? = some (.cells arr 41 (0, 0)) ∧ arr.size = n * 3 ∧ ∀ i, i < k → arr[i * 3]? = some (.int .u8 (K i)) ∧ arr[i * 3 + 1]? = some (.int .u8 (Y i)) ∧ arr[i * 3 + 2]? = some (.bool (E i))

theorem Todo.cells {w : World} {g n k : Nat} {K Y : Nat → Int} {E : Nat → Bool} (h : Todo w g n k K Y E) {i : Nat} (hi : i < k) :
    w.cell? ⟨g, i * 3, none⟩ = some (.int .u8 (K i)) ∧ w.cell? ⟨g, i * 3 + 1, none⟩ = some (.int .u8 (Y i)) ∧ w.cell? ⟨g, i * 3 + 2, none⟩ = some (.bool (E i)) := by
  obtain ⟨arr, h1, _, h2⟩ := h
  obtain ⟨a, b, c⟩ := h2 i hi
  exact ⟨by rw [cell_of_row _ _ _ _ _ _ h1, a], by rw [cell_of_row _ _ _ _ _ _ h1, b], by rw [cell_of_row _ _ _ _ _ _ h1, c]⟩

theorem Todo.there {w : World} {g n k : Nat} {K Y : Nat → Int} {E : Nat → Bool} (h : Todo w g n k K Y E) {j : Nat} (hj : j < n * 3) : ∃ v, w.cell? ⟨g, j, none⟩ = some v := by
  obtain ⟨arr, h1, h2, _⟩ := h
  refine ⟨arr[j]'(by omega), ?_⟩
  rw [cell_of_row _ _ _ _ _ _ h1, Array.getElem?_eq_getElem]

theorem Todo.free {w : World} {g n k : Nat} {K Y : Nat → Int} {E : Nat → Bool} (h : Todo w g n k K Y E) (j : Nat) : w.frozen? ⟨g, j, none⟩ = false := by
  obtain ⟨arr, h1, _⟩ := h
  exact frozen_of_row _ _ _ _ _ h1

theorem Todo.same {w w' : World} {g n k : Nat} {K Y : Nat → Int} {E : Nat → Bool} (h : Todo w g n k K Y E) (hb : w'.heap[g]? = w.heap[g]?) : Todo w' g n k K Y E := by
  obtain ⟨arr, h1, h2⟩ := h
  exact ⟨arr, hb.trans h1, h2⟩

theorem Todo.step {w : World} {g n k : Nat} {K Y : Nat → Int} {E : Nat → Bool} (h : Todo w g n k K Y E) (hk : k < n) :
    Todo (((w.setCell ⟨g, k * 3, none⟩ (.int .u8 (K k))).setCell ⟨g, k * 3 + 1, none⟩ (.int .u8 (Y k))).setCell ⟨g, k * 3 + 2, none⟩ (.bool (E k))) g n (k + 1) K Y E := by
  obtain ⟨arr, h1, h2, h3⟩ := h
  refine ⟨((arr.setIfInBounds (k * 3) (.int .u8 (K k))).setIfInBounds (k * 3 + 1) (.int .u8 (Y k))).setIfInBounds (k * 3 + 2) (.bool (E k)), ?_, by simp [h2], ?_⟩
  · exact heap_setCell_same _ g _ _ 41 _ (heap_setCell_same _ g _ _ 41 _ (heap_setCell_same _ g _ _ 41 _ h1))
  · intro i hi
    by_cases e : i = k
    · subst e
      refine ⟨?_, ?_, ?_⟩
      · rw [Array.getElem?_setIfInBounds_ne (by omega), Array.getElem?_setIfInBounds_ne (by omega), Array.getElem?_setIfInBounds_self_of_lt (by omega)]
      · rw [Array.getElem?_setIfInBounds_ne (by omega), Array.getElem?_setIfInBounds_self_of_lt (by simp; omega)]
      · rw [Array.getElem?_setIfInBounds_self_of_lt (by simp; omega)]
    · obtain ⟨a, b, c⟩ := h3 i (by omega)
      refine ⟨?_, ?_, ?_⟩
      · rw [Array.getElem?_setIfInBounds_ne (by omega), Array.getElem?_setIfInBounds_ne (by omega), Array.getElem?_setIfInBounds_ne (by omega), a]
      · rw [Array.getElem?_setIfInBounds_ne (by omega), Array.getElem?_setIfInBounds_ne (by omega), Array.getElem?_setIfInBounds_ne (by omega), b]
      · rw [Array.getElem?_setIfInBounds_ne (by omega), Array.getElem?_setIfInBounds_ne (by omega), Array.getElem?_setIfInBounds_ne (by omega), c]

theorem Yba.info41 : (Yba.prog.info? 41).map (fun i => (i.zero, i.size, i.bytes)) = some (some (.agg #[.int .u8 0, .int .u8 0, .bool false]), 3, 3) := by kernel_rfl

def zeros (n : Nat) : Array Value := madeCells (Value.agg #[.int .u8 0, .int .u8 0, .bool false]).cells (n * 3)
theorem zeros_size (n : Nat) : (zeros n).size = n * 3 := size_madeCells _ _

theorem make_todo (w : World) (n : Nat) (hn : n ≤ 100000) :
    (Instr.makeSlice 28 (.int .i64 n) (.int .i64 n)).run Yba.prog w = .ok (.slice (some ⟨w.heap.size, 0, none⟩) n n) (w.alloc (.cells (zeros n) 41)) := by
  obtain ⟨i, hi, hz0, hz1, hz2⟩ := info_parts Yba.info41
  rw [run_make w 28 41 i _ Yba.underlying28 hi hz0 .i64 .i64 n n (by omega) (by omega) (by rw [hz2]; omega) (by omega)]
  simp only [Int.toNat_natCast, hz1]
  rfl

set_option maxHeartbeats 400000 in
theorem todo_any (ao : Option Addr) (n cap : Nat) (K Y : Nat → Int) (E : Nat → Bool) (w : World) (hn : n ≤ 1024) (hz : Steps w ao n K Y E) :
    Calls Yba.prog 5 #[.slice ao n cap] w fun e w' => e = .returned (.slice (some ⟨w.heap.size, 0, none⟩) n n) ∧ Todo w' w.heap.size n n K Y E ∧ w'.heap.size = w.heap.size + 1 ∧ Below w.heap.size w w' := by
  have HZ : Hid (Steps w ao n K Y E) := hz
  clear hz
  have hmk := make_todo w n (by omega)
  go_enter Yba.func5, Yba.ntmps5
  go_wp2
  go_loopw [10] (fun s wr => ∃ k : Nat, k ≤ n ∧ s = .int .i64 (k : Int) ∧ Todo wr w.heap.size n k K Y E ∧ wr.heap.size = w.heap.size + 1 ∧ Below w.heap.size w wr) (fun s _ => n - (intOf s).toNat)
  case atStart => exact ⟨0, Nat.zero_le _, rfl, ⟨zeros n, heap_alloc_new _ _, zeros_size n, fun i hi => absurd hi (Nat.not_lt_zero _)⟩, by simp, (Below.refl _ _).alloc (Nat.le_refl _) _⟩
  case round =>
    obtain ⟨k, hk, rfl, hT, hsz, hbel⟩ := hrel
    clear hmk
    have HT : Hid (Todo wr w.heap.size n k K Y E) := hT
    have HSz : Hid (wr.heap.size = w.heap.size + 1) := hsz
    clear hsz
    by_cases hkn : k < n
    · obtain ⟨b, o, hao, hb, x0, x1, x2, g1, g2, g3, g4⟩ := HZ.out k hkn
      subst hao
      have c0 : wr.cell? ⟨b, o + k * 3, none⟩ = some (.int .u8 (K k)) := by rw [hbel.cell (by exact hb)]; exact x0
      have c1 : wr.cell? ⟨b, o + k * 3 + 1, none⟩ = some (.int .u8 (Y k)) := by rw [hbel.cell (by exact hb)]; exact x1
      have c2 : wr.cell? ⟨b, o + k * 3 + 2, none⟩ = some (.bool (E k)) := by rw [hbel.cell (by exact hb)]; exact x2
      obtain ⟨v0, d0⟩ := hT.there (j := k * 3) (by omega)
      obtain ⟨v1, d1⟩ := hT.there (j := k * 3 + 1) (by omega)
      obtain ⟨v2, d2⟩ := hT.there (j := k * 3 + 2) (by omega)
      have f0 := hT.free (k * 3)
      have f1 := hT.free (k * 3 + 1)
      have f2 := hT.free (k * 3 + 2)
      have i1 : (k : Int) < (n : Int) := by omega
      clear x0 x1 x2 hT
      go_wp2
      go_region
      go_wp2
      refine ⟨⟨k + 1, by omega, by go_num, HT.out.step hkn, ?_, (((hbel.setCell (Nat.le_refl _) _).setCell (Nat.le_refl _) _).setCell (Nat.le_refl _) _).drew⟩, by simp [intOf]; omega⟩
      show (((wr.setCell _ _).setCell _ _).setCell _ _).heap.size = _
      rw [World.size_setCell, World.size_setCell, World.size_setCell]; exact HSz.out
    · have i1 : ¬ (k : Int) < (n : Int) := by omega
      obtain rfl : n = k := by omega
      clear hkn hk
      go_wp2
      go_ret
      exact ⟨rfl, HT.out, HSz.out, hbel⟩


/-! ### next -/
/-- The walk's block: seven cells. -/
def Walk (w : World) (wb : Nat) (x y ax ay : Value) (ao : Option Addr) (m c : Nat) (a b : Int) : Prop :=
  w.heap[wb]? = some (.cells #[x, y, ax, ay, .slice ao m c, .int .u8 a, .int .u8 b] 32 (0, 0))

theorem Walk.at4 {w : World} {wb : Nat} {x y ax ay : Value} {ao : Option Addr} {m c : Nat} {a b : Int} (h : Walk w wb x y ax ay ao m c a b) : w.cell? ⟨wb, 4, none⟩ = some (.slice ao m c) := by rw [cell_of_row _ _ _ _ _ _ h]; rfl
theorem Walk.at5 {w : World} {wb : Nat} {x y ax ay : Value} {ao : Option Addr} {m c : Nat} {a b : Int} (h : Walk w wb x y ax ay ao m c a b) : w.cell? ⟨wb, 5, none⟩ = some (.int .u8 a) := by rw [cell_of_row _ _ _ _ _ _ h]; rfl
theorem Walk.at6 {w : World} {wb : Nat} {x y ax ay : Value} {ao : Option Addr} {m c : Nat} {a b : Int} (h : Walk w wb x y ax ay ao m c a b) : w.cell? ⟨wb, 6, none⟩ = some (.int .u8 b) := by rw [cell_of_row _ _ _ _ _ _ h]; rfl

set_option maxHeartbeats 400000 in
theorem next_none (wb : Nat) (x y ax ay : Value) (ao : Option Addr) (c : Nat) (a b : Int) (w : World) (h : Walk w wb x y ax ay ao 0 c a b) :
    Calls Yba.prog 6 #[.pointer (some ⟨wb, 0, none⟩)] w fun e w' => e = .returned (.tuple #[.bool false, .bool false]) ∧ w' = w := by
  have c4 := h.at4
  clear h
  go_enter Yba.func6, Yba.ntmps6
  go_wp2
  go_ret2
  exact ⟨rfl, rfl⟩

/-- What a call of next that takes a step leaves: the walk's block turned, one new block. -/
structure Nexted (w w' : World) (wb : Nat) (x y ax ay : Value) (ao : Option Addr) (m c : Nat) (a b : Int) : Prop where
  os : w'.os = w.os
  tape : w'.tape = w.tape
  output : w'.output = w.output
  size : w'.heap.size = w.heap.size + 1
  walk : Walk w' wb x y ax ay ao m c a b
  other : ∀ k, k < w.heap.size → k ≠ wb → w'.heap[k]? = w.heap[k]?

theorem nexted_mk (w : World) (wb : Nat) (x y ax ay : Value) (ao ao' : Option Addr) (m c m' c' : Nat) (a b a' b' : Int) (h : Walk w wb x y ax ay ao m c a b) (o : Obj) :
    Nexted w ((((w.setCell ⟨wb, 4, none⟩ (.slice ao' m' c')).setCell ⟨wb, 5, none⟩ (.int .u8 a')).setCell ⟨wb, 6, none⟩ (.int .u8 b')).alloc o).drew.drew.drew.drew wb x y ax ay ao' m' c' a' b' := by
  have z : wb < w.heap.size := (Array.getElem?_eq_some_iff.1 h).1
  have hz : (((w.setCell ⟨wb, 4, none⟩ (.slice ao' m' c')).setCell ⟨wb, 5, none⟩ (.int .u8 a')).setCell ⟨wb, 6, none⟩ (.int .u8 b')).heap.size = w.heap.size := by
    rw [World.size_setCell, World.size_setCell, World.size_setCell]
  refine ⟨rfl, rfl, rfl, ?_, ?_, fun k hk hne => ?_⟩
  · show ((((w.setCell _ _).setCell _ _).setCell _ _).alloc o).heap.size = _
    rw [World.size_alloc, hz]
  · show ((((w.setCell _ _).setCell _ _).setCell _ _).alloc o).heap[wb]? = _
    rw [Go.heap_alloc_old _ _ (by omega)]
    exact heap_setCell_same _ wb 6 _ 32 _ (heap_setCell_same _ wb 5 _ 32 _ (heap_setCell_same _ wb 4 _ 32 _ h))
  · show ((((w.setCell _ _).setCell _ _).setCell _ _).alloc o).heap[k]? = _
    rw [Go.heap_alloc_old _ _ (by omega), heap_setCell_other _ _ _ _ hne, heap_setCell_other _ _ _ _ hne, heap_setCell_other _ _ _ _ hne]

set_option maxHeartbeats 400000 in
theorem next_some (wb g p n : Nat) (x y ax ay : Value) (a b : Int) (K Y : Nat → Int) (E : Nat → Bool) (w : World) (hpn : p < n) (hn : n ≤ 100000) (h : Walk w wb x y ax ay (some ⟨g, 0, none⟩) (p + 1) n a b) (hT : Todo w g n n K Y E) :
    Calls Yba.prog 6 #[.pointer (some ⟨wb, 0, none⟩)] w fun e w' => e = .returned (.tuple #[.bool true, .bool (E p)]) ∧ Nexted w w' wb x y ax ay (some ⟨g, 0, none⟩) p n (K p) (Y p) := by
  have c4 := h.at4
  have c5 := h.at5
  have c6 := h.at6
  have f4 : w.frozen? ⟨wb, 4, none⟩ = false := frozen_of_row _ _ _ _ _ h
  have f5 : w.frozen? ⟨wb, 5, none⟩ = false := frozen_of_row _ _ _ _ _ h
  have f6 : w.frozen? ⟨wb, 6, none⟩ = false := frozen_of_row _ _ _ _ _ h
  obtain ⟨t0, t1, t2⟩ := hT.cells hpn
  have z : wb < w.heap.size := (Array.getElem?_eq_some_iff.1 h).1
  have zg : g < w.heap.size := block_lt_of_cell t0
  have al : ∀ (X : Obj) (b o : Nat), b < w.heap.size → (w.alloc X).cell? ⟨b, o, none⟩ = w.cell? ⟨b, o, none⟩ := fun X b o hb => World.cell?_of_block (Go.heap_alloc_old _ _ hb)
  have t0' := fun X => (al X g (p * 3) zg).trans t0
  have t1' := fun X => (al X g (p * 3 + 1) zg).trans t1
  have t2' := fun X => (al X g (p * 3 + 2) zg).trans t2
  have c4' := fun X => (al X wb 4 z).trans c4
  have c5' := fun X => (al X wb 5 z).trans c5
  have c6' := fun X => (al X wb 6 z).trans c6
  have fl : ∀ (X : Obj) (o : Nat), (w.alloc X).frozen? ⟨wb, o, none⟩ = w.frozen? ⟨wb, o, none⟩ := fun X o => World.frozen?_of_block (Go.heap_alloc_old _ _ z)
  have f4' := fun X => (fl X 4).trans f4
  have f5' := fun X => (fl X 5).trans f5
  have f6' := fun X => (fl X 6).trans f6
  have F : Hid (∀ o, Nexted w _ wb x y ax ay (some ⟨g, 0, none⟩) p n (K p) (Y p)) := fun o => nexted_mk w wb x y ax ay _ (some ⟨g, 0, none⟩) _ _ p n a b (K p) (Y p) h o
  clear h hT al fl
  go_enter Yba.func6, Yba.ntmps6
  go_wp2
  go_region
  go_wp2
  go_region
  go_wp2
  go_region
  go_wp2
  go_region
  go_wp2
  go_ret2
  exact ⟨rfl, F.out _⟩

end Go.Proofs.Ybulkbwvy
