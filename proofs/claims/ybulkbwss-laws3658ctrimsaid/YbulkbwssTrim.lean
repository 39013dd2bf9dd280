import Derived.Test.YbulkbwssAt
import Derived.Lib.SliceRun
import Derived.Outline
import Derived.Handy
namespace Go.Proofs.Ybulkbwss
open Go.RowKit

theorem Yba.info25 : (Yba.prog.info? 25).map (fun i => (i.zero, i.size, i.bytes)) = some (some (.slice none 0 0), 1, 24) := by kernel_rfl
theorem zero25 (w : World) : (zeroValue 25).run Yba.prog w = .ok (.slice none 0 0) w := by kernel_rfl

/-- What clear leaves of the row of pages. -/
def cleared (m : Nat) (pg : List Value) : List Value := List.replicate m (.slice none 0 0) ++ pg.drop m

theorem setCells_row (pb : Nat) (t : TypeId) (fr : Nat × Nat) : ∀ (vs : List Value) (o : Nat) (cur : List Value) (w : World), w.heap[pb]? = some (.cells cur.toArray t fr) → o + vs.length ≤ cur.length →
    w.setCells pb o vs = w.setRow pb (cur.take o ++ (vs ++ cur.drop (o + vs.length))).toArray := by
  intro vs
  induction vs with
  | nil =>
    intro o cur w h _
    simp only [World.setCells, List.length_nil, Nat.add_zero, List.nil_append, List.take_append_drop]
    rw [setRow_self w pb cur.toArray t fr h]
  | cons v vs ih =>
    intro o cur w h hl
    simp only [List.length_cons] at hl
    simp only [World.setCells]
    have e := setCell_eq_setRow w pb o cur.toArray t fr v h
    rw [e]
    have h2 : (w.setRow pb (cur.toArray.setIfInBounds o v)).heap[pb]? = some (.cells (cur.set o v).toArray t fr) := by
      rw [setRow_heap w pb _ _ t fr h]; simp
    rw [ih (o + 1) (cur.set o v) _ h2 (by simp; omega), setRow_setRow]
    congr 2
    have h1 : (cur.set o v).take (o + 1) = cur.take o ++ [v] := by
      rw [List.take_succ_eq_append_getElem (by simp; omega), List.take_set, List.set_eq_of_length_le (by simp; omega)]
      simp
    rw [h1]
    simp only [List.length_cons, List.append_assoc, List.cons_append, List.nil_append]
    congr 3
    rw [List.drop_set, if_pos (by omega)]
    congr 1
    omega


/-- 'clear(pages[:m])'. -/
theorem run_clear_row {P : Program} (w : World) (t e ty : TypeId) (ht : P.underlying t = some (.slice e)) (hz : ∀ w, (zeroValue e).run P w = .ok (.slice none 0 0) w)
    (pb m c : Nat) (cur : List Value) (tt : TypeId) (hP : w.heap[pb]? = some (.cells cur.toArray tt (0, 0))) (hm : m ≤ cur.length) :
    (Builtin.clear_ #[t] ty #[.slice (some ⟨pb, 0, none⟩) m c]).run P w = .ok (.tuple #[]) (w.setRow pb (cleared m cur).toArray) := by
  by_cases h0 : m = 0
  · subst h0
    have e0 : w.setRow pb (cleared 0 cur).toArray = w := by simp [cleared, setRow_self w pb cur.toArray tt (0, 0) hP]
    rw [e0]
    simp [Builtin.clear_, run_underlying ht]
  · rw [Lib.run_clear_slice w t e ty (.slice none 0 0) ht hz rfl rfl pb 0 m c (by omega)
      (fun j hj => by rw [cell_of_row w pb _ _ tt _ hP]; simp; omega) (fun j hj => frozen_of_row w pb _ _ tt hP),
      setCells_row pb tt (0, 0) _ 0 cur w hP (by simpa using hm)]
    simp [cleared]

theorem clear_at (w : World) (pb m c : Nat) (pg : List Value) (hP : w.heap[pb]? = some (.cells pg.toArray 25 (0, 0))) (hm : m ≤ pg.length) (nq : Nat) :
    (Builtin.clear_ #[24] 0 #[.slice (some ⟨pb, 0, none⟩) m c]).run Yba.prog (w.drewN nq) = .ok (.tuple #[]) ((w.drewN nq).setRow pb (cleared m pg).toArray) :=
  run_clear_row (w.drewN nq) 24 25 0 Yba.underlying24 zero25 pb m c pg 25 hP hm

/-- What trim leaves: two blocks written. -/
structure Trimmed (w w' : World) (sb pb : Nat) (S' : Array Value) (pg' : List Value) : Prop where
  os : w'.os = w.os
  tape : w'.tape = w.tape
  output : w'.output = w.output
  size : w'.heap.size = w.heap.size
  other : ∀ k, k ≠ sb → k ≠ pb → w'.heap[k]? = w.heap[k]?
  str : w'.heap[sb]? = some (.cells S' 43 (0, 0))
  pages : w'.heap[pb]? = some (.cells pg'.toArray 25 (0, 0))

theorem trimmed_mk (w : World) (sb pb nq : Nat) (hne : sb ≠ pb) (S : Array Value) (pg : List Value) (hS : w.heap[sb]? = some (.cells S 43 (0, 0))) (hP : w.heap[pb]? = some (.cells pg.toArray 25 (0, 0))) (m : Nat) (u v : Value) :
    Trimmed w ((((w.drewN nq).setRow pb (cleared m pg).toArray).setCell ⟨sb, 6, none⟩ u).setCell ⟨sb, 7, none⟩ v) sb pb ((S.setIfInBounds 6 u).setIfInBounds 7 v) (cleared m pg) where
  os := rfl
  tape := rfl
  output := rfl
  size := by simp
  other k h1 h2 := by
    rw [heap_setCell_other _ _ _ _ h1, heap_setCell_other _ _ _ _ h1, setRow_other _ _ _ _ h2]; rfl
  str := by
    have e0 : ((w.drewN nq).setRow pb (cleared m pg).toArray).heap[sb]? = some (.cells S 43 (0, 0)) := by rw [setRow_other _ _ _ _ hne]; exact hS
    exact heap_setCell_same _ sb 7 _ 43 v (heap_setCell_same _ sb 6 _ 43 u e0)
  pages := by
    rw [heap_setCell_other _ _ _ _ (Ne.symm hne), heap_setCell_other _ _ _ _ (Ne.symm hne)]; exact setRow_heap (w.drewN nq) pb pg.toArray _ 25 (0, 0) hP

set_option maxHeartbeats 400000 in
theorem trim_no (sb : Nat) (off st : Int) (w : World) (h7 : w.cell? ⟨sb, 7, none⟩ = some (.int .i64 st)) (h : off ≤ st) :
    Calls Yba.prog 6 #[.pointer (some ⟨sb, 6, none⟩), .int .i64 off] w fun e w' => e = .returned (.tuple #[]) ∧ w' = w := by
  go_enter Yba.func6, Yba.ntmps6
  go_wp2
  go_returns
  exact ⟨rfl, rfl⟩

set_option maxHeartbeats 400000 in
theorem trim_some (sb pb n q : Nat) (off st : Int) (w : World) (hne : sb ≠ pb) (S : Array Value) (pg : List Value) (hS : w.heap[sb]? = some (.cells S 43 (0, 0))) (hP : w.heap[pb]? = some (.cells pg.toArray 25 (0, 0)))
    (hpl : pg.length = n) (h6 : S[6]? = some (.slice (some ⟨pb, 0, none⟩) n n)) (h7 : S[7]? = some (.int .i64 st)) 
    (hst : 0 ≤ st) (hoff : off ≤ 1000000000) (hn : n ≤ 1000) (h : ¬ off ≤ st) 
    (hg : off / 4096 - st / 4096 = (q : Int)) (hqn : q < n) :
    Calls Yba.prog 6 #[.pointer (some ⟨sb, 6, none⟩), .int .i64 off] w fun e w' => e = .returned (.tuple #[]) ∧ Trimmed w w' sb pb ((S.setIfInBounds 6 (.slice (some ⟨pb, q, none⟩) (n - q) (n - q))).setIfInBounds 7 (.int .i64 off)) (cleared q pg) := by
  have h0 : 0 ≤ off := by omega
  have c6 : w.cell? ⟨sb, 6, none⟩ = some (.slice (some ⟨pb, 0, none⟩) n n) := by rw [cell_of_row w sb 6 S 43 _ hS, h6]
  have c7 : w.cell? ⟨sb, 7, none⟩ = some (.int .i64 st) := by rw [cell_of_row w sb 7 S 43 _ hS, h7]
  have f6 : w.frozen? ⟨sb, 6, none⟩ = false := frozen_of_row w sb 6 S 43 hS
  have f7 : w.frozen? ⟨sb, 7, none⟩ = false := frozen_of_row w sb 7 S 43 hS
  have hcl := fun nq => clear_at w pb q n pg hP (by omega) nq
  have T : Hid (∀ nq, Trimmed w _ sb pb _ _) := fun nq => trimmed_mk w sb pb nq hne S pg hS hP q (.slice (some ⟨pb, q, none⟩) (n - q) (n - q)) (.int .i64 off)
  have c6' : ∀ nq, ((w.drewN nq).setRow pb (cleared q pg).toArray).cell? ⟨sb, 6, none⟩ = some (.slice (some ⟨pb, 0, none⟩) n n) := fun nq => by rw [cell_setRow_other _ _ _ _ hne]; exact c6
  have c7' : ∀ nq, ((w.drewN nq).setRow pb (cleared q pg).toArray).cell? ⟨sb, 7, none⟩ = some (.int .i64 st) := fun nq => by rw [cell_setRow_other _ _ _ _ hne]; exact c7
  have f6' : ∀ nq, ((w.drewN nq).setRow pb (cleared q pg).toArray).frozen? ⟨sb, 6, none⟩ = false := fun nq => by rw [World.frozen?_of_block (setRow_other _ _ _ _ hne)]; exact f6
  have f7' : ∀ nq, ((w.drewN nq).setRow pb (cleared q pg).toArray).frozen? ⟨sb, 7, none⟩ = false := fun nq => by rw [World.frozen?_of_block (setRow_other _ _ _ _ hne)]; exact f7
  clear hS hP h6 h7
  go_enter Yba.func6, Yba.ntmps6
  go_wp2
  go_quiet (fail)
  go_wp2
  go_returns
  exact ⟨rfl, T.out _⟩

set_option maxHeartbeats 400000 in
theorem trim_all (sb pb n q : Nat) (off st : Int) (w : World) (hne : sb ≠ pb) (S : Array Value) (pg : List Value) (hS : w.heap[sb]? = some (.cells S 43 (0, 0))) (hP : w.heap[pb]? = some (.cells pg.toArray 25 (0, 0)))
    (hpl : pg.length = n) (h6 : S[6]? = some (.slice (some ⟨pb, 0, none⟩) n n)) (h7 : S[7]? = some (.int .i64 st)) 
    (hst : 0 ≤ st) (hoff : off ≤ 1000000000) (hn : n ≤ 1000) (h : ¬ off ≤ st) 
    (hg : off / 4096 - st / 4096 = (q : Int)) (hqn : n ≤ q) :
    Calls Yba.prog 6 #[.pointer (some ⟨sb, 6, none⟩), .int .i64 off] w fun e w' => e = .returned (.tuple #[]) ∧ Trimmed w w' sb pb ((S.setIfInBounds 6 (.slice (some ⟨pb, 0, none⟩) 0 0)).setIfInBounds 7 (.int .i64 off)) (cleared n pg) := by
  have h0 : 0 ≤ off := by omega
  have c6 : w.cell? ⟨sb, 6, none⟩ = some (.slice (some ⟨pb, 0, none⟩) n n) := by rw [cell_of_row w sb 6 S 43 _ hS, h6]
  have c7 : w.cell? ⟨sb, 7, none⟩ = some (.int .i64 st) := by rw [cell_of_row w sb 7 S 43 _ hS, h7]
  have f6 : w.frozen? ⟨sb, 6, none⟩ = false := frozen_of_row w sb 6 S 43 hS
  have f7 : w.frozen? ⟨sb, 7, none⟩ = false := frozen_of_row w sb 7 S 43 hS
  have hcl := fun nq => clear_at w pb n n pg hP (by omega) nq
  have T : Hid (∀ nq, Trimmed w _ sb pb _ _) := fun nq => trimmed_mk w sb pb nq hne S pg hS hP n (.slice (some ⟨pb, 0, none⟩) 0 0) (.int .i64 off)
  have c6' : ∀ nq, ((w.drewN nq).setRow pb (cleared n pg).toArray).cell? ⟨sb, 6, none⟩ = some (.slice (some ⟨pb, 0, none⟩) n n) := fun nq => by rw [cell_setRow_other _ _ _ _ hne]; exact c6
  have c7' : ∀ nq, ((w.drewN nq).setRow pb (cleared n pg).toArray).cell? ⟨sb, 7, none⟩ = some (.int .i64 st) := fun nq => by rw [cell_setRow_other _ _ _ _ hne]; exact c7
  have f6' : ∀ nq, ((w.drewN nq).setRow pb (cleared n pg).toArray).frozen? ⟨sb, 6, none⟩ = false := fun nq => by rw [World.frozen?_of_block (setRow_other _ _ _ _ hne)]; exact f6
  have f7' : ∀ nq, ((w.drewN nq).setRow pb (cleared n pg).toArray).frozen? ⟨sb, 7, none⟩ = false := fun nq => by rw [World.frozen?_of_block (setRow_other _ _ _ _ hne)]; exact f7
  clear hS hP h6 h7
  by_cases hq : q = n
  · subst hq
    go_enter Yba.func6, Yba.ntmps6
    go_wp2
    go_quiet (fail)
    go_wp2
    go_returns
    exact ⟨rfl, T.out _⟩
  · have hlt : n < q := by omega
    clear hq hqn
    go_enter Yba.func6, Yba.ntmps6
    go_wp2
    go_quiet (fail)
    go_wp2
    go_returns
    exact ⟨rfl, T.out _⟩

end Go.Proofs.Ybulkbwss
