import Derived.Test.YbulkbwtuFind
namespace Go.Proofs.Ybulkbwtu
open Go.RowKit

/-- What the walk is told of a slice of integers that came in. -/
def Ints (k : IntKind) (lo hi : Int) (w : World) (ao : Option Addr) (len : Nat) (z : List Int) : Prop :=
  ∀ i, i < len → ∃ b o, ao = some ⟨b, o, none⟩ ∧ b < w.heap.size ∧ w.cell? ⟨b, o + i, none⟩ = some (.int k (nth z i)) ∧ lo ≤ nth z i ∧ nth z i ≤ hi

/-- The forest's entry i. -/
def fo (z : List Int) (i : Nat) : Int := if nth z i < 0 ∨ i = 0 then (if 0 ≤ nth z i then -1 else nth z i) else nth z i % (i : Int)
def foL (z : List Int) (n k : Nat) : List Int := (List.range n).map fun i => if i < k then fo z i else 0

theorem foL_length (z : List Int) (n k : Nat) : (foL z n k).length = n := by simp [foL]
theorem nth_foL (z : List Int) (n k i : Nat) (hi : i < n) : nth (foL z n k) i = if i < k then fo z i else 0 := by simp [foL, nth, List.getD, hi]
theorem foL_set (z : List Int) (n k : Nat) : (foL z n k).set k (fo z k) = foL z n (k + 1) := by
  apply ext_nth (by simp [foL_length])
  intro j hj
  rw [List.length_set, foL_length] at hj
  by_cases e : k = j
  · subst e
    rw [nth_set_same _ _ _ (by rw [foL_length]; exact hj), nth_foL _ _ _ _ hj, if_pos (by omega)]
  · rw [nth_set_other _ _ _ _ e, nth_foL _ _ _ _ hj, nth_foL _ _ _ _ hj]
    by_cases h : j < k
    · rw [if_pos h, if_pos (by omega)]
    · rw [if_neg h, if_neg (by omega)]
theorem foL_zero (z : List Int) (n : Nat) : foL z n 0 = List.replicate n 0 := by
  apply ext_nth (by simp [foL_length])
  intro j hj
  rw [foL_length] at hj
  rw [nth_foL _ _ _ _ hj, if_neg (by omega)]
  simp [nth, List.getD, hj]

theorem Yba.info21 : (Yba.prog.info? 21).map (fun i => (i.zero, i.size, i.bytes)) = some (some (.int .i32 0), 1, 4) := by kernel_rfl

theorem made_i32 (n : Nat) : madeCells (Value.int .i32 0).cells n = i32s (List.replicate n 0) := by
  apply Array.toList_inj.1
  rw [show (Value.int .i32 0).cells = #[.int .i32 0] from rfl, toList_madeCells_one]
  simp [i32s]

theorem make_i32 (t : TypeId) (ht : Yba.prog.underlying t = some (.slice 21)) (w : World) (n : Nat) (hn : n ≤ 100000) :
    (Instr.makeSlice t (.int .i64 n) (.int .i64 n)).run Yba.prog w = .ok (.slice (some ⟨w.heap.size, 0, none⟩) n n) (w.alloc (.cells (i32s (List.replicate n 0)) 21)) := by
  obtain ⟨i, hi, hz0, hz1, hz2⟩ := info_parts Yba.info21
  rw [run_make w t 21 i _ ht hi hz0 .i64 .i64 n n (by omega) (by omega) (by rw [hz2]; omega) (by omega)]
  simp only [Int.toNat_natCast, hz1, Nat.mul_one, made_i32]

set_option maxHeartbeats 400000 in
theorem forest_any (ao : Option Addr) (len cap : Nat) (z : List Int) (w : World) (hlen : len ≤ 1024) (hz : Ints .i32 (-2147483648) 2147483647 w ao len z) :
    Calls Yba.prog 5 #[.slice ao len cap] w fun e w' => e = .returned (.slice (some ⟨w.heap.size, 0, none⟩) len len) ∧ HasRow w' w.heap.size (foL z len len) ∧ w'.heap.size = w.heap.size + 1 ∧ Below w.heap.size w w' := by
  have HZ : Hid (Ints .i32 (-2147483648) 2147483647 w ao len z) := hz
  clear hz
  have hmk := make_i32 22 Yba.underlying22 w len (by omega)
  rw [← foL_zero z len] at hmk
  go_enter Yba.func5, Yba.ntmps5
  go_wp2
  go_loopw [5] (fun s wr => ∃ k : Nat, k ≤ len ∧ s = .int .i64 (k : Int) ∧ HasRow wr w.heap.size (foL z len k) ∧ wr.heap.size = w.heap.size + 1 ∧ Below w.heap.size w wr) (fun s _ => len - (intOf s).toNat)
  case atStart => exact ⟨0, Nat.zero_le _, rfl, heap_alloc_new _ _, by simp, (Below.refl _ _).alloc (Nat.le_refl _) _⟩
  case round =>
    obtain ⟨k, hk, rfl, hrow, hsz, hbel⟩ := hrel
    clear hmk
    have HRow : Hid (HasRow wr w.heap.size (foL z len k)) := hrow
    have HSz : Hid (wr.heap.size = w.heap.size + 1) := hsz
    clear hsz
    by_cases hkl : k < len
    · obtain ⟨b, o, hao, hb, c0, g1, g2⟩ := HZ.out k hkl
      subst hao
      have c1 : wr.cell? ⟨b, o + k, none⟩ = some (.int .i32 (nth z k)) := by rw [hbel.cell (by simpa using hb)]; exact c0
      have c2 := hrow.cell k (by rw [foL_length]; exact hkl)
      have f2 := hrow.free k
      clear c0
      have fin : ∀ x, x = fo z k → (∃ k1 : Nat, k1 ≤ len ∧ Value.int .i64 ((k : Int) + 1) = .int .i64 (k1 : Int) ∧ HasRow (wr.setCell ⟨w.heap.size, k, none⟩ (.int .i32 x)) w.heap.size (foL z len k1) ∧ (wr.setCell ⟨w.heap.size, k, none⟩ (.int .i32 x)).heap.size = w.heap.size + 1 ∧ Below w.heap.size w (wr.setCell ⟨w.heap.size, k, none⟩ (.int .i32 x))) := by
        intro x hx
        refine ⟨k + 1, by omega, by go_num, ?_, by simp [HSz.out], hbel.setCell (Nat.le_refl _) _⟩
        rw [← foL_set, hx]
        exact HRow.out.set k _
      have HF : Hid (∀ x, x = fo z k → (∃ k1 : Nat, k1 ≤ len ∧ Value.int .i64 ((k : Int) + 1) = .int .i64 (k1 : Int) ∧ HasRow (wr.setCell ⟨w.heap.size, k, none⟩ (.int .i32 x)) w.heap.size (foL z len k1) ∧ (wr.setCell ⟨w.heap.size, k, none⟩ (.int .i32 x)).heap.size = w.heap.size + 1 ∧ Below w.heap.size w (wr.setCell ⟨w.heap.size, k, none⟩ (.int .i32 x)))) := fin
      clear fin
      by_cases h1 : nth z k < 0
      · go_wp2
        exact ⟨HF.out _ (by unfold fo; rw [if_pos (.inl h1), if_neg (by omega)]), by simp [intOf]; omega⟩
      · by_cases h2 : k = 0
        · have H2 : Hid (k = 0) := h2
          have h3 : ((k : Int) == 0) = true := by simp [h2]
          have h4 : 0 ≤ nth z k := by omega
          clear h1 h2
          go_wp2
          exact ⟨HF.out _ (by unfold fo; rw [if_pos (.inr H2.out), if_pos h4]), by simp [intOf]; omega⟩
        · have h3 : ((k : Int) == 0) = false := by simp; omega
          have h4 : 0 ≤ nth z k := by omega
          clear h1
          go_wp2
          exact ⟨HF.out _ (by unfold fo; rw [if_neg (by omega)]), by simp [intOf]; omega⟩
    · obtain rfl : len = k := by omega
      go_wp2
      go_ret
      exact ⟨rfl, HRow.out, HSz.out, hbel⟩

end Go.Proofs.Ybulkbwtu
