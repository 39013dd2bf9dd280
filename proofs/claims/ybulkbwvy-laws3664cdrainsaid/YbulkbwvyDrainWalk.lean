import Derived.Test.YbulkbwvyTodo
namespace Go.Proofs.Ybulkbwvy
open Go.RowKit

/-- The state of the drain: m steps are left, the walk holds a, b. -/
structure Drained (w wr : World) (n m : Nat) (a b : Int) (K Y : Nat → Int) (E : Nat → Bool) : Prop where
  walk : Walk wr (w.heap.size + 1) (.slice none 0 0) (.slice none 0 0) (.int .i64 0) (.int .i64 0) (some ⟨w.heap.size, 0, none⟩) m n a b
  todo : Todo wr w.heap.size n n K Y E
  below : Below w.heap.size w wr
  size : w.heap.size + 2 ≤ wr.heap.size

theorem Drained.next {w wr w' : World} {n m p : Nat} {a b a' b' : Int} {K Y : Nat → Int} {E : Nat → Bool} (h : Drained w wr n m a b K Y E)
    (hN : Nexted wr w' (w.heap.size + 1) (.slice none 0 0) (.slice none 0 0) (.int .i64 0) (.int .i64 0) (some ⟨w.heap.size, 0, none⟩) p n a' b') : Drained w w' n p a' b' K Y E := by
  have hs := h.size
  refine ⟨hN.walk, h.todo.same (hN.other _ (by omega) (by omega)), h.below.trans ⟨hN.os, hN.tape, hN.output, by have := hN.size; omega, fun k hk => hN.other k (by omega) (by omega)⟩, by have := hN.size; omega⟩

theorem Drained.drewN {w wr : World} {n m : Nat} {a b : Int} {K Y : Nat → Int} {E : Nat → Bool} (h : Drained w wr n m a b K Y E) (k : Nat) : Drained w (wr.drewN k) n m a b K Y E :=
  ⟨h.walk, h.todo, ⟨h.below.os, h.below.tape, h.below.output, h.below.size, h.below.block⟩, h.size⟩
theorem Drained.alloc {w wr : World} {n m : Nat} {a b : Int} {K Y : Nat → Int} {E : Nat → Bool} (h : Drained w wr n m a b K Y E) (o : Obj) : Drained w (wr.alloc o) n m a b K Y E := by
  have hs := h.size
  refine ⟨?_, h.todo.same (Go.heap_alloc_old _ _ (by omega)), h.below.alloc (by omega) _, by simp; omega⟩
  unfold Walk
  rw [Go.heap_alloc_old _ _ (by omega)]; exact h.walk

set_option maxHeartbeats 400000 in
set_option maxRecDepth 100000 in
theorem drain_walk (ao : Option Addr) (n cap : Nat) (K Y : Nat → Int) (E : Nat → Bool) (a1 a2 : Int) (w : World) (hn : n ≤ 1024) (hz : Steps w ao n K Y E) :
    Calls Yba.prog 4 #[.slice ao n cap, .int .u8 a1, .int .u8 a2] w fun e w' => e = .returned (.bool true) ∧ Below w.heap.size w w' := by
  have HZ : Hid (Steps w ao n K Y E) := hz
  clear hz
  go_enter Yba.func4, Yba.ntmps4
  go_wp2_with fail
  refine (todo_any ao n cap K Y E w hn HZ.out).mono ?_
  rintro e w1 ⟨rfl, hT, hsz, hbel⟩
  have HT : Hid (Todo w1 w.heap.size n n K Y E) := hT
  have HSz : Hid (w1.heap.size = w.heap.size + 1) := hsz
  have HB : Hid (Below w.heap.size w w1) := hbel
  clear hT hsz hbel
  go_wp2_with fail
  rw [HSz.out]
  go_loopw [9, 10, 11] (fun s9 s10 s wr => ∃ (i : Nat) (a b : Int), i ≤ n + 2 ∧ s = .int .i64 (i : Int) ∧ s9 = .int .u8 a ∧ s10 = .int .u8 b ∧ Drained w wr n (n - i) a b K Y E) (fun _ _ s _ => n + 2 - (intOf s).toNat)
  case atStart =>
    have hs := HSz.out
    refine ⟨0, a1, a2, by omega, rfl, rfl, rfl, ⟨?_, HT.out.same (Go.heap_alloc_old _ _ (by omega)), HB.out.alloc (by omega) _, by simp; omega⟩⟩
    unfold Walk
    rw [← hs]; exact heap_alloc_new _ _
  case round =>
    obtain ⟨i, a, b, hi, rfl, rfl, rfl, hD⟩ := hrel
    by_cases hin : i < n
    · obtain ⟨p, hp⟩ : ∃ p, n - i = p + 1 := ⟨n - i - 1, by omega⟩
      rw [hp] at hD
      have hpn : p < n := by omega
      have hj : (n : Int) - 1 - (i : Int) = (p : Int) := by omega
      have HPI : Hid (n - (i + 1) = p) := show n - (i + 1) = p by omega
      have HD : Hid (Drained w wr n (p + 1) a b K Y E) := hD
      have i1 : (i : Int) < (n : Int) + 2 := by omega
      clear hD hp
      go_wp2_with fail
      refine (next_some (w.heap.size + 1) w.heap.size p n _ _ _ _ a b K Y E wr hpn (by omega) HD.out.walk HD.out.todo).mono ?_
      rintro e w2 ⟨rfl, hN⟩
      have hD2 := HD.out.next hN
      have HD2 : Hid (Drained w w2 n p (K p) (Y p) K Y E) := hD2
      obtain ⟨bb, o, hao, hb, x0, x1, x2, g1, g2, g3, g4⟩ := HZ.out p hpn
      subst hao
      have y0 : w2.cell? ⟨bb, o + p * 3, none⟩ = some (.int .u8 (K p)) := by rw [hD2.below.cell (by exact hb)]; exact x0
      have y1 : w2.cell? ⟨bb, o + p * 3 + 1, none⟩ = some (.int .u8 (Y p)) := by rw [hD2.below.cell (by exact hb)]; exact x1
      have y2 : w2.cell? ⟨bb, o + p * 3 + 2, none⟩ = some (.bool (E p)) := by rw [hD2.below.cell (by exact hb)]; exact x2
      have z4 := fun X => (hD2.alloc X).walk.at4
      have z5 := fun X => (hD2.alloc X).walk.at5
      have z6 := fun X => (hD2.alloc X).walk.at6
      have i2 : (p : Int) < (n : Int) := by omega
      clear hN hD2 x0 x1 x2
      go_wp2_with fail
      go_quiet (fail)
      go_wp2
      exact ⟨⟨i + 1, K p, Y p, by omega, by go_num, rfl, rfl, by rw [HPI.out]; exact (HD2.out.alloc _).drewN _⟩, by simp [intOf]; omega⟩
    · have hm : n - i = 0 := by omega
      rw [hm] at hD
      have HD : Hid (Drained w wr n 0 a b K Y E) := hD
      have HPI : Hid (n - (i + 1) = 0) := show n - (i + 1) = 0 by omega
      clear hm
      have z4 := hD.walk.at4
      have z5 := hD.walk.at5
      have z6 := hD.walk.at6
      have i3 : ¬ (0 : Int) ≤ (n : Int) - 1 - (i : Int) := by omega
      clear hD
      by_cases hi2 : i < n + 2
      · have i1 : (i : Int) < (n : Int) + 2 := by omega
        go_wp2_with fail
        refine (next_none (w.heap.size + 1) _ _ _ _ _ n a b wr HD.out.walk).mono ?_
        rintro e w2 ⟨rfl, rfl⟩
        go_wp2
        exact ⟨⟨i + 1, a, b, by omega, by go_num, rfl, rfl, by rw [HPI.out]; exact HD.out⟩, by simp [intOf]; omega⟩
      · have i1 : ¬ (i : Int) < (n : Int) + 2 := by omega
        go_wp2
        go_ret
        exact ⟨rfl, HD.out.below⟩

set_option maxHeartbeats 400000 in
set_option maxRecDepth 100000 in
theorem drain_long (ao : Option Addr) (n cap : Nat) (a1 a2 : Int) (w : World) (hn : 1024 < n) :
    Calls Yba.prog 4 #[.slice ao n cap, .int .u8 a1, .int .u8 a2] w fun e w' => e = .returned (.bool true) ∧ Below w.heap.size w w' := by
  have b1 : (1024 : Int) < (n : Int) := by omega
  go_enter Yba.func4, Yba.ntmps4
  go_wp2
  go_ret
  exact ⟨rfl, Below.refl _ _⟩

end Go.Proofs.Ybulkbwvy
