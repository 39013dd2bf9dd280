import Derived.Test.YbulkbwvySame
namespace Go.Proofs.Ybulkbwvy
open Go.RowKit

/-- What the walk is told of a slice of bytes that came in. -/
def Ints (w : World) (ao : Option Addr) (len : Nat) (z : Nat → Int) : Prop :=
  ∀ i, i < len → ∃ b o, ao = some ⟨b, o, none⟩ ∧ b < w.heap.size ∧ w.cell? ⟨b, o + i, none⟩ = some (.int .u8 (z i))

theorem Yba.info26 : (Yba.prog.info? 26).map (fun i => (i.zero, i.size, i.bytes)) = some (some (.int .u8 0), 1, 1) := by kernel_rfl

/-- A row of n idNodes, whatever they hold. -/
def Nodes (w : World) (g n : Nat) : Prop := ∃ arr : Array Value, w.heap[g]? = some (.cells arr 26 (0, 0)) ∧ arr.size = n
theorem Nodes.there {w : World} {g n : Nat} (h : Nodes w g n) {j : Nat} (hj : j < n) : ∃ v, w.cell? ⟨g, j, none⟩ = some v := by
  obtain ⟨arr, h1, h2⟩ := h
  refine ⟨arr[j]'(by omega), ?_⟩
  rw [cell_of_row _ _ _ _ _ _ h1, Array.getElem?_eq_getElem]
theorem Nodes.free {w : World} {g n : Nat} (h : Nodes w g n) (j : Nat) : w.frozen? ⟨g, j, none⟩ = false := by
  obtain ⟨arr, h1, _⟩ := h
  exact frozen_of_row _ _ _ _ _ h1
theorem Nodes.set {w : World} {g n : Nat} (h : Nodes w g n) (j : Nat) (v : Value) : Nodes (w.setCell ⟨g, j, none⟩ v) g n := by
  obtain ⟨arr, h1, h2⟩ := h
  exact ⟨arr.setIfInBounds j v, heap_setCell_same _ _ _ _ _ _ h1, by simp [h2]⟩

def nodes0 (n : Nat) : Array Value := madeCells (Value.int .u8 0).cells n
theorem make_nodes (w : World) (n : Nat) (hn : n ≤ 100000) :
    (Instr.makeSlice 25 (.int .i64 n) (.int .i64 n)).run Yba.prog w = .ok (.slice (some ⟨w.heap.size, 0, none⟩) n n) (w.alloc (.cells (nodes0 n) 26)) := by
  obtain ⟨i, hi, hz0, hz1, hz2⟩ := info_parts Yba.info26
  rw [run_make w 25 26 i _ Yba.underlying25 hi hz0 .i64 .i64 n n (by omega) (by omega) (by rw [hz2]; omega) (by omega)]
  simp only [Int.toNat_natCast, hz1, Nat.mul_one]
  rfl

/-- One array has been made behind H blocks. -/
structure Made (w wr : World) (g n : Nat) : Prop where
  nodes : Nodes wr g n
  below : Below w.heap.size w wr
  size : wr.heap.size = g + 1
  le : w.heap.size ≤ g

theorem Made.start {w wr : World} (n : Nat) (h : Below w.heap.size w wr) : Made w (wr.alloc (.cells (nodes0 n) 26)) wr.heap.size n :=
  ⟨⟨_, heap_alloc_new _ _, size_madeCells _ _⟩, h.alloc h.size _, by simp, h.size⟩
theorem Made.set {w wr : World} {g n : Nat} (h : Made w wr g n) (j : Nat) (v : Value) : Made w (wr.setCell ⟨g, j, none⟩ v) g n :=
  ⟨h.nodes.set j v, h.below.setCell h.le _, by rw [World.size_setCell]; exact h.size, h.le⟩

set_option maxHeartbeats 400000 in
set_option maxRecDepth 100000 in
theorem step_walk (ao xo yo : Option Addr) (n cap lx cx ly cy : Nat) (K Y : Nat → Int) (E : Nat → Bool) (zx zy : Nat → Int) (a1 a2 a3 a4 : Int) (w : World) (hn : n ≤ 1024) (hlx : lx ≤ 1024) (hly : ly ≤ 1024) (hz : Steps w ao n K Y E) (hx : Ints w xo lx zx) (hy : Ints w yo ly zy) :
    Calls Yba.prog 3 #[.slice ao n cap, .int .u8 a1, .int .u8 a2, .int .i64 a3, .int .i64 a4, .slice xo lx cx, .slice yo ly cy] w fun e w' => e = .returned (.bool true) ∧ Below w.heap.size w w' := by
  have HZ : Hid (Steps w ao n K Y E) := hz
  have HX : Hid (Ints w xo lx zx) := hx
  have HY : Hid (Ints w yo ly zy) := hy
  clear hz hx hy
  have hmk1 := fun w' : World => make_nodes w' lx (by omega)
  have hmk2 := fun w' : World => make_nodes w' ly (by omega)
  have b1 : decide ((1024 : Int) < (n : Int)) = false := by simp; omega
  have b2 : decide ((1024 : Int) < (lx : Int)) = false := by simp; omega
  have b3 : decide ((1024 : Int) < (ly : Int)) = false := by simp; omega
  have b1' : ¬ (1024 : Int) < (n : Int) := by omega
  have b2' : ¬ (1024 : Int) < (lx : Int) := by omega
  have b3' : ¬ (1024 : Int) < (ly : Int) := by omega
  go_enter Yba.func3, Yba.ntmps3
  go_wp2_with fail
  go_loopw [42] (fun s wr => ∃ k : Nat, k ≤ lx ∧ s = .int .i64 (k : Int) ∧ Made w wr w.heap.size lx) (fun s _ => lx - (intOf s).toNat)
  case atStart => exact ⟨0, Nat.zero_le _, rfl, Made.start lx (Below.refl _ _)⟩
  case round =>
    obtain ⟨k, hk, rfl, hM⟩ := hrel
    have HM : Hid (Made w wr w.heap.size lx) := hM
    clear hM
    by_cases hkl : k < lx
    · obtain ⟨b, o, hxo, hb, x0⟩ := HX.out k hkl
      subst hxo
      have c0 : wr.cell? ⟨b, o + k, none⟩ = some (.int .u8 (zx k)) := by rw [HM.out.below.cell (by exact hb)]; exact x0
      obtain ⟨v0, d0⟩ := HM.out.nodes.there hkl
      have f0 := HM.out.nodes.free k
      have i1 : (k : Int) < (lx : Int) := by omega
      clear x0
      go_wp2
      exact ⟨⟨k + 1, by omega, by go_num, HM.out.set _ _⟩, by simp [intOf]; omega⟩
    · have i1 : ¬ (k : Int) < (lx : Int) := by omega
      clear HX
      obtain ⟨wa, rfl⟩ : ∃ wa : World, wa = wr := ⟨_, rfl⟩
      go_wp2_with fail
      clear i1
      go_loopw [58] (fun s wr => ∃ k : Nat, k ≤ ly ∧ s = .int .i64 (k : Int) ∧ Made w wr wa.heap.size ly) (fun s _ => ly - (intOf s).toNat)
      case atStart => exact ⟨0, Nat.zero_le _, rfl, Made.start ly HM.out.below⟩
      case round =>
        obtain ⟨k2, hk2, rfl, hM2⟩ := hrel
        have HM2 : Hid (Made w wr wa.heap.size ly) := hM2
        clear hM2
        by_cases hkl2 : k2 < ly
        · obtain ⟨b, o, hyo, hb, x0⟩ := HY.out k2 hkl2
          subst hyo
          have c0 : wr.cell? ⟨b, o + k2, none⟩ = some (.int .u8 (zy k2)) := by rw [HM2.out.below.cell (by exact hb)]; exact x0
          obtain ⟨v0, d0⟩ := HM2.out.nodes.there hkl2
          have f0 := HM2.out.nodes.free k2
          have i1 : (k2 : Int) < (ly : Int) := by omega
          clear x0
          go_wp2
          exact ⟨⟨k2 + 1, by omega, by go_num, HM2.out.set _ _⟩, by simp [intOf]; omega⟩
        · have i1 : ¬ (k2 : Int) < (ly : Int) := by omega
          clear HY hmk1 hmk2
          have HZ2 : Hid (Steps wr ao n K Y E) := HZ.out.below HM2.out.below
          go_wp2_with fail
          clear i1
          refine (todo_any ao n cap K Y E wr hn HZ2.out).mono ?_
          rintro e w2 ⟨rfl, hT, hsz, hbel⟩
          have HT : Hid (Todo w2 wr.heap.size n n K Y E) := hT
          have HSz : Hid (w2.heap.size = wr.heap.size + 1) := hsz
          have HB : Hid (Below wr.heap.size wr w2) := hbel
          clear hT hsz hbel
          go_wp2_with fail
          obtain ⟨w3, hw3⟩ : ∃ w3, w3 = w2.alloc (.cells #[.slice (some ⟨w.heap.size, 0, none⟩) lx lx, .slice (some ⟨wa.heap.size, 0, none⟩) ly ly, .int .i64 a3, .int .i64 a4, .slice (some ⟨wr.heap.size, 0, none⟩) n n, .int .u8 a1, .int .u8 a2] 32) := ⟨_, rfl⟩
          rw [← hw3]
          have s2 := HSz.out
          have hW3 : Walk w3 w2.heap.size (.slice (some ⟨w.heap.size, 0, none⟩) lx lx) (.slice (some ⟨wa.heap.size, 0, none⟩) ly ly) (.int .i64 a3) (.int .i64 a4) (some ⟨wr.heap.size, 0, none⟩) n n a1 a2 := by rw [hw3]; exact heap_alloc_new _ _
          have hT3 : Todo w3 wr.heap.size n n K Y E := HT.out.same (by rw [hw3, Go.heap_alloc_old _ _ (by omega)])
          have hB3 : Below wr.heap.size wr w3 := by rw [hw3]; exact HB.out.alloc (by omega) _
          have hB3w : Below w.heap.size w w3 := HM2.out.below.trans (hB3.mono (by have := HM2.out.below.size; omega))
          have hz3 : w3.heap.size = wr.heap.size + 2 := by rw [hw3]; simp; omega
          have HW3 : Hid (Walk w3 w2.heap.size (.slice (some ⟨w.heap.size, 0, none⟩) lx lx) (.slice (some ⟨wa.heap.size, 0, none⟩) ly ly) (.int .i64 a3) (.int .i64 a4) (some ⟨wr.heap.size, 0, none⟩) n n a1 a2) := hW3
          have HT3 : Hid (Todo w3 wr.heap.size n n K Y E) := hT3
          have HB3 : Hid (Below w.heap.size w w3) := hB3w
          have HZ3 : Hid (w3.heap.size = wr.heap.size + 2) := hz3
          have HS2 : Hid (w2.heap.size = wr.heap.size + 1) := s2
          have hle : w.heap.size ≤ wr.heap.size := HM2.out.below.size
          clear hw3 s2 hW3 hT3 hB3 hB3w hz3 HT HSz HB HM HM2
          by_cases hn0 : n = 0
          · subst hn0
            refine (next_none w2.heap.size _ _ _ _ _ 0 a1 a2 w3 HW3.out).mono ?_
            rintro e w4 ⟨rfl, rfl⟩
            have y0 : w4.cell? ⟨w2.heap.size, 0, none⟩ = some (.slice (some ⟨w.heap.size, 0, none⟩) lx lx) := by rw [cell_of_row _ _ _ _ _ _ HW3.out]; rfl
            have y1 : w4.cell? ⟨w2.heap.size, 1, none⟩ = some (.slice (some ⟨wa.heap.size, 0, none⟩) ly ly) := by rw [cell_of_row _ _ _ _ _ _ HW3.out]; rfl
            have y2 : w4.cell? ⟨w2.heap.size, 2, none⟩ = some (.int .i64 a3) := by rw [cell_of_row _ _ _ _ _ _ HW3.out]; rfl
            have y3 : w4.cell? ⟨w2.heap.size, 3, none⟩ = some (.int .i64 a4) := by rw [cell_of_row _ _ _ _ _ _ HW3.out]; rfl
            have y4 := HW3.out.at4
            have y5 := HW3.out.at5
            have y6 := HW3.out.at6
            go_wp2
            go_ret
            exact ⟨rfl, HB3.out⟩
          · obtain ⟨p, hp⟩ : ∃ p, n = p + 1 := ⟨n - 1, by omega⟩
            subst hp
            refine (next_some w2.heap.size wr.heap.size p (p + 1) _ _ _ _ a1 a2 K Y E w3 (by omega) (by omega) HW3.out HT3.out).mono ?_
            rintro e w4 ⟨rfl, hN⟩
            have h4s := hN.size
            have hB4 : Below w.heap.size w w4 := HB3.out.trans ⟨hN.os, hN.tape, hN.output, by omega, fun k hk => hN.other k (by have := HZ3.out; omega) (by have := HS2.out; omega)⟩
            have hT4 : Todo w4 wr.heap.size (p + 1) (p + 1) K Y E := HT3.out.same (hN.other _ (by have := HZ3.out; omega) (by have := HS2.out; omega))
            have hW4 := hN.walk
            have hl4 : wr.heap.size + 2 ≤ w4.heap.size := by have := HZ3.out; omega
            have hs2' : w2.heap.size < w4.heap.size := by have := HS2.out; omega
            have al : ∀ (X : Obj) (bb oo : Nat), bb < w4.heap.size → (w4.alloc X).cell? ⟨bb, oo, none⟩ = w4.cell? ⟨bb, oo, none⟩ := fun X bb oo hb => World.cell?_of_block (Go.heap_alloc_old _ _ hb)
            have y0 : w4.cell? ⟨w2.heap.size, 0, none⟩ = some (.slice (some ⟨w.heap.size, 0, none⟩) lx lx) := by rw [cell_of_row _ _ _ _ _ _ hW4]; rfl
            have y1 : w4.cell? ⟨w2.heap.size, 1, none⟩ = some (.slice (some ⟨wa.heap.size, 0, none⟩) ly ly) := by rw [cell_of_row _ _ _ _ _ _ hW4]; rfl
            have y2 : w4.cell? ⟨w2.heap.size, 2, none⟩ = some (.int .i64 a3) := by rw [cell_of_row _ _ _ _ _ _ hW4]; rfl
            have y3 : w4.cell? ⟨w2.heap.size, 3, none⟩ = some (.int .i64 a4) := by rw [cell_of_row _ _ _ _ _ _ hW4]; rfl
            have y4 := fun X => (al X w2.heap.size 4 hs2').trans hW4.at4
            have y5 := fun X => (al X w2.heap.size 5 hs2').trans hW4.at5
            have y6 := fun X => (al X w2.heap.size 6 hs2').trans hW4.at6
            obtain ⟨bb, o, hao, hb, x0, x1, x2, g1, g2, g3, g4⟩ := HZ.out p (by omega)
            have x0' : w4.cell? ⟨bb, o + p * 3, none⟩ = some (.int .u8 (K p)) := by rw [hB4.cell (by exact hb)]; exact x0
            have x1' : w4.cell? ⟨bb, o + p * 3 + 1, none⟩ = some (.int .u8 (Y p)) := by rw [hB4.cell (by exact hb)]; exact x1
            have x2' : w4.cell? ⟨bb, o + p * 3 + 2, none⟩ = some (.bool (E p)) := by rw [hB4.cell (by exact hb)]; exact x2
            have HT5 : Hid (∀ X k, Todo ((w4.alloc X).drewN k) wr.heap.size (p + 1) (p + 1) K Y E) := fun X k => (hT4.same (w' := w4.alloc X) (Go.heap_alloc_old _ _ (by omega))).same rfl
            have HZ5 : Hid (∀ X k, Steps ((w4.alloc X).drewN k) ao (p + 1) K Y E) := fun X k => HZ.out.below (by
              have h := hB4.alloc (by have := hB4.size; omega) X
              exact ⟨h.os, h.tape, h.output, h.size, h.block⟩)
            have HB5 : Hid (∀ X k, Below w.heap.size w ((w4.alloc X).drewN k)) := fun X k => by
              have h := hB4.alloc (by have := hB4.size; omega) X
              exact ⟨h.os, h.tape, h.output, h.size, h.block⟩
            subst hao
            clear hN h4s hB4 hT4 hW4 hl4 al x0 x1 x2 hn0 HW3 HT3 HB3 HZ HZ2
            go_wp2_with fail
            have e0 : (E p == E p) = true := by simp
            have e1 : (K p == K p) = true := by simp
            have e2 : (Y p == Y p) = true := by simp
            go_quiet ((go_at_call 7; exact Calls.quiet_of (same_any _ p (p + 1) (p + 1) cap _ K Y E _ (by omega) (by omega) (HT5.out _ _) (HZ5.out _ _))))
            go_wp2
            go_ret
            exact ⟨rfl, HB5.out _ _⟩

set_option maxHeartbeats 400000 in
set_option maxRecDepth 100000 in
theorem step_long (ao xo yo : Option Addr) (n cap lx cx ly cy : Nat) (a1 a2 a3 a4 : Int) (w : World) (h : ¬ (n ≤ 1024 ∧ lx ≤ 1024 ∧ ly ≤ 1024)) :
    Calls Yba.prog 3 #[.slice ao n cap, .int .u8 a1, .int .u8 a2, .int .i64 a3, .int .i64 a4, .slice xo lx cx, .slice yo ly cy] w fun e w' => e = .returned (.bool true) ∧ Below w.heap.size w w' := by
  by_cases h1 : 1024 < n
  · have b1 : decide ((1024 : Int) < (n : Int)) = true := by simp; omega
    have b1' : (1024 : Int) < (n : Int) := by omega
    clear h
    go_enter Yba.func3, Yba.ntmps3
    go_wp2
    go_ret
    exact ⟨rfl, Below.refl _ _⟩
  · have b1 : decide ((1024 : Int) < (n : Int)) = false := by simp; omega
    have b1' : ¬ (1024 : Int) < (n : Int) := by omega
    by_cases h2 : 1024 < lx
    · have b2 : decide ((1024 : Int) < (lx : Int)) = true := by simp; omega
      have b2' : (1024 : Int) < (lx : Int) := by omega
      clear h
      go_enter Yba.func3, Yba.ntmps3
      go_wp2
      go_ret
      exact ⟨rfl, Below.refl _ _⟩
    · have b2 : decide ((1024 : Int) < (lx : Int)) = false := by simp; omega
      have b2' : ¬ (1024 : Int) < (lx : Int) := by omega
      have b3 : decide ((1024 : Int) < (ly : Int)) = true := by simp; omega
      have b3' : (1024 : Int) < (ly : Int) := by omega
      clear h
      go_enter Yba.func3, Yba.ntmps3
      go_wp2
      go_ret
      exact ⟨rfl, Below.refl _ _⟩

end Go.Proofs.Ybulkbwvy
