import Derived.Test.YbulkbwtuRows
import Derived.Test.YbulkbwtuPlain
import Derived.WalkKit
import Derived.WalkSpells
import Derived.WalkLawsBesides
import Derived.Deep.QuietTactic
import Derived.BigQuiet
import Derived.RegionTactic
import Derived.Handy
namespace Go.Proofs.Ybulkbwtu
open Go.RowKit

/-- A row of int32. -/
def i32s (L : List Int) : Array Value := (L.map (Value.int .i32)).toArray
def HasRow (w : World) (g : Nat) (L : List Int) : Prop := w.heap[g]? = some (.cells (i32s L) 21 (0, 0))

theorem HasRow.cell {w : World} {g : Nat} {L : List Int} (h : HasRow w g L) (j : Nat) (hj : j < L.length) : w.cell? ⟨g, j, none⟩ = some (.int .i32 (nth L j)) := by
  rw [cell_of_row w g j _ _ _ h]
  simp [i32s, nth_get L j hj]
theorem HasRow.free {w : World} {g : Nat} {L : List Int} (h : HasRow w g L) (j : Nat) : w.frozen? ⟨g, j, none⟩ = false := frozen_of_row w g j _ _ h
theorem HasRow.set {w : World} {g : Nat} {L : List Int} (h : HasRow w g L) (j : Nat) (x : Int) : HasRow (w.setCell ⟨g, j, none⟩ (.int .i32 x)) g (L.set j x) := by
  unfold HasRow
  rw [heap_setCell_same w g j _ _ _ h]
  simp [i32s]
theorem HasRow.lt {w : World} {g : Nat} {L : List Int} (h : HasRow w g L) : g < w.heap.size := (Array.getElem?_eq_some_iff.1 h).1

/-- Only the row g may have turned; nothing new. -/
structure Turned (w w' : World) (g : Nat) : Prop where
  os : w'.os = w.os
  tape : w'.tape = w.tape
  output : w'.output = w.output
  size : w'.heap.size = w.heap.size
  other : ∀ k, k ≠ g → w'.heap[k]? = w.heap[k]?

theorem Turned.refl (w : World) (g : Nat) : Turned w w g := ⟨rfl, rfl, rfl, rfl, fun _ _ => rfl⟩
theorem Turned.trans {w w' w'' : World} {g : Nat} (h : Turned w w' g) (h' : Turned w' w'' g) : Turned w w'' g :=
  ⟨h'.os.trans h.os, h'.tape.trans h.tape, h'.output.trans h.output, h'.size.trans h.size, fun k hk => (h'.other k hk).trans (h.other k hk)⟩
theorem Turned.store (w : World) (g j : Nat) (x : Value) : Turned w (w.setCell ⟨g, j, none⟩ x) g :=
  ⟨rfl, rfl, rfl, by simp, fun k hk => heap_setCell_other _ _ _ _ hk⟩
theorem Turned.drew {w w' : World} {g : Nat} (h : Turned w w' g) (n : Nat) : Turned w (w'.drewN n) g := ⟨h.os, h.tape, h.output, h.size, h.other⟩

set_option maxHeartbeats 400000 in
theorem find_any (rk : Nat → Nat) (g n v f : Nat) (L : List Int) (w : World) (hL : L.length = n) (hv : v < n) (hw : Wf L rk) (hf : rk v < f) (hr : HasRow w g L) :
    Calls Yba.prog 6 #[.slice (some ⟨g, 0, none⟩) n n, .int .i32 (v : Int)] w fun e w' => e = .returned (.int .i32 ((findA f L v).2 : Int)) ∧ HasRow w' g (findA f L v).1 ∧ Turned w w' g := by
  obtain ⟨T, hT⟩ : ∃ T, T = findA f L v := ⟨_, rfl⟩
  have HT : Hid (T = findA f L v) := hT
  rw [← hT]
  have HL : Hid (L.length = n) := hL
  have HR : Hid (HasRow w g L) := hr
  clear hT hL hr
  go_enter Yba.func6, Yba.ntmps6
  go_wp2
  go_loopw [1] (fun s wr => ∃ (u f' : Nat) (M : List Int), s = .int .i32 (u : Int) ∧ u < n ∧ M.length = n ∧ Wf M rk ∧ rk u < f' ∧ findA f' M u = T ∧ HasRow wr g M ∧ Turned w wr g) (fun s _ => rk (intOf s).toNat)
  case atStart => exact ⟨v, f, L, rfl, hv, HL.out, hw, hf, HT.out.symm, HR.out, Turned.refl _ _⟩
  case round =>
    obtain ⟨u, f', M, rfl, hu, hM, hwM, hf', hfin, hrM, htu⟩ := hrel
    have c1 := hrM.cell u (by omega)
    have HM : Hid (M.length = n) := hM
    have HFin : Hid (findA f' M u = T) := hfin
    have HRM : Hid (HasRow wr g M) := hrM
    clear hM hfin
    obtain ⟨f2, rfl⟩ : ∃ f2, f' = f2 + 1 := ⟨f' - 1, by omega⟩
    rcases Int.lt_or_le (nth M u) 0 with h1 | h1
    · go_wp2
      go_ret
      have e := HFin.out
      rw [findA_root _ _ _ h1] at e
      subst e
      exact ⟨rfl, HRM.out, htu⟩
    · obtain ⟨p, hp⟩ : ∃ p : Nat, nth M u = (p : Int) := ⟨(nth M u).toNat, by omega⟩
      obtain ⟨h3, h4⟩ := hwM.par (by rw [HM.out]; exact hu) hp
      have hpn : p < n := by rw [HM.out] at h3; exact h3
      have c2 := hrM.cell p h3
      have f1 := hrM.free u
      rcases Int.lt_or_le (nth M p) 0 with h2 | h2
      · go_wp2
        refine ⟨⟨p, f2, M, rfl, hpn, HM.out, hwM, by omega, ?_, HRM.out, htu⟩, by simpa [intOf] using h4⟩
        rw [← findA_child _ _ _ _ hp h2]; exact HFin.out
      · obtain ⟨q, hq⟩ : ∃ q : Nat, nth M p = (q : Int) := ⟨(nth M p).toNat, by omega⟩
        obtain ⟨h5, h6⟩ := hwM.par h3 hq
        have hqn : q < n := by rw [HM.out] at h5; exact h5
        have hwS := hwM.halve (by rw [HM.out]; exact hu) hp hq
        have HS : Hid (Wf (M.set u (q : Int)) rk) := hwS
        clear hwS h5
        go_wp2
        refine ⟨⟨q, f2, M.set u (q : Int), rfl, hqn, by rw [List.length_set]; exact HM.out, HS.out, by omega, ?_, HRM.out.set u q, htu.trans (Turned.store _ _ _ _)⟩, ?_⟩
        · rw [← findA_deep _ _ _ _ _ hp hq]; exact HFin.out
        · show rk (q : Int).toNat < rk (u : Int).toNat
          rw [Int.toNat_natCast, Int.toNat_natCast]; omega

end Go.Proofs.Ybulkbwtu
