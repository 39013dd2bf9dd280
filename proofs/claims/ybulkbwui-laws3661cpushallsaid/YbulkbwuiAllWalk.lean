import Derived.Test.YbulkbwuiPush
namespace Go.Proofs.Ybulkbwui
open Go.RowKit

/-! ### Plain: the capacities 0, 1, 3, 7, .. -/
def seqc : Nat → Nat
  | 0 => 0
  | j + 1 => 2 * seqc j + 1
/-- c is the least of them that is not below n. -/
def IsCap (c n : Nat) : Prop := n ≤ c ∧ ∃ j, c = seqc j ∧ ∀ i, i < j → seqc i < n
theorem isCap_zero : IsCap 0 0 := ⟨Nat.le_refl _, 0, rfl, fun _ hi => absurd hi (Nat.not_lt_zero _)⟩
theorem IsCap.step {c k : Nat} (h : IsCap c k) : IsCap (if k = c then 2 * k + 1 else c) (k + 1) := by
  obtain ⟨h1, j, rfl, h2⟩ := h
  by_cases e : k = seqc j
  · rw [if_pos e]
    refine ⟨by omega, j + 1, by rw [seqc, e], fun i hi => ?_⟩
    by_cases h : i = j
    · subst h; omega
    · have := h2 i (by omega); omega
  · rw [if_neg e]
    exact ⟨by omega, j, rfl, fun i hi => by have := h2 i hi; omega⟩
theorem IsCap.unique {c c' n : Nat} (h : IsCap c n) (h' : IsCap c' n) : c = c' := by
  obtain ⟨h1, j, rfl, h2⟩ := h
  obtain ⟨h3, j', rfl, h4⟩ := h'
  rcases Nat.lt_trichotomy j j' with hlt | rfl | hlt
  · have := h4 j hlt; omega
  · rfl
  · have := h2 j' hlt; omega
theorem IsCap.le {c n : Nat} (h : IsCap c n) : c ≤ 2 * n + 1 := by
  obtain ⟨_, j, rfl, h2⟩ := h
  cases j with
  | zero => simp [seqc]
  | succ j => have := h2 j (Nat.lt_succ_self _); simp only [seqc]; omega

/-- k items are pushed. -/
structure Filled (w wr : World) (z : List Int) (k c : Nat) (ao : Option Addr) (L : List Int) : Prop where
  st : Stack wr w.heap.size k c ao L
  cap : IsCap c k
  eq : ∀ i, i < k → nth L i = nth z i
  below : Below w.heap.size w wr
  hi : ∀ g, ao = some ⟨g, 0, none⟩ → w.heap.size ≤ g

theorem Filled.start (w : World) (z : List Int) : Filled w (w.alloc (.cells #[.slice none 0 0] 22)) z 0 0 none [] :=
  ⟨⟨heap_alloc_new _ _, Nat.le_refl _, rfl, fun h => absurd h (Nat.lt_irrefl _)⟩, isCap_zero, fun _ hi => absurd hi (Nat.not_lt_zero _), (Below.refl _ _).alloc (Nat.le_refl _) _, fun g h => by cases h⟩

theorem Filled.step {w wr w' : World} {z : List Int} {k c : Nat} {ao : Option Addr} {L : List Int} (h : Filled w wr z k c ao L) {g c' : Nat} {L' : List Int} (hP : Pushed wr w' w.heap.size g (k + 1) c' L') (hl : L'.length = c') (hlo : ∀ i, i < k → nth L' i = nth L i) (hv : nth L' k = nth z k)
    (hc : c' = (if k = c then 2 * k + 1 else c)) (hn : k + 1 ≤ c') (hne : g ≠ w.heap.size) (hg : g = wr.heap.size ∨ ao = some ⟨g, 0, none⟩) : Filled w w' z (k + 1) c' (some ⟨g, 0, none⟩) L' := by
  have hgH : w.heap.size ≤ g := by
    rcases hg with rfl | hg
    · exact h.below.size
    · exact h.hi g hg
  refine ⟨⟨hP.cell, hn, hl, fun _ => ⟨g, rfl, hne, hP.row⟩⟩, by rw [hc]; exact h.cap.step, fun i hi => ?_, h.below.trans ⟨hP.os, hP.tape, hP.output, hP.size, fun b hb => hP.other b (by have := h.below.size; omega) (by omega) (by omega)⟩, fun g' hg' => by simp at hg'; omega⟩
  by_cases e : i = k
  · subst e; exact hv
  · rw [hlo i (by omega), h.eq i (by omega)]

set_option maxHeartbeats 400000 in
set_option maxRecDepth 100000 in
theorem all_walk (ao : Option Addr) (n cap : Nat) (z : List Int) (w : World) (hn : n ≤ 1024) (hz : Ints .i64 w ao n z) :
    Calls Yba.prog 4 #[.slice ao n cap] w fun e w' => e = .returned (.bool true) ∧ Below w.heap.size w w' := by
  have HZ : Hid (Ints .i64 w ao n z) := hz
  clear hz
  go_enter Yba.func4, Yba.ntmps4
  go_wp2_with fail
  go_loopw [4] (fun s wr => ∃ (k c : Nat) (bo : Option Addr) (L : List Int), k ≤ n ∧ s = .int .i64 (k : Int) ∧ Filled w wr z k c bo L) (fun s _ => n - (intOf s).toNat)
  case atStart => exact ⟨0, 0, none, [], Nat.zero_le _, rfl, Filled.start w z⟩
  case round =>
    obtain ⟨k, c, bo, L, hk, rfl, hF⟩ := hrel
    have HF : Hid (Filled w wr z k c bo L) := hF
    clear hF
    by_cases hkn : k < n
    · obtain ⟨b, o, hao, hb, x0⟩ := HZ.out k hkn
      subst hao
      have x1 : wr.cell? ⟨b, o + k, none⟩ = some (.int .i64 (nth z k)) := by rw [HF.out.below.cell (by exact hb)]; exact x0
      have i1 : (k : Int) < (n : Int) := by omega
      clear x0
      go_wp2_with fail
      refine (push_any _ k c bo (nth z k) L wr HF.out.st (by have := HF.out.cap.le; omega)).mono ?_
      rintro e w2 ⟨rfl, g, c', L', hP, hl', hlo, hv', hc', hn', hgs, hg⟩
      have HF2 : Hid (Filled w w2 z (k + 1) c' (some ⟨g, 0, none⟩) L') := HF.out.step hP hl' hlo hv' hc' hn' hgs hg
      clear hP hl' hlo hv' hc' hn' hgs hg
      go_wp2
      exact ⟨⟨k + 1, c', _, L', by omega, by go_num, HF2.out⟩, by simp [intOf]; omega⟩
    · have i1 : ¬ (k : Int) < (n : Int) := by omega
      obtain rfl : n = k := by omega
      clear hkn hk
      have d0 : wr.cell? ⟨w.heap.size, 0, none⟩ = some (.slice bo n c) := by rw [cell_of_row _ _ _ _ _ _ HF.out.st.var]; rfl
      obtain ⟨wa, rfl⟩ : ∃ wa : World, wa = wr := ⟨_, rfl⟩
      go_wp2_with fail
      clear i1
      go_loopw [5] (fun s wx => ∃ (i nd : Nat), s = .int .i64 (i : Int) ∧ i ≤ n ∧ wx = wa.drewN nd) (fun s _ => n - (intOf s).toNat)
      case atStart => exact ⟨0, 0, rfl, Nat.zero_le _, rfl⟩
      case round =>
        obtain ⟨i, nd, rfl, hin, rfl⟩ := hrel
        by_cases hi2 : i < n
        · obtain ⟨b, o, hao, hb, x0⟩ := HZ.out i hi2
          subst hao
          have x1 : wa.cell? ⟨b, o + i, none⟩ = some (.int .i64 (nth z i)) := by rw [HF.out.below.cell (by exact hb)]; exact x0
          have hle := HF.out.st.le
          obtain ⟨g, hbo, _, hrow⟩ := HF.out.st.row (by omega)
          subst hbo
          have x2 : wa.cell? ⟨g, i, none⟩ = some (.int .i64 (nth z i)) := by rw [hrow.cell i (by rw [HF.out.st.len]; omega), HF.out.eq i hi2]
          have i5 : (i : Int) < (n : Int) := by omega
          clear x0 hrow
          go_wp2
          go_quiet (fail)
          go_wp2
          exact ⟨⟨i + 1, _, by go_num, by omega, rfl⟩, by simp [intOf]; omega⟩
        · have i5 : ¬ (i : Int) < (n : Int) := by omega
          have hcl := HF.out.cap.le
          go_wp2_with fail
          go_loop [6] (fun s => ∃ j : Nat, s = .int .i64 (seqc j : Int) ∧ (∀ t, t < j → seqc t < n) ∧ seqc j ≤ 5000) (fun s => 10000 - (intOf s).toNat)
          case atStart => exact ⟨0, rfl, fun t ht => absurd ht (Nat.not_lt_zero _), by simp [seqc]⟩
          case round =>
            obtain ⟨j, rfl, hjt, hj5⟩ := hrel
            have HJ : Hid (∀ t, t < j → seqc t < n) := hjt
            clear hjt
            by_cases hjn : seqc j < n
            · have i6 : (seqc j : Int) < (n : Int) := by omega
              go_wp2
              refine ⟨⟨j + 1, by simp only [seqc]; go_num, fun t ht => ?_, by simp only [seqc]; omega⟩, by simp [intOf]; omega⟩
              by_cases e : t = j
              · subst e; exact hjn
              · exact HJ.out t (by omega)
            · have i6 : ¬ (seqc j : Int) < (n : Int) := by omega
              obtain rfl : c = seqc j := HF.out.cap.unique ⟨by omega, j, rfl, HJ.out⟩
              go_wp2
              go_ret
              exact ⟨rfl, ⟨HF.out.below.os, HF.out.below.tape, HF.out.below.output, HF.out.below.size, HF.out.below.block⟩⟩

set_option maxHeartbeats 400000 in
set_option maxRecDepth 100000 in
theorem all_long (ao : Option Addr) (n cap : Nat) (w : World) (hn : 1024 < n) :
    Calls Yba.prog 4 #[.slice ao n cap] w fun e w' => e = .returned (.bool true) ∧ Below w.heap.size w w' := by
  have b1 : (1024 : Int) < (n : Int) := by omega
  go_enter Yba.func4, Yba.ntmps4
  go_wp2
  go_ret
  exact ⟨rfl, Below.refl _ _⟩

end Go.Proofs.Ybulkbwui
