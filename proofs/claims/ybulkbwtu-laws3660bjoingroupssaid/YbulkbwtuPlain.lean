/-
  THE PLAIN LAW OF find: no Go in sight. An array of numbers: at a root a number below 0, else the parent.
-/
namespace Go.Proofs.Ybulkbwtu

/-- The number at place j. -/
def nth (L : List Int) (j : Nat) : Int := L.getD j 0

theorem nth_eq (L : List Int) (j : Nat) : nth L j = (L[j]?).getD 0 := rfl
theorem nth_get (L : List Int) (j : Nat) (h : j < L.length) : L[j]? = some (nth L j) := by
  simp [nth, List.getD, h]
theorem nth_set_same (L : List Int) (j : Nat) (x : Int) (h : j < L.length) : nth (L.set j x) j = x := by
  simp [nth, List.getD, h]
theorem nth_set_other (L : List Int) (i j : Nat) (x : Int) (h : i ≠ j) : nth (L.set i x) j = nth L j := by
  simp [nth, List.getD, h]
theorem ext_nth {L M : List Int} (h : L.length = M.length) (h2 : ∀ j, j < L.length → nth L j = nth M j) : L = M := by
  apply List.ext_getElem?
  intro j
  by_cases hj : j < L.length
  · rw [nth_get L j hj, nth_get M j (by omega), h2 j hj]
  · rw [List.getElem?_eq_none (by omega), List.getElem?_eq_none (by omega)]

/-- Every parent is a place, and lies nearer to its root (by the measure rk). -/
def Wf (L : List Int) (rk : Nat → Nat) : Prop := ∀ v, v < L.length → 0 ≤ nth L v → (nth L v).toNat < L.length ∧ rk (nth L v).toNat < rk v

/-- What find does: the array behind it, and the root. -/
def findA : Nat → List Int → Nat → List Int × Nat
  | 0, L, v => (L, v)
  | f + 1, L, v =>
    if nth L v < 0 then (L, v)
    else if nth L (nth L v).toNat < 0 then findA f L (nth L v).toNat
    else findA f (L.set v (nth L (nth L v).toNat)) (nth L (nth L v).toNat).toNat

theorem findA_root (f : Nat) (L : List Int) (v : Nat) (h : nth L v < 0) : findA (f + 1) L v = (L, v) := by simp [findA, h]
theorem findA_child (f : Nat) (L : List Int) (v p : Nat) (h : nth L v = (p : Int)) (hp : nth L p < 0) : findA (f + 1) L v = findA f L p := by
  simp only [findA, h, Int.toNat_natCast, hp, if_true]
  rw [if_neg (by omega)]
theorem findA_deep (f : Nat) (L : List Int) (v p q : Nat) (h : nth L v = (p : Int)) (hp : nth L p = (q : Int)) : findA (f + 1) L v = findA f (L.set v (q : Int)) q := by
  simp only [findA, h, Int.toNat_natCast, hp]
  rw [if_neg (by omega), if_neg (by omega)]

theorem Wf.par {L : List Int} {rk : Nat → Nat} (h : Wf L rk) {v p : Nat} (hv : v < L.length) (hp : nth L v = (p : Int)) : p < L.length ∧ rk p < rk v := by
  have := h v hv (by omega)
  rw [hp, Int.toNat_natCast] at this
  exact this

/-- Halving keeps the order. -/
theorem Wf.halve {L : List Int} {rk : Nat → Nat} (h : Wf L rk) {v p q : Nat} (hv : v < L.length) (hp : nth L v = (p : Int)) (hq : nth L p = (q : Int)) : Wf (L.set v (q : Int)) rk := by
  obtain ⟨h1, h2⟩ := h.par hv hp
  obtain ⟨h3, h4⟩ := h.par h1 hq
  intro u hu hn
  rw [List.length_set] at hu ⊢
  by_cases e : v = u
  · subst e
    rw [nth_set_same L v _ hv, Int.toNat_natCast]
    exact ⟨h3, by omega⟩
  · rw [nth_set_other L v u _ e] at hn ⊢
    exact h u hu hn

/-! ### The path and its halving -/
def pathOf : Nat → List Int → Nat → List Nat
  | 0, _, v => [v]
  | f + 1, L, v => if nth L v < 0 then [v] else v :: pathOf f L (nth L v).toNat

theorem pathOf_root (f : Nat) (L : List Int) (v : Nat) (h : nth L v < 0) : pathOf f L v = [v] := by
  cases f with
  | zero => rfl
  | succ f => simp [pathOf, h]
theorem pathOf_child (f : Nat) (L : List Int) (v p : Nat) (h : nth L v = (p : Int)) : pathOf (f + 1) L v = v :: pathOf f L p := by
  simp only [pathOf, h, Int.toNat_natCast]
  rw [if_neg (by omega)]

theorem pathOf_fuel {rk : Nat → Nat} : ∀ (f : Nat) (L : List Int) (v : Nat) (f' : Nat), Wf L rk → v < L.length → rk v ≤ f → rk v ≤ f' → pathOf f L v = pathOf f' L v := by
  intro f
  induction f with
  | zero =>
    intro L v f' hw hv h1 h2
    have : nth L v < 0 := by
      rcases Int.lt_or_le (nth L v) 0 with h | h
      · exact h
      · have := (hw v hv h).2; omega
    rw [pathOf_root _ _ _ this, pathOf_root _ _ _ this]
  | succ f ih =>
    intro L v f' hw hv h1 h2
    rcases Int.lt_or_le (nth L v) 0 with h | h
    · rw [pathOf_root _ _ _ h, pathOf_root _ _ _ h]
    · obtain ⟨p, hp⟩ : ∃ p : Nat, nth L v = (p : Int) := ⟨(nth L v).toNat, by omega⟩
      obtain ⟨h3, h4⟩ := hw.par hv hp
      obtain ⟨f2, rfl⟩ : ∃ f2, f' = f2 + 1 := ⟨f' - 1, by omega⟩
      rw [pathOf_child _ _ _ _ hp, pathOf_child _ _ _ _ hp, ih L p f2 hw h3 (by omega) (by omega)]

/-- The path does not see what is written at a place that lies farther from the root. -/
theorem pathOf_set {rk : Nat → Nat} : ∀ (f : Nat) (L : List Int) (v u : Nat) (x : Int), Wf L rk → v < L.length → rk v < rk u → pathOf f (L.set u x) v = pathOf f L v := by
  intro f
  induction f with
  | zero => intro L v u x _ _ _; rfl
  | succ f ih =>
    intro L v u x hw hv h
    have hne : u ≠ v := by intro e; subst e; omega
    have e := nth_set_other L u v x hne
    rcases Int.lt_or_le (nth L v) 0 with h1 | h1
    · rw [pathOf_root _ _ _ h1, pathOf_root _ _ _ (by rw [e]; exact h1)]
    · obtain ⟨p, hp⟩ : ∃ p : Nat, nth L v = (p : Int) := ⟨(nth L v).toNat, by omega⟩
      obtain ⟨h3, h4⟩ := hw.par hv hp
      rw [pathOf_child _ _ _ _ hp, pathOf_child _ _ _ _ (by rw [e]; exact hp), ih L p u x hw h3 (by omega)]

/-- The nodes at even places of the path point to their grandparents. -/
def halved : List Nat → List Int → List Int
  | a :: _ :: c :: r, L => halved (c :: r) (L.set a (c : Int))
  | _, L => L

theorem pathOf_head (f : Nat) (L : List Int) (v : Nat) : ∃ r, pathOf f L v = v :: r := by
  cases f with
  | zero => exact ⟨[], rfl⟩
  | succ f =>
    simp only [pathOf]
    split
    · exact ⟨[], rfl⟩
    · exact ⟨_, rfl⟩

theorem findA_exact {rk : Nat → Nat} : ∀ (f : Nat) (L : List Int) (v : Nat), Wf L rk → v < L.length → rk v < f → findA f L v = (halved (pathOf f L v) L, (pathOf f L v).getLastD 0) := by
  intro f
  induction f with
  | zero => intro L v _ _ h; omega
  | succ f ih =>
    intro L v hw hv hf
    rcases Int.lt_or_le (nth L v) 0 with h1 | h1
    · rw [findA_root _ _ _ h1, pathOf_root _ _ _ h1]; rfl
    · obtain ⟨p, hp⟩ : ∃ p : Nat, nth L v = (p : Int) := ⟨(nth L v).toNat, by omega⟩
      obtain ⟨h3, h4⟩ := hw.par hv hp
      obtain ⟨g, rfl⟩ : ∃ g, f = g + 1 := ⟨f - 1, by omega⟩
      rcases Int.lt_or_le (nth L p) 0 with h2 | h2
      · rw [findA_child _ _ _ _ hp h2, findA_root _ _ _ h2, pathOf_child _ _ _ _ hp, pathOf_root _ _ _ h2]; rfl
      · obtain ⟨q, hq⟩ : ∃ q : Nat, nth L p = (q : Int) := ⟨(nth L p).toNat, by omega⟩
        obtain ⟨h5, h6⟩ := hw.par h3 hq
        have hw' := hw.halve hv hp hq
        have e := ih (L.set v (q : Int)) q hw' (by simpa using h5) (by omega)
        rw [pathOf_set (g + 1) L q v _ hw h5 (by omega), pathOf_fuel (g + 1) L q g hw h5 (by omega) (by omega)] at e
        rw [findA_deep _ _ _ _ _ hp hq, e, pathOf_child _ _ _ _ hp, pathOf_child _ _ _ _ hq]
        obtain ⟨r, hr⟩ := pathOf_head g L q
        rw [hr]
        rfl

end Go.Proofs.Ybulkbwtu
