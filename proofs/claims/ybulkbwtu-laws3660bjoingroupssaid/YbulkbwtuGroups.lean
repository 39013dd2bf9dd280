/-
  THE PLAIN LAW OF join: no Go in sight.
-/
import Derived.Test.YbulkbwtuPlain
namespace Go.Proofs.Ybulkbwtu

/-- Every node's root is 'rt'; 'rk' falls along the parents. -/
structure Forest (U : List Int) (n : Nat) (rk rt : Nat → Nat) : Prop where
  len : U.length = n
  lt : ∀ v, v < n → rt v < n
  par : ∀ v, v < n → ∀ p : Nat, nth U v = (p : Int) → p < n ∧ rk p < rk v ∧ rt p = rt v
  top : ∀ v, v < n → nth U v < 0 → rt v = v
  root : ∀ v, v < n → nth U (rt v) < 0

theorem Forest.wf {U : List Int} {n : Nat} {rk rt : Nat → Nat} (h : Forest U n rk rt) : Wf U rk := by
  intro v hv hn
  rw [h.len] at hv ⊢
  have := h.par v hv (nth U v).toNat (by omega)
  exact ⟨this.1, this.2.1⟩

/-- Roots keep what they hold; the others stay children. -/
def Kept (U U' : List Int) : Prop := ∀ u, (nth U u < 0 → nth U' u = nth U u) ∧ (0 ≤ nth U u → 0 ≤ nth U' u)
theorem Kept.refl (U : List Int) : Kept U U := fun _ => ⟨fun _ => rfl, fun h => h⟩
theorem Kept.trans {U V W : List Int} (h : Kept U V) (h' : Kept V W) : Kept U W := fun u =>
  ⟨fun hn => by rw [(h' u).1 (by rw [(h u).1 hn]; exact hn), (h u).1 hn], fun hn => (h' u).2 ((h u).2 hn)⟩

theorem Forest.halve {U : List Int} {n : Nat} {rk rt : Nat → Nat} (h : Forest U n rk rt) {v p q : Nat} (hv : v < n) (hp : nth U v = (p : Int)) (hq : nth U p = (q : Int)) : Forest (U.set v (q : Int)) n rk rt ∧ Kept U (U.set v (q : Int)) := by
  obtain ⟨h1, h2, h3⟩ := h.par v hv p hp
  obtain ⟨h4, h5, h6⟩ := h.par p h1 q hq
  have hl : v < U.length := by rw [h.len]; exact hv
  refine ⟨⟨by rw [List.length_set]; exact h.len, h.lt, ?_, ?_, ?_⟩, ?_⟩
  · intro u hu r hr
    by_cases e : v = u
    · subst e
      rw [nth_set_same _ _ _ hl] at hr
      obtain rfl : q = r := by omega
      exact ⟨h4, by omega, by rw [h6, h3]⟩
    · rw [nth_set_other _ _ _ _ e] at hr
      exact h.par u hu r hr
  · intro u hu hn
    by_cases e : v = u
    · subst e
      rw [nth_set_same _ _ _ hl] at hn
      omega
    · rw [nth_set_other _ _ _ _ e] at hn
      exact h.top u hu hn
  · intro u hu
    have hr := h.root u hu
    rw [nth_set_other _ _ _ _ (fun e => by rw [← e, hp] at hr; omega)]
    exact hr
  · intro u
    by_cases e : v = u
    · subst e
      rw [nth_set_same _ _ _ hl, hp]
      exact ⟨fun hn => by omega, fun _ => by omega⟩
    · rw [nth_set_other _ _ _ _ e]
      exact ⟨fun _ => rfl, fun hn => hn⟩

theorem findA_root_is {n : Nat} {rk rt : Nat → Nat} : ∀ (f : Nat) (U : List Int) (v : Nat), Forest U n rk rt → v < n → rk v < f →
    (findA f U v).2 = rt v ∧ Forest (findA f U v).1 n rk rt ∧ Kept U (findA f U v).1 := by
  intro f
  induction f with
  | zero => intro U v _ _ h; omega
  | succ f ih =>
    intro U v h hv hf
    rcases Int.lt_or_le (nth U v) 0 with h1 | h1
    · rw [findA_root _ _ _ h1]
      exact ⟨(h.top v hv h1).symm, h, Kept.refl _⟩
    · obtain ⟨p, hp⟩ : ∃ p : Nat, nth U v = (p : Int) := ⟨(nth U v).toNat, by omega⟩
      obtain ⟨h3, h4, h5⟩ := h.par v hv p hp
      rcases Int.lt_or_le (nth U p) 0 with h2 | h2
      · rw [findA_child _ _ _ _ hp h2, ← h5]
        exact ih U p h h3 (by omega)
      · obtain ⟨q, hq⟩ : ∃ q : Nat, nth U p = (q : Int) := ⟨(nth U p).toNat, by omega⟩
        obtain ⟨h6, h7, h8⟩ := h.par p h3 q hq
        obtain ⟨g1, g2⟩ := h.halve hv hp hq
        rw [findA_deep _ _ _ _ _ hp hq, ← h5, ← h8]
        obtain ⟨k1, k2, k3⟩ := ih _ q g1 h6 (by omega)
        exact ⟨k1, k2, g2.trans k3⟩

/-! ### Sizes -/
def cnt (rt : Nat → Nat) (n r : Nat) : Nat := (List.range n).countP fun j => rt j == r
theorem cnt_succ (rt : Nat → Nat) (n r : Nat) : cnt rt (n + 1) r = cnt rt n r + if rt n = r then 1 else 0 := by
  simp [cnt, List.range_succ, List.countP_append, List.countP_cons]
theorem cnt_zero (rt : Nat → Nat) (r : Nat) : cnt rt 0 r = 0 := rfl
theorem cnt_le (rt : Nat → Nat) (n r : Nat) : cnt rt n r ≤ n := by
  have := List.countP_le_length (p := fun j => rt j == r) (l := List.range n)
  simpa [cnt] using this

def Sized (U : List Int) (n : Nat) (rt : Nat → Nat) : Prop := ∀ r, r < n → nth U r < 0 → nth U r = -(cnt rt n r : Int)
theorem Sized.kept {U U' : List Int} {n : Nat} {rt : Nat → Nat} (h : Sized U n rt) (hk : Kept U U') : Sized U' n rt := by
  intro r hr hn
  have h0 : nth U r < 0 := by
    rcases Int.lt_or_le (nth U r) 0 with h | h
    · exact h
    · have := (hk r).2 h; omega
  rw [(hk r).1 h0]; exact h r hr h0

/-! ### The link -/
def linkA (U : List Int) (x y : Nat) : List Int := (U.set x (nth U x + nth U y)).set y (x : Int)
def link (rt : Nat → Nat) (x y : Nat) (v : Nat) : Nat := if rt v = y then x else rt v

theorem nth_linkA_y (U : List Int) (x y : Nat) (hy : y < U.length) : nth (linkA U x y) y = (x : Int) := nth_set_same _ _ _ (by simpa using hy)
theorem nth_linkA_x (U : List Int) (x y : Nat) (hx : x < U.length) (hne : x ≠ y) : nth (linkA U x y) x = nth U x + nth U y := by
  unfold linkA; rw [nth_set_other _ _ _ _ (Ne.symm hne), nth_set_same _ _ _ hx]
theorem nth_linkA_other (U : List Int) (x y v : Nat) (h1 : v ≠ x) (h2 : v ≠ y) : nth (linkA U x y) v = nth U v := by
  unfold linkA; rw [nth_set_other _ _ _ _ (Ne.symm h2), nth_set_other _ _ _ _ (Ne.symm h1)]

theorem cnt_link_x (rt : Nat → Nat) (x y : Nat) (hne : x ≠ y) : ∀ n, cnt (link rt x y) n x = cnt rt n x + cnt rt n y
  | 0 => rfl
  | n + 1 => by
    rw [cnt_succ, cnt_succ, cnt_succ, cnt_link_x rt x y hne n]
    unfold link
    by_cases h1 : rt n = y
    · simp [h1, Ne.symm hne]; omega
    · by_cases h2 : rt n = x
      · simp [h2, hne]; omega
      · simp [h1, h2]
theorem cnt_link_other (rt : Nat → Nat) (x y r : Nat) (h1 : r ≠ x) (h2 : r ≠ y) : ∀ n, cnt (link rt x y) n r = cnt rt n r
  | 0 => rfl
  | n + 1 => by
    rw [cnt_succ, cnt_succ, cnt_link_other rt x y r h1 h2 n]
    unfold link
    by_cases h : rt n = y
    · simp [h, Ne.symm h1, Ne.symm h2]
    · simp [h]

theorem Forest.link {U : List Int} {n : Nat} {rk rt : Nat → Nat} (h : Forest U n rk rt) (hs : Sized U n rt) {x y : Nat} (hx : x < n) (hy : y < n) (hne : x ≠ y) (rx : nth U x < 0) (ry : nth U y < 0) :
    Forest (linkA U x y) n (fun v => if rt v = y then rk v + rk x + 1 else rk v) (Ybulkbwtu.link rt x y) ∧ Sized (linkA U x y) n (Ybulkbwtu.link rt x y) := by
  have tx := h.top x hx rx
  have ty := h.top y hy ry
  have lx : x < U.length := by rw [h.len]; exact hx
  have ly : y < U.length := by rw [h.len]; exact hy
  refine ⟨⟨by simp [linkA, h.len], ?_, ?_, ?_, ?_⟩, ?_⟩
  · intro v hv
    unfold Ybulkbwtu.link
    split
    · exact hx
    · exact h.lt v hv
  · intro v hv p hp
    by_cases e1 : v = y
    · subst e1
      rw [nth_linkA_y _ _ _ ly] at hp
      obtain rfl : x = p := by omega
      refine ⟨hx, ?_, ?_⟩
      · simp only [tx, ty, hne, if_true, if_false]; omega
      · unfold Ybulkbwtu.link; simp [tx, ty]
    · by_cases e2 : v = x
      · subst e2
        rw [nth_linkA_x _ _ _ lx hne] at hp; omega
      · rw [nth_linkA_other _ _ _ _ e2 e1] at hp
        obtain ⟨g1, g2, g3⟩ := h.par v hv p hp
        refine ⟨g1, ?_, ?_⟩
        · simp only [g3]
          split <;> omega
        · unfold Ybulkbwtu.link; rw [g3]
  · intro v hv hn
    by_cases e1 : v = y
    · subst e1
      rw [nth_linkA_y _ _ _ ly] at hn; omega
    · by_cases e2 : v = x
      · subst e2
        unfold Ybulkbwtu.link; rw [tx, if_neg hne]
      · rw [nth_linkA_other _ _ _ _ e2 e1] at hn
        have := h.top v hv hn
        unfold Ybulkbwtu.link; rw [this, if_neg e1]
  · intro v hv
    unfold Ybulkbwtu.link
    by_cases e : rt v = y
    · rw [if_pos e, nth_linkA_x _ _ _ lx hne]; omega
    · rw [if_neg e]
      by_cases e2 : rt v = x
      · rw [e2, nth_linkA_x _ _ _ lx hne]; omega
      · rw [nth_linkA_other _ _ _ _ e2 e]; exact h.root v hv
  · intro r hr hn
    by_cases e1 : r = y
    · subst e1
      rw [nth_linkA_y _ _ _ ly] at hn; omega
    · by_cases e2 : r = x
      · subst e2
        rw [nth_linkA_x _ _ _ lx hne, cnt_link_x rt r y hne, hs r hr rx, hs y hy ry]; omega
      · rw [nth_linkA_other _ _ _ _ e2 e1] at hn ⊢
        rw [cnt_link_other rt x y r e2 e1]; exact hs r hr hn

/-! ### join and the labels -/
def Joined (rt rt' : Nat → Nat) (a b : Nat) : Prop :=
  (rt a = rt b ∧ rt' = rt) ∨ (rt a ≠ rt b ∧ ∃ x y, ((x = rt a ∧ y = rt b) ∨ (x = rt b ∧ y = rt a)) ∧ rt' = link rt x y)

def Same (rt : Nat → Nat) (lab : List Int) (n : Nat) : Prop := ∀ i j, i < n → j < n → (rt i = rt j ↔ nth lab i = nth lab j)

def rl (la lb x : Int) : Int := if x = lb then la else x
/-- The labels, the first k of them turned. -/
def relab (lab : List Int) (n k : Nat) (la lb : Int) : List Int := (List.range n).map fun i => if i < k then rl la lb (nth lab i) else nth lab i

theorem relab_length (lab : List Int) (n k : Nat) (la lb : Int) : (relab lab n k la lb).length = n := by simp [relab]
theorem nth_relab (lab : List Int) (n k : Nat) (la lb : Int) (i : Nat) (hi : i < n) : nth (relab lab n k la lb) i = if i < k then rl la lb (nth lab i) else nth lab i := by simp [relab, nth, List.getD, hi]
theorem relab_zero (lab : List Int) (n : Nat) (la lb : Int) (h : lab.length = n) : relab lab n 0 la lb = lab := by
  apply ext_nth (by rw [relab_length, h])
  intro j hj
  rw [relab_length] at hj
  rw [nth_relab _ _ _ _ _ _ hj, if_neg (by omega)]
theorem relab_set (lab : List Int) (n k : Nat) (la lb : Int) (h : nth lab k = lb) : (relab lab n k la lb).set k la = relab lab n (k + 1) la lb := by
  apply ext_nth (by simp [relab_length])
  intro j hj
  rw [List.length_set, relab_length] at hj
  by_cases e : k = j
  · subst e
    rw [nth_set_same _ _ _ (by rw [relab_length]; exact hj), nth_relab _ _ _ _ _ _ hj, if_pos (by omega), h, rl, if_pos rfl]
  · rw [nth_set_other _ _ _ _ e, nth_relab _ _ _ _ _ _ hj, nth_relab _ _ _ _ _ _ hj]
    by_cases h : j < k
    · rw [if_pos h, if_pos (by omega)]
    · rw [if_neg h, if_neg (by omega)]
theorem relab_skip (lab : List Int) (n k : Nat) (la lb : Int) (h : nth lab k ≠ lb) : relab lab n k la lb = relab lab n (k + 1) la lb := by
  apply ext_nth (by simp [relab_length])
  intro j hj
  rw [relab_length] at hj
  rw [nth_relab _ _ _ _ _ _ hj, nth_relab _ _ _ _ _ _ hj]
  by_cases e : k = j
  · subst e
    rw [if_neg (by omega), if_pos (by omega), rl, if_neg h]
  · by_cases h : j < k
    · rw [if_pos h, if_pos (by omega)]
    · rw [if_neg h, if_neg (by omega)]

theorem same_joined {rt rt' : Nat → Nat} {lab : List Int} {n a b : Nat} (h : Same rt lab n) (hj : Joined rt rt' a b) (ha : a < n) (hb : b < n) : Same rt' (relab lab n n (nth lab a) (nth lab b)) n := by
  intro i j hi hj'
  rw [nth_relab _ _ _ _ _ _ hi, nth_relab _ _ _ _ _ _ hj', if_pos hi, if_pos hj']
  have hij := h i j hi hj'
  have hia := h i a hi ha
  have hib := h i b hi hb
  have hja := h j a hj' ha
  have hjb := h j b hj' hb
  have hab := h a b ha hb
  unfold rl
  rcases hj with ⟨e, rfl⟩ | ⟨e, x, y, hxy, rfl⟩
  · have e2 := hab.1 e
    rw [← e2]
    have : ∀ t : Int, (if t = nth lab a then nth lab a else t) = t := fun t => by split <;> simp_all
    rw [this, this]; exact hij
  · have e2 : ¬ nth lab a = nth lab b := fun q => e (hab.2 q)
    unfold link
    rcases hxy with ⟨rfl, rfl⟩ | ⟨rfl, rfl⟩
    · by_cases i1 : rt i = rt b <;> by_cases j1 : rt j = rt b
      · rw [if_pos i1, if_pos j1, if_pos (hib.1 i1), if_pos (hjb.1 j1)]; simp
      · rw [if_pos i1, if_neg j1, if_pos (hib.1 i1), if_neg (fun q => j1 (hjb.2 q))]
        constructor
        · intro q; exact (hja.1 q.symm).symm
        · intro q; exact (hja.2 q.symm).symm
      · rw [if_neg i1, if_pos j1, if_neg (fun q => i1 (hib.2 q)), if_pos (hjb.1 j1)]; exact hia
      · rw [if_neg i1, if_neg j1, if_neg (fun q => i1 (hib.2 q)), if_neg (fun q => j1 (hjb.2 q))]; exact hij
    · by_cases i1 : rt i = rt b <;> by_cases j1 : rt j = rt b
      · rw [if_pos (hib.1 i1), if_pos (hjb.1 j1), i1, j1]; simp
      · rw [if_pos (hib.1 i1), if_neg (fun q => j1 (hjb.2 q)), i1, if_neg (Ne.symm e)]
        by_cases j2 : rt j = rt a
        · rw [if_pos j2]; simp [hja.1 j2]
        · rw [if_neg j2]
          constructor
          · intro q; exact absurd q.symm j1
          · intro q; exact absurd (hja.2 q.symm) j2
      · rw [if_neg (fun q => i1 (hib.2 q)), if_pos (hjb.1 j1), j1, if_neg (Ne.symm e)]
        by_cases i2 : rt i = rt a
        · rw [if_pos i2]; simp [hia.1 i2]
        · rw [if_neg i2]
          constructor
          · intro q; exact absurd q i1
          · intro q; exact absurd (hia.2 q) i2
      · rw [if_neg (fun q => i1 (hib.2 q)), if_neg (fun q => j1 (hjb.2 q))]
        by_cases i2 : rt i = rt a <;> by_cases j2 : rt j = rt a
        · rw [if_pos i2, if_pos j2]; simp [hia.1 i2, hja.1 j2]
        · rw [if_pos i2, if_neg j2]
          constructor
          · intro q; exact absurd q.symm j1
          · intro q; exact absurd (hja.2 (q.symm.trans (hia.1 i2))) j2
        · rw [if_neg i2, if_pos j2]
          constructor
          · intro q; exact absurd q i1
          · intro q; exact absurd (hia.2 (q.trans (hja.1 j2))) i2
        · rw [if_neg i2, if_neg j2]; exact hij

end Go.Proofs.Ybulkbwtu
