import Derived.Test.YbulkbwtuForest
import Derived.WideShapes
namespace Go.Proofs.Ybulkbwtu
open Go.RowKit

/-! ### Plain: the path -/
def nthN (P : List Nat) (j : Nat) : Nat := P.getD j 0
def vals (P : List Nat) : List Value := P.map fun (x : Nat) => Value.int .i32 (x : Int)

theorem vals_at (P : List Nat) (j : Nat) (h : j < P.length) : (vals P)[j]? = some (.int .i32 (nthN P j : Int)) := by
  simp [vals, nthN, List.getD, h]
theorem fo_neg_or (z : List Int) (i : Nat) : fo z i < 0 ∨ (0 ≤ fo z i ∧ fo z i < (i : Int)) := by
  unfold fo
  split
  · rename_i h
    split
    · exact .inl (by omega)
    · exact .inl (by omega)
  · rename_i h
    have h1 : ¬ nth z i < 0 := fun e => h (.inl e)
    have h2 : ¬ i = 0 := fun e => h (.inr e)
    exact .inr ⟨Int.emod_nonneg _ (by omega), Int.emod_lt_of_pos _ (by omega)⟩
theorem foL_wf (z : List Int) (n : Nat) : Wf (foL z n n) id := by
  intro v hv hn
  rw [foL_length] at hv ⊢
  rw [nth_foL _ _ _ _ hv, if_pos hv] at hn ⊢
  rcases fo_neg_or z v with h | h
  · omega
  · simp only [id]; omega
theorem pathOf_length : ∀ (f : Nat) (L : List Int) (v : Nat), (pathOf f L v).length ≤ f + 1
  | 0, _, _ => by simp [pathOf]
  | f + 1, L, v => by
    simp only [pathOf]
    split
    · simp
    · have := pathOf_length f L (nth L v).toNat
      simp; omega
theorem pathOf_mem {rk : Nat → Nat} : ∀ (f : Nat) (L : List Int) (v : Nat), Wf L rk → v < L.length → ∀ x ∈ pathOf f L v, x < L.length
  | 0, _, v, _, hv, x, hx => by simp [pathOf] at hx; omega
  | f + 1, L, v, hw, hv, x, hx => by
    rcases Int.lt_or_le (nth L v) 0 with h | h
    · rw [pathOf_root _ _ _ h] at hx; simp at hx; omega
    · obtain ⟨p, hp⟩ : ∃ p : Nat, nth L v = (p : Int) := ⟨(nth L v).toNat, by omega⟩
      rw [pathOf_child _ _ _ _ hp] at hx
      rcases List.mem_cons.1 hx with rfl | hx
      · exact hv
      · exact pathOf_mem f L p hw (hw.par hv hp).1 x hx
theorem nthN_mem (P : List Nat) (j : Nat) (h : j < P.length) : nthN P j ∈ P := by
  simp [nthN, List.getD, h]
theorem drop_two (P : List Nat) (k : Nat) (h : k + 2 < P.length) : P.drop k = nthN P k :: nthN P (k + 1) :: nthN P (k + 2) :: P.drop (k + 3) := by
  rw [List.drop_eq_getElem_cons (by omega), List.drop_eq_getElem_cons (by omega), List.drop_eq_getElem_cons (by omega)]
  simp [nthN, List.getD, h, show k < P.length by omega, show k + 1 < P.length by omega]
theorem halved_step (P : List Nat) (k : Nat) (E : List Int) (h : k + 2 < P.length) : halved (P.drop k) E = halved (P.drop (k + 2)) (E.set (nthN P k) (nthN P (k + 2) : Int)) := by
  have e : P.drop (k + 2) = nthN P (k + 2) :: P.drop (k + 3) := by
    rw [List.drop_eq_getElem_cons (by omega)]
    simp [nthN, List.getD, h]
  rw [drop_two P k h, e]
  rfl
theorem halved_end (P : List Nat) (k : Nat) (E : List Int) (h : P.length ≤ k + 2) : halved (P.drop k) E = E := by
  have hl : (P.drop k).length ≤ 2 := by simp; omega
  match P.drop k, hl with
  | [], _ => rfl
  | [_], _ => rfl
  | [_, _], _ => rfl
theorem last_nthN (P : List Nat) : P.getLastD 0 = nthN P (P.length - 1) := by
  cases P with
  | nil => rfl
  | cons a r => simp [nthN, List.getLastD_eq_getLast?, List.getLast?_eq_getElem?, List.getD]
theorem length_halved : ∀ (P : List Nat) (L : List Int), (halved P L).length = L.length
  | [], _ => rfl
  | [_], _ => rfl
  | [_, _], _ => rfl
  | a :: _ :: c :: r, L => by rw [halved, length_halved (c :: r)]; simp

/-! ### Worlds -/
theorem own_shape {w : World} {base e n : Nat} {v : Value} {xs : List Value} (h : w.ownsRow base e 1 v (n + 1) xs) : ∃ g cp, v = .slice (some ⟨g, 0, none⟩) (n + 1) cp ∧ base ≤ g ∧ g < w.heap.size := by
  rcases h.2 with ⟨_, h0⟩ | ⟨g, cap, cur, hv, hb, hg, _⟩
  · omega
  · exact ⟨g, cap, hv, hb, (Array.getElem?_eq_some_iff.1 hg).1⟩

theorem copy_i32 (dT sT : TypeId) (hd : Yba.prog.underlying dT = some (.slice 21)) (w : World) (d s n : Nat) (L F : List Int) (hL : HasRow w d L) (hF : HasRow w s F) (h1 : L.length = n) (h2 : F.length = n) (ty : TypeId) :
    (Builtin.copy_ #[dT, sT] ty #[.slice (some ⟨d, 0, none⟩) n n, .slice (some ⟨s, 0, none⟩) n n]).run Yba.prog w = .ok (.int .i64 (n : Int)) (w.setRow d (i32s F)) := by
  have := run_copy_row (P := Yba.prog) w dT sT ty 21 d 0 n n ⟨s, 0, none⟩ n n (i32s L) 21 (F.map (Value.int .i32)) hd (by
      have := Yba.info21
      obtain ⟨i, hi, _, hz1, _⟩ := info_parts this
      rw [hi]; simp [hz1]) hL (by simp [h2]) (by
      intro j v hv
      by_cases hj : j < F.length
      · rw [List.getElem?_map, nth_get F j hj] at hv
        simp at hv
        subst hv
        have := hF.cell j hj
        rw [WideShapes.add_plain]; simpa using this
      · rw [List.getElem?_eq_none (by simp; omega)] at hv
        cases hv) (by simp [i32s, h1, h2]) (by
      intro v hv
      obtain ⟨x, _, rfl⟩ := List.mem_map.1 hv
      rfl)
  rw [this]
  have e : List.drop n (List.map (Value.int .i32) L) = [] := List.drop_eq_nil_of_le (by simp [h1])
  simp [goInt, h2, i32s, e]

theorem setRow_row (w : World) (d : Nat) (L F : List Int) (h : HasRow w d L) : HasRow (w.setRow d (i32s F)) d F := setRow_heap w d _ _ 21 (0, 0) h

end Go.Proofs.Ybulkbwtu
