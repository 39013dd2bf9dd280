import Derived.Test.YbulkbwtuFind
import Derived.Test.YbulkbwtuGroups
namespace Go.Proofs.Ybulkbwtu
open Go.RowKit

/-- find, of a forest. -/
theorem find_forest (g n v : Nat) (U : List Int) (rk rt : Nat → Nat) (w : World) (h : Forest U n rk rt) (hv : v < n) (hr : HasRow w g U) :
    Calls Yba.prog 6 #[.slice (some ⟨g, 0, none⟩) n n, .int .i32 (v : Int)] w fun e w' => ∃ U', e = .returned (.int .i32 (rt v : Int)) ∧ Forest U' n rk rt ∧ Kept U U' ∧ HasRow w' g U' ∧ Turned w w' g := by
  refine (find_any rk g n v (rk v + 1) U w h.len hv h.wf (Nat.lt_succ_self _) hr).mono ?_
  rintro e w' ⟨rfl, h1, h2⟩
  obtain ⟨k1, k2, k3⟩ := findA_root_is (rk v + 1) U v h hv (Nat.lt_succ_self _)
  exact ⟨_, by rw [k1], k2, k3, h1, h2⟩

set_option maxHeartbeats 400000 in
theorem join_any (g n a b : Nat) (U : List Int) (rk rt : Nat → Nat) (w : World) (h : Forest U n rk rt) (hs : Sized U n rt) (hn : n ≤ 100000) (ha : a < n) (hb : b < n) (hr : HasRow w g U) :
    Calls Yba.prog 7 #[.slice (some ⟨g, 0, none⟩) n n, .int .i32 (a : Int), .int .i32 (b : Int)] w fun e w' => e = .returned (.tuple #[]) ∧ ∃ U' rk' rt', Forest U' n rk' rt' ∧ Sized U' n rt' ∧ Joined rt rt' a b ∧ HasRow w' g U' ∧ Turned w w' g := by
  go_enter Yba.func7, Yba.ntmps7
  go_wp2_with fail
  refine (find_forest g n a U rk rt w h ha hr).mono ?_
  rintro e w1 ⟨U1, rfl, hF1, hK1, hR1, hT1⟩
  go_wp2_with fail
  refine (find_forest g n b U1 rk rt w1 hF1 hb hR1).mono ?_
  rintro e w2 ⟨U2, rfl, hF2, hK2, hR2, hT2⟩
  have hS2 := hs.kept (hK1.trans hK2)
  have hT := hT1.trans hT2
  have hax := hF2.lt a ha
  have hbx := hF2.lt b hb
  have hra := hF2.root a ha
  have hrb := hF2.root b hb
  have hsa := hS2 _ hax hra
  have hsb := hS2 _ hbx hrb
  have hca := cnt_le rt n (rt a)
  have hcb := cnt_le rt n (rt b)
  have bA : -100000 ≤ nth U2 (rt a) := by omega
  have bB : -100000 ≤ nth U2 (rt b) := by omega
  have cA := hR2.cell (rt a) (by rw [hF2.len]; exact hax)
  have cB := hR2.cell (rt b) (by rw [hF2.len]; exact hbx)
  have fA := hR2.free (rt a)
  have fB := hR2.free (rt b)
  have HR2 : Hid (HasRow w2 g U2) := hR2
  have HF2 : Hid (Forest U2 n rk rt) := hF2
  have HS2 : Hid (Sized U2 n rt) := hS2
  have HT : Hid (Turned w w2 g) := hT
  have iA : ((rt a : Nat) : Int) < (n : Int) := by omega
  have iB : ((rt b : Nat) : Int) < (n : Int) := by omega
  clear hT1 hT2 hK1 hK2 hF1 hR1 h hs hr hsa hsb hca hcb hR2 hF2 hS2 hT
  by_cases e : rt a = rt b
  · have E : Hid (rt a = rt b) := e
    have eb : (((rt a : Nat) : Int) == ((rt b : Nat) : Int)) = true := by simp [e]
    clear e
    go_wp2
    go_returns
    exact ⟨rfl, U2, rk, rt, HF2.out, HS2.out, .inl ⟨E.out, rfl⟩, HR2.out, HT.out⟩
  · have E : Hid (¬ rt a = rt b) := e
    have eb : (((rt a : Nat) : Int) == ((rt b : Nat) : Int)) = false := by simp; omega
    have fin : ∀ x y n1, ((x = rt a ∧ y = rt b) ∨ (x = rt b ∧ y = rt a)) → ∃ U' rk' rt', Forest U' n rk' rt' ∧ Sized U' n rt' ∧ Joined rt rt' a b ∧
        HasRow (((w2.drewN n1).setCell ⟨g, x, none⟩ (.int .i32 (nth U2 x + nth U2 y))).setCell ⟨g, y, none⟩ (.int .i32 (x : Int))) g U' ∧ Turned w (((w2.drewN n1).setCell ⟨g, x, none⟩ (.int .i32 (nth U2 x + nth U2 y))).setCell ⟨g, y, none⟩ (.int .i32 (x : Int))) g := by
      intro x y n1 hxy
      have hx : x < n := by omega
      have hy : y < n := by omega
      have hxyn : x ≠ y := by omega
      have rx : nth U2 x < 0 := by rcases hxy with ⟨rfl, _⟩ | ⟨rfl, _⟩ <;> assumption
      have ry : nth U2 y < 0 := by rcases hxy with ⟨_, rfl⟩ | ⟨_, rfl⟩ <;> assumption
      obtain ⟨L1, L2⟩ := HF2.out.link HS2.out hx hy hxyn rx ry
      refine ⟨linkA U2 x y, _, _, L1, L2, .inr ⟨e, x, y, hxy, rfl⟩, ?_, ?_⟩
      · exact HasRow.set (w := ((w2.drewN n1).setCell ⟨g, x, none⟩ (.int .i32 (nth U2 x + nth U2 y)))) (HasRow.set (w := w2.drewN n1) HR2.out x _) y _
      · exact ((HT.out.drew n1).trans (Turned.store _ _ _ _)).trans (Turned.store _ _ _ _)
    have HFin := show Hid _ from fin
    have e' : ¬ rt b = rt a := fun q => e q.symm
    clear fin
    by_cases c : nth U2 (rt b) < nth U2 (rt a)
    · go_wp2
      go_quiet (fail)
      go_wp2
      go_region
      go_wp2
      go_returns
      exact ⟨rfl, HFin.out (rt b) (rt a) _ (.inr ⟨rfl, rfl⟩)⟩
    · go_wp2
      go_quiet (fail)
      go_wp2
      go_region
      go_wp2
      go_returns
      exact ⟨rfl, HFin.out (rt a) (rt b) _ (.inl ⟨rfl, rfl⟩)⟩

end Go.Proofs.Ybulkbwtu
