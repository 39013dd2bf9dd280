import Derived.Test.YbulkbwvyTodo
namespace Go.Proofs.Ybulkbwvy
open Go.RowKit

set_option maxHeartbeats 1000000 in
theorem same_any (g p n c cap : Nat) (ao : Option Addr) (K Y : Nat → Int) (E : Nat → Bool) (w : World) (hpn : p ≤ n) (hn : n ≤ 100000) (hT : Todo w g n n K Y E) (hz : Steps w ao n K Y E) :
    Calls Yba.prog 7 #[.slice (some ⟨g, 0, none⟩) p c, .slice ao n cap, .int .i64 (p : Int)] w fun e w' => e = .returned (.bool true) ∧ ∃ k, w' = w.drewN k := by
  have HZ : Hid (Steps w ao n K Y E) := hz
  have HT : Hid (Todo w g n n K Y E) := hT
  clear hz hT
  go_enter Yba.func7, Yba.ntmps7
  go_wp2_with fail
  go_loopw [7] (fun s wx => ∃ (i nd : Nat), s = .int .i64 (i : Int) ∧ i ≤ p ∧ wx = w.drewN nd) (fun s _ => p - (intOf s).toNat)
  case atStart => exact ⟨0, 0, rfl, Nat.zero_le _, rfl⟩
  case round =>
    obtain ⟨i, nd, rfl, hip, rfl⟩ := hrel
    by_cases hi : i < p
    · obtain ⟨b, o, hao, hb, x0, x1, x2, g1, g2, g3, g4⟩ := HZ.out i (by omega)
      subst hao
      obtain ⟨t0, t1, t2⟩ := HT.out.cells (i := i) (by omega)
      have i1 : (i : Int) < (p : Int) := by omega
      have i2 : (i : Int) < (n : Int) := by omega
      have e0 : (K i != K i) = false := by simp
      have e1 : (Y i != Y i) = false := by simp
      have e2 : (E i != E i) = false := by simp
      go_wp2
      go_quiet (fail)
      go_wp2
      exact ⟨⟨i + 1, _, by go_num, by omega, rfl⟩, by simp [intOf]; omega⟩
    · have i1 : ¬ (i : Int) < (p : Int) := by omega
      go_wp2
      go_ret
      exact ⟨rfl, _, rfl⟩

end Go.Proofs.Ybulkbwvy
