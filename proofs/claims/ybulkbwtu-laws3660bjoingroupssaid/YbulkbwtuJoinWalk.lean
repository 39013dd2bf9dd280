import Derived.Test.YbulkbwtuJoinLaw
namespace Go.Proofs.Ybulkbwtu
open Go.RowKit

theorem relab_id (lab : List Int) (n : Nat) (la : Int) (h : lab.length = n) : relab lab n n la la = lab := by
  apply ext_nth (by rw [relab_length, h])
  intro j hj
  rw [relab_length] at hj
  rw [nth_relab _ _ _ _ _ _ hj, if_pos hj, rl]
  split <;> simp_all

set_option maxHeartbeats 1000000 in
set_option maxRecDepth 100000 in
theorem join_walk (a0 : Int) (ao bo : Option Addr) (la lb ca cb : Nat) (za zb : List Int) (w : World) (h0 : 0 ≤ a0) (h1 : a0 ≤ 255) (hz : Ints .u16 0 65535 w ao la za) (hy : Ints .u16 0 65535 w bo lb zb)
    (hm : ¬ (1024 < la ∧ 1024 < lb)) :
    Calls Yba.prog 4 #[.int .u8 a0, .slice ao la ca, .slice bo lb cb] w fun e w' => e = .returned (.bool true) ∧ Below w.heap.size w w' := by
  have HZ : Hid (Ints .u16 0 65535 w ao la za) := hz
  have HY : Hid (Ints .u16 0 65535 w bo lb zb) := hy
  clear hz hy
  obtain ⟨m, hmd⟩ : ∃ m : Nat, m = if lb < la then lb else la := ⟨_, rfl⟩
  have hm1 : m ≤ 1024 := by rw [hmd]; split <;> omega
  have hma : m ≤ la := by rw [hmd]; split <;> omega
  have hmb : m ≤ lb := by rw [hmd]; split <;> omega
  have HM : Hid (m = if lb < la then lb else la) := hmd
  clear hmd
  obtain ⟨n, hn⟩ : ∃ n : Nat, a0 + 1 = (n : Int) := ⟨(a0 + 1).toNat, by omega⟩
  have hn0 : 0 < n := by omega
  have hn1 : n ≤ 256 := by omega
  have hmk1 := make_i32 25 Yba.underlying25 w n (by omega)
  rw [← initU_zero] at hmk1
  have hmk2 := make_i64 (w.alloc (.cells (i32s (initU n 0)) 21)) n (by omega)
  rw [← initL_zero] at hmk2
  simp only [World.size_alloc] at hmk2
  go_enter Yba.func4, Yba.ntmps4
  go_upto_if 28 with fail
  go_cut [7] from 23 (fun s7 wc => s7 = .int .i64 (m : Int) ∧ w = wc)
  case first =>
    by_cases hlt : lb < la
    · have b1 : (lb : Int) < (la : Int) := by omega
      go_wp2
      go_meet
      case rel => exact ⟨by rw [HM.out, if_pos hlt], rfl⟩
    · have b1 : ¬ (lb : Int) < (la : Int) := by omega
      go_wp2
      go_meet
      case rel => exact ⟨by rw [HM.out, if_neg hlt], rfl⟩
  case rest =>
    obtain ⟨rfl, rfl⟩ := hcut
    have b1 : ¬ (1024 : Int) < (m : Int) := by omega
    go_wp2_with fail
    clear hmk1 hmk2 b1 h0 h1 hn
    go_loopw [11] (fun s wr => ∃ k : Nat, k ≤ n ∧ s = .int .i64 (k : Int) ∧ Two w wr (initU n k) (initL n k)) (fun s _ => n - (intOf s).toNat)
    case atStart => exact ⟨0, Nat.zero_le _, rfl, two_start w n⟩
    case round =>
      obtain ⟨k, hk, rfl, hT⟩ := hrel
      by_cases hkn : k < n
      · have c1 := hT.u.cell k (by rw [initU_length]; exact hkn)
        have f1 := hT.u.free k
        have c2 := hT.l.cell k (by rw [initL_length]; exact hkn)
        have f2 := hT.l.free k
        have HT : Hid (Two w wr (initU n k) (initL n k)) := hT
        have i1 : (k : Int) < (n : Int) := by omega
        clear hT
        go_wp2
        have hS := (HT.out.setU k (-1)).setL k (k : Int)
        rw [initU_set, initL_set] at hS
        exact ⟨⟨k + 1, by omega, by go_num, hS⟩, by simp [intOf]; omega⟩
      · have i1 : ¬ (k : Int) < (n : Int) := by omega
        obtain rfl : n = k := by omega
        have HT : Hid (Two w wr (initU n n) (initL n n)) := hT
        clear hT hkn hk
        go_wp2_with fail
        clear i1
        go_loopw [12] (fun s wr => ∃ (k : Nat) (U lab : List Int) (rk rt : Nat → Nat), k ≤ m ∧ s = .int .i64 (k : Int) ∧ lab.length = n ∧ Forest U n rk rt ∧ Sized U n rt ∧ Same rt lab n ∧ Two w wr U lab) (fun s _ => m - (intOf s).toNat)
        case atStart =>
          obtain ⟨g1, g2, g3⟩ := forest_start n
          exact ⟨0, _, _, _, _, Nat.zero_le _, rfl, initL_length _ _, g1, g2, g3, HT.out⟩
        case round =>
          obtain ⟨k, U, lab, rk, rt, hk, rfl, hll, hF, hS, hSa, hT⟩ := hrel
          have HLL : Hid (lab.length = n) := hll
          have HF : Hid (Forest U n rk rt) := hF
          have HS : Hid (Sized U n rt) := hS
          have HSa : Hid (Same rt lab n) := hSa
          have HT : Hid (Two w wr U lab) := hT
          clear hll hF hS hSa hT
          by_cases hkm : k < m
          · obtain ⟨b, o, hao, hb, x0, g1, g2⟩ := HZ.out k (by omega)
            subst hao
            obtain ⟨b', o', hbo, hb', x1, g3, g4⟩ := HY.out k (by omega)
            subst hbo
            have c1 : wr.cell? ⟨b, o + k, none⟩ = some (.int .u16 (nth za k)) := by rw [HT.out.below.cell (by exact hb)]; exact x0
            have c2 : wr.cell? ⟨b', o' + k, none⟩ = some (.int .u16 (nth zb k)) := by rw [HT.out.below.cell (by exact hb')]; exact x1
            obtain ⟨p, hp⟩ : ∃ p : Nat, nth za k % (n : Int) = (p : Int) := ⟨(nth za k % (n : Int)).toNat, by have := Int.emod_nonneg (nth za k) (show (n : Int) ≠ 0 by omega); omega⟩
            have hpn : p < n := by have := Int.emod_lt_of_pos (nth za k) (show (0 : Int) < (n : Int) by omega); omega
            obtain ⟨q, hq⟩ : ∃ q : Nat, nth zb k % (n : Int) = (q : Int) := ⟨(nth zb k % (n : Int)).toNat, by have := Int.emod_nonneg (nth zb k) (show (n : Int) ≠ 0 by omega); omega⟩
            have hqn : q < n := by have := Int.emod_lt_of_pos (nth zb k) (show (0 : Int) < (n : Int) by omega); omega
            have i1 : (k : Int) < (m : Int) := by omega
            have i2 : (k : Int) < (la : Int) := by omega
            have i3 : (k : Int) < (lb : Int) := by omega
            clear x0 x1
            go_wp2_with fail
            refine (join_any w.heap.size n p q U rk rt wr HF.out HS.out (by omega) hpn hqn HT.out.u).mono ?_
            rintro e w2 ⟨rfl, U', rk', rt', hF', hS', hJ, hR', hT'⟩
            have hT2 := HT.out.turned hR' hT'
            have HT2 : Hid (Two w w2 U' lab) := hT2
            have HF' : Hid (Forest U' n rk' rt') := hF'
            have HS' : Hid (Sized U' n rt') := hS'
            have HSJ : Hid (Same rt' (relab lab n n (nth lab p) (nth lab q)) n) := same_joined HSa.out hJ hpn hqn
            have d1 := hT2.l.cell p (by rw [HLL.out]; exact hpn)
            have d2 := hT2.l.cell q (by rw [HLL.out]; exact hqn)
            have j1 : (p : Int) < (n : Int) := by omega
            have j2 : (q : Int) < (n : Int) := by omega
            clear hF' hS' hJ hR' hT' hT2 c1 c2
            go_wp2_with fail
            go_quiet (fail)
            by_cases e : nth lab p = nth lab q
            · have E : Hid (nth lab p = nth lab q) := e
              have eb : (nth lab p == nth lab q) = true := by simp [e]
              clear e
              go_wp2_with fail
              have hSJ := HSJ.out
              rw [← E.out, relab_id lab n _ HLL.out] at hSJ
              exact ⟨⟨k + 1, U', lab, rk', rt', by omega, by go_num, HLL.out, HF'.out, HS'.out, hSJ, HT2.out.drewN _⟩, by simp [intOf]; omega⟩
            · have eb : (nth lab p == nth lab q) = false := by simp [e]
              go_wp2_with fail
              obtain ⟨wo, rfl⟩ : ∃ wo : World, wo = wr := ⟨_, rfl⟩
              go_loopw [17] (fun s wx => ∃ i : Nat, i ≤ n ∧ s = .int .i64 (i : Int) ∧ Two w wx U' (relab lab n i (nth lab p) (nth lab q))) (fun s _ => n - (intOf s).toNat)
              case atStart => exact ⟨0, Nat.zero_le _, rfl, by rw [relab_zero _ _ _ _ HLL.out]; exact HT2.out.drewN _⟩
              case round =>
                obtain ⟨i, hi, rfl, hTi⟩ := hrel
                have HTi : Hid (Two w wr U' (relab lab n i (nth lab p) (nth lab q))) := hTi
                clear d1 d2
                by_cases hin : i < n
                · have c1 : wr.cell? ⟨w.heap.size + 1, i, none⟩ = some (.int .i64 (nth lab i)) := by
                    rw [hTi.l.cell i (by rw [relab_length]; exact hin), nth_relab _ _ _ _ _ _ hin, if_neg (by omega)]
                  have f1 := hTi.l.free i
                  have i5 : (i : Int) < (n : Int) := by omega
                  clear hTi
                  by_cases e2 : nth lab i = nth lab q
                  · have E2 : Hid (nth lab i = nth lab q) := e2
                    have eb2 : (nth lab i == nth lab q) = true := by simp [e2]
                    clear e2
                    go_wp2
                    have hX := HTi.out.setL i (nth lab p)
                    rw [relab_set _ _ _ _ _ E2.out] at hX
                    exact ⟨⟨i + 1, by omega, by go_num, hX⟩, by simp [intOf]; omega⟩
                  · have eb2 : (nth lab i == nth lab q) = false := by simp [e2]
                    go_wp2
                    have hX := HTi.out
                    rw [relab_skip _ _ _ _ _ e2] at hX
                    exact ⟨⟨i + 1, by omega, by go_num, hX⟩, by simp [intOf]; omega⟩
                · have i5 : ¬ (i : Int) < (n : Int) := by omega
                  obtain rfl : n = i := by omega
                  clear hTi hin hi
                  go_wp2
                  exact ⟨⟨k + 1, U', _, rk', rt', by omega, by go_num, relab_length _ _ _ _ _, HF'.out, HS'.out, HSJ.out, HTi.out⟩, by simp [intOf]; omega⟩
          · have i1 : ¬ (k : Int) < (m : Int) := by omega
            clear HZ HY hk hkm
            go_wp2_with fail
            clear i1
            obtain ⟨wo, rfl⟩ : ∃ wo : World, wo = wr := ⟨_, rfl⟩
            go_loopw [18] (fun s wx => ∃ (i : Nat) (V : List Int), i ≤ n ∧ s = .int .i64 (i : Int) ∧ Forest V n rk rt ∧ Sized V n rt ∧ Two w wx V lab) (fun s _ => n - (intOf s).toNat)
            case atStart => exact ⟨0, U, Nat.zero_le _, rfl, HF.out, HS.out, HT.out⟩
            case round =>
              obtain ⟨i, V, hi, rfl, hFV, hSV, hTV⟩ := hrel
              have HFV : Hid (Forest V n rk rt) := hFV
              have HSV : Hid (Sized V n rt) := hSV
              have HTV : Hid (Two w wr V lab) := hTV
              clear hFV hSV hTV
              by_cases hin : i < n
              · have i5 : (i : Int) < (n : Int) := by omega
                go_wp2_with fail
                refine (find_forest w.heap.size n i V rk rt wr HFV.out hin HTV.out.u).mono ?_
                rintro e w2 ⟨V1, rfl, hF1, hK1, hR1, hT1⟩
                have HT1 : Hid (Two w w2 V1 lab) := HTV.out.turned hR1 hT1
                have HF1 : Hid (Forest V1 n rk rt) := hF1
                have HS1 : Hid (Sized V1 n rt) := HSV.out.kept hK1
                have hrn := hF1.lt i hin
                have hneg := hF1.root i hin
                have c1 := hR1.cell (rt i) (by rw [hF1.len]; exact hrn)
                have i6 : ((rt i : Nat) : Int) < (n : Int) := by omega
                have i7 : ¬ ((rt i : Nat) : Int) < 0 := by omega
                have i8 : decide (((rt i : Nat) : Int) < 0) = false := by simp
                have i9 : decide ((n : Int) ≤ ((rt i : Nat) : Int)) = false := by simp; omega
                have i11 : decide (n ≤ rt i) = false := by simp; omega
                have i10 : decide (0 ≤ nth V1 (rt i)) = false := by simp; omega
                clear hF1 hK1 hR1 hT1
                go_wp2_with fail
                clear c1
                obtain ⟨wp, rfl⟩ : ∃ wp : World, wp = wr := ⟨_, rfl⟩
                go_loopw [20, 21] (fun s20 s wx => ∃ (j : Nat) (V : List Int), j ≤ n ∧ s = .int .i64 (j : Int) ∧ s20 = .int .i32 (cnt rt j (rt i) : Int) ∧ Forest V n rk rt ∧ Sized V n rt ∧ Two w wx V lab) (fun _ s _ => n - (intOf s).toNat)
                case atStart => exact ⟨0, V1, Nat.zero_le _, rfl, rfl, HF1.out, HS1.out, HT1.out⟩
                case round =>
                  obtain ⟨j, V2, hj, rfl, rfl, hF2, hS2, hT2⟩ := hrel
                  have HF2 : Hid (Forest V2 n rk rt) := hF2
                  have HS2 : Hid (Sized V2 n rt) := hS2
                  have HT2 : Hid (Two w wr V2 lab) := hT2
                  clear hF2 hS2 hT2
                  have hcn := cnt_le rt j (rt i)
                  by_cases hjn : j < n
                  · have j5 : (j : Int) < (n : Int) := by omega
                    have d1 := HT2.out.l.cell j (by rw [HLL.out]; exact hjn)
                    have d2 := HT2.out.l.cell i (by rw [HLL.out]; exact hin)
                    have hcs := cnt_succ rt j (rt i)
                    have HCS : Hid (cnt rt (j + 1) (rt i) = cnt rt j (rt i) + if rt j = rt i then 1 else 0) := hcs
                    clear hcs
                    have hsm := HSa.out j i hjn hin
                    go_wp2_with fail
                    go_quiet (fail)
                    by_cases e : rt j = rt i
                    · have eb1 : (nth lab j == nth lab i) = true := by simp [hsm.1 e]
                      have eb2 : (((rt j : Nat) : Int) == ((rt i : Nat) : Int)) = true := by simp [e]
                      have E : Hid (rt j = rt i) := e
                      clear e hsm
                      go_wp2_with fail
                      refine (find_forest w.heap.size n j V2 rk rt _ HF2.out hjn (HT2.out.drewN _).u).mono ?_
                      rintro e w4 ⟨V3, rfl, hF3, hK3, hR3, hT3⟩
                      have HT3 : Hid (Two w w4 V3 lab) := (HT2.out.drewN _).turned hR3 hT3
                      have HF3 : Hid (Forest V3 n rk rt) := hF3
                      have HS3 : Hid (Sized V3 n rt) := HS2.out.kept hK3
                      clear hF3 hK3 hR3 hT3 d1 d2
                      go_wp2
                      exact ⟨⟨j + 1, V3, by omega, by go_num, by rw [HCS.out, if_pos E.out]; go_num, HF3.out, HS3.out, HT3.out⟩, by simp [intOf]; omega⟩
                    · have eb1 : (nth lab j == nth lab i) = false := by
                        have : ¬ nth lab j = nth lab i := fun q => e (hsm.2 q)
                        simp [this]
                      have eb2 : (((rt j : Nat) : Int) == ((rt i : Nat) : Int)) = false := by simp; omega
                      have E : Hid (¬ rt j = rt i) := e
                      clear e hsm
                      go_wp2_with fail
                      refine (find_forest w.heap.size n j V2 rk rt _ HF2.out hjn (HT2.out.drewN _).u).mono ?_
                      rintro e w4 ⟨V3, rfl, hF3, hK3, hR3, hT3⟩
                      have HT3 : Hid (Two w w4 V3 lab) := (HT2.out.drewN _).turned hR3 hT3
                      have HF3 : Hid (Forest V3 n rk rt) := hF3
                      have HS3 : Hid (Sized V3 n rt) := HS2.out.kept hK3
                      clear hF3 hK3 hR3 hT3 d1 d2
                      go_wp2
                      exact ⟨⟨j + 1, V3, by omega, by go_num, by rw [HCS.out, if_neg E.out]; go_num, HF3.out, HS3.out, HT3.out⟩, by simp [intOf]; omega⟩
                  · have j5 : ¬ (j : Int) < (n : Int) := by omega
                    obtain rfl : n = j := by omega
                    clear hjn hj
                    have c1 := HT2.out.u.cell (rt i) (by rw [HF2.out.len]; exact hrn)
                    have hsz := HS2.out (rt i) hrn (HF2.out.root i hin)
                    rw [hsz] at c1
                    clear hsz
                    go_wp2
                    exact ⟨⟨i + 1, V2, by omega, by go_num, HF2.out, HS2.out, HT2.out⟩, by simp [intOf]; omega⟩
              · have i5 : ¬ (i : Int) < (n : Int) := by omega
                go_wp2
                go_ret
                exact ⟨rfl, HTV.out.below⟩


set_option maxHeartbeats 400000 in
set_option maxRecDepth 100000 in
theorem join_long (a0 : Int) (ao bo : Option Addr) (la lb ca cb : Nat) (w : World) (h1 : 1024 < la) (h2 : 1024 < lb) :
    Calls Yba.prog 4 #[.int .u8 a0, .slice ao la ca, .slice bo lb cb] w fun e w' => e = .returned (.bool true) ∧ Below w.heap.size w w' := by
  have b1 : (1024 : Int) < (la : Int) := by omega
  have b2 : (1024 : Int) < (lb : Int) := by omega
  by_cases hlt : lb < la
  · have b3 : (lb : Int) < (la : Int) := by omega
    go_enter Yba.func4, Yba.ntmps4
    go_wp2
    go_ret
    exact ⟨rfl, Below.refl _ _⟩
  · have b3 : ¬ (lb : Int) < (la : Int) := by omega
    go_enter Yba.func4, Yba.ntmps4
    go_wp2
    go_ret
    exact ⟨rfl, Below.refl _ _⟩

end Go.Proofs.Ybulkbwtu
