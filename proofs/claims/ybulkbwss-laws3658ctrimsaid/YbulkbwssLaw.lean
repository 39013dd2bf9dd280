import Derived.Test.YbulkbwssForget
import Derived.Deep.Cut
namespace Go.Proofs.Ybulkbwss
open Go.RowKit

/-- What the walk is told of the slice of readers. -/
def Rows3 (w : World) (ao : Option Addr) (len : Nat) (offs bases : Nat → Int) (beh : Nat → Bool) : Prop :=
  ∀ i, i < len → ∃ b o, ao = some ⟨b, o, none⟩ ∧ b < w.heap.size ∧ w.cell? ⟨b, o + i * 3, none⟩ = some (.int .u16 (offs i)) ∧ w.cell? ⟨b, o + i * 3 + 1, none⟩ = some (.int .u16 (bases i)) ∧ w.cell? ⟨b, o + i * 3 + 2, none⟩ = some (.bool (beh i)) ∧
    0 ≤ offs i ∧ offs i ≤ 65535 ∧ 0 ≤ bases i ∧ bases i ≤ 65535

/-- How many pages. -/
def npages (st en : Int) : Nat := ((en + 4095) / 4096 - st / 4096).toNat

def pgs (H n k : Nat) : List Value := (List.range n).map fun i => if i < k then .slice (some ⟨H + 1 + i, 0, none⟩) 1 1 else .slice none 0 0

theorem pgs_zero (H n : Nat) : pgs H n 0 = List.replicate n (.slice none 0 0) := by
  apply List.ext_getElem?
  intro i
  by_cases hi : i < n <;> simp [pgs, hi]
theorem pgs_length (H n k : Nat) : (pgs H n k).length = n := by simp [pgs]
theorem pgs_set (H n k : Nat) : (pgs H n k).set k (.slice (some ⟨H + 1 + k, 0, none⟩) 1 1) = pgs H n (k + 1) := by
  apply List.ext_getElem?
  intro i
  rw [List.getElem?_set]
  by_cases hik : k = i
  · subst hik
    by_cases hk : k < n <;> simp [pgs, hk]
  · rw [if_neg hik]
    by_cases hi : i < n
    · simp only [pgs, List.getElem?_map, List.getElem?_range, hi]
      have : (i < k + 1) = (i < k) := by simp; omega
      simp [this]
    · simp [pgs, hi]
theorem pgs_at (H n k i : Nat) (hi : i < n) : (pgs H n k)[i]? = some (if i < k then .slice (some ⟨H + 1 + i, 0, none⟩) 1 1 else .slice none 0 0) := by simp [pgs, hi]

theorem make_pages (w : World) (n : Nat) (hn : n ≤ 1000) :
    (Instr.makeSlice 24 (.int .i64 n) (.int .i64 n)).run Yba.prog w = .ok (.slice (some ⟨w.heap.size, 0, none⟩) n n) (w.alloc (.cells (pgs w.heap.size n 0).toArray 25)) := by
  obtain ⟨i, hi, hz0, hz1, hz2⟩ := info_parts Yba.info25
  rw [run_make w 24 25 i _ Yba.underlying24 hi hz0 .i64 .i64 n n (by omega) (by omega) (by rw [hz2]; omega) (by omega)]
  have e : madeCells (Value.slice none 0 0).cells n = (pgs w.heap.size n 0).toArray := by
    apply Array.toList_inj.1
    rw [show (Value.slice none 0 0).cells = #[.slice none 0 0] from rfl, toList_madeCells_one, pgs_zero]
  simp only [Int.toNat_natCast, hz1, Nat.mul_one, e]

/-- The first loop: k pages are laid. -/
structure Paged (w wr : World) (n k : Nat) : Prop where
  size : wr.heap.size = w.heap.size + 1 + k
  old : Below w.heap.size w wr
  pages : wr.heap[w.heap.size]? = some (.cells (pgs w.heap.size n k).toArray 25 (0, 0))
  each : ∀ i, i < k → wr.heap[w.heap.size + 1 + i]? = some (.cells #[.int .u8 (i : Int)] 5 (0, 0))

theorem Paged.start (w : World) (n : Nat) : Paged w (w.alloc (.cells (pgs w.heap.size n 0).toArray 25)) n 0 :=
  ⟨by simp, (Below.refl _ _).alloc (Nat.le_refl _) _, heap_alloc_new _ _, by intro i hi; omega⟩

theorem Paged.step {w wr : World} {n k : Nat} (h : Paged w wr n k) : Paged w ((wr.setCell ⟨w.heap.size, k, none⟩ (.slice (some ⟨wr.heap.size, 0, none⟩) 1 1)).alloc (.cells #[.int .u8 (k : Int)] 5)) n (k + 1) := by
  have hs := h.size
  have hz : (wr.setCell ⟨w.heap.size, k, none⟩ (.slice (some ⟨wr.heap.size, 0, none⟩) 1 1)).heap.size = w.heap.size + 1 + k := by simp; omega
  refine ⟨by simp; omega, (h.old.setCell (Nat.le_refl _) _).alloc (by omega) _, ?_, ?_⟩
  · have e := heap_setCell_same wr w.heap.size k (pgs w.heap.size n k).toArray 25 (.slice (some ⟨wr.heap.size, 0, none⟩) 1 1) h.pages
    rw [Go.heap_alloc_old _ _ (by omega), e, hs, ← pgs_set w.heap.size n k]
    simp
  · intro i hi
    by_cases hik : i = k
    · subst hik
      rw [← hz]; exact heap_alloc_new _ _
    · rw [Go.heap_alloc_old _ _ (by omega), heap_setCell_other _ _ _ _ (by simp; omega)]; exact h.each i (by omega)

/-- The stream that the law lays. -/
def strm (H n mb : Nat) (st en : Int) : Array Value :=
  #[.int .u64 0, .int .i64 0, .pointer none, .int .i32 0, .int .u32 0, .map (some mb), .slice (some ⟨H, 0, none⟩) n n, .int .i64 st, .int .i64 en, .bool false, .chan none]

/-- The second loop: k readers are laid. -/
structure Built (w1 wr : World) (S : Array Value) (pos : Nat → Int) (beh : Nat → Bool) (k : Nat) : Prop where
  size : wr.heap.size = w1.heap.size + 2 + 2 * k
  old : Below w1.heap.size w1 wr
  map : wr.heap[w1.heap.size]? = some (.map (ents (w1.heap.size + 2) k) k)
  str : wr.heap[w1.heap.size + 1]? = some (.cells S 43 (0, 0))
  rd : ∀ i, i < k → ∃ c, wr.heap[w1.heap.size + 2 + 2 * i + 1]? = some (.cells c 50 (0, 0))
  reader : ∀ i, i < k → Reader wr (w1.heap.size + 2 + 2 * i + 1) (pos i) (beh i)

theorem Built.start (w1 : World) (S : Array Value) (pos : Nat → Int) (beh : Nat → Bool) : Built w1 ((w1.alloc (.map #[] 0)).alloc (.cells S 43)) S pos beh 0 where
  size := by simp
  old := ((Below.refl _ _).alloc (Nat.le_refl _) _).alloc (by simp) _
  map := by rw [Go.heap_alloc_old _ _ (by simp)]; exact heap_alloc_new _ _
  str := heap_alloc2_new _ _ _
  rd := by intro i hi; omega
  reader := by intro i hi; omega

theorem Built.put {w1 wr : World} {S : Array Value} {pos : Nat → Int} {beh : Nat → Bool} {k : Nat} (h : Built w1 wr S pos beh k) (xs c : Array Value) :
    (Instr.mapUpdate 27 (.map (some w1.heap.size)) (.pointer (some ⟨wr.heap.size + 1, 0, none⟩)) (.agg #[])).run Yba.prog ((wr.alloc (.cells xs 45)).alloc (.cells c 50)) =
      .ok () (ChangeMaps.setBlock ((wr.alloc (.cells xs 45)).alloc (.cells c 50)) w1.heap.size (.map (ents (w1.heap.size + 2) (k + 1)) (k + 1))) := by
  have hs := h.size
  rw [show wr.heap.size + 1 = w1.heap.size + 2 + 2 * k + 1 by omega]
  refine run_put _ w1.heap.size (w1.heap.size + 2) k ?_ ?_
  · rw [Go.heap_alloc_old _ _ (by simp; omega), Go.heap_alloc_old _ _ (by omega)]; exact h.map
  · intro i hi
    by_cases hik : i = k
    · subst hik
      refine ⟨c, ?_⟩
      rw [show w1.heap.size + 2 + 2 * i + 1 = wr.heap.size + 1 by omega]
      exact heap_alloc2_new _ _ _
    · obtain ⟨d, hd⟩ := h.rd i (by omega)
      exact ⟨d, by rw [Go.heap_alloc_old _ _ (by simp; omega), Go.heap_alloc_old _ _ (by omega)]; exact hd⟩

theorem Built.step {w1 wr : World} {S : Array Value} {pos : Nat → Int} {beh : Nat → Bool} {k : Nat} (h : Built w1 wr S pos beh k) (xs : Array Value) (c0 c1 c2 c6 c7 c8 c9 : Value) (o s : Int) (hos : o + s = pos k)
    (b1 : -1000000000 ≤ o) (b2 : o ≤ 1000000000) (b3 : -1000000000 ≤ s) (b4 : s ≤ 1000000000) :
    Built w1 (ChangeMaps.setBlock ((wr.alloc (.cells xs 45)).alloc (.cells #[c0, c1, c2, .int .i64 o, .int .i64 s, .bool (beh k), c6, c7, c8, c9] 50)) w1.heap.size (.map (ents (w1.heap.size + 2) (k + 1)) (k + 1))) S pos beh (k + 1) := by
  have hs := h.size
  generalize hX : (wr.alloc (.cells xs 45)).alloc (.cells #[c0, c1, c2, .int .i64 o, .int .i64 s, .bool (beh k), c6, c7, c8, c9] 50) = X
  have hXs : X.heap.size = wr.heap.size + 2 := by rw [← hX]; simp
  have hXo : ∀ b, b < wr.heap.size → X.heap[b]? = wr.heap[b]? := fun b hb => by rw [← hX, Go.heap_alloc_old _ _ (by simp; omega), Go.heap_alloc_old _ _ hb]
  have hXn : X.heap[wr.heap.size + 1]? = some (.cells #[c0, c1, c2, .int .i64 o, .int .i64 s, .bool (beh k), c6, c7, c8, c9] 50 (0, 0)) := by rw [← hX]; exact heap_alloc2_new _ _ _
  have hXb : Below wr.heap.size wr X := by rw [← hX]; exact ((Below.refl _ _).alloc (Nat.le_refl _) _).alloc (by simp) _
  have hYo : ∀ b, b ≠ w1.heap.size → (ChangeMaps.setBlock X w1.heap.size (.map (ents (w1.heap.size + 2) (k + 1)) (k + 1))).heap[b]? = X.heap[b]? := fun b hb => by simp [ChangeMaps.setBlock, Ne.symm hb]
  have hYs : (ChangeMaps.setBlock X w1.heap.size (.map (ents (w1.heap.size + 2) (k + 1)) (k + 1))).heap.size = X.heap.size := by simp [ChangeMaps.setBlock]
  have hrow : ∀ i, i < k → (ChangeMaps.setBlock X w1.heap.size (.map (ents (w1.heap.size + 2) (k + 1)) (k + 1))).heap[w1.heap.size + 2 + 2 * i + 1]? = wr.heap[w1.heap.size + 2 + 2 * i + 1]? := fun i hi => by
    rw [hYo _ (by omega), hXo _ (by omega)]
  have hnew : (ChangeMaps.setBlock X w1.heap.size (.map (ents (w1.heap.size + 2) (k + 1)) (k + 1))).heap[w1.heap.size + 2 + 2 * k + 1]? = some (.cells #[c0, c1, c2, .int .i64 o, .int .i64 s, .bool (beh k), c6, c7, c8, c9] 50 (0, 0)) := by
    rw [hYo _ (by omega), ← hXn]
    congr 1
    omega
  have hlt : w1.heap.size < X.heap.size := by omega
  refine ⟨by omega, ?_, by simp [ChangeMaps.setBlock, hlt], ?_, ?_, ?_⟩
  · refine (h.old.trans (hXb.mono (by omega))).trans ⟨rfl, rfl, rfl, by omega, fun b hb => hYo b (by omega)⟩
  · rw [hYo _ (by omega), hXo _ (by omega)]; exact h.str
  · intro i hi
    by_cases hik : i = k
    · subst hik; exact ⟨_, hnew⟩
    · obtain ⟨d, hd⟩ := h.rd i (by omega)
      exact ⟨d, by rw [hrow i (by omega)]; exact hd⟩
  · intro i hi
    by_cases hik : i = k
    · subst hik
      exact ⟨by omega, ⟨o, s, hos, b1, b2, b3, b4, by rw [cell_of_row _ _ _ _ _ _ hnew]; rfl, by rw [cell_of_row _ _ _ _ _ _ hnew]; rfl⟩, by rw [cell_of_row _ _ _ _ _ _ hnew]; rfl⟩
    · exact (h.reader i (by omega)).mono (hrow i (by omega)) (by omega)

/-- What stands behind forget. -/
structure After (w w3 : World) (n sb mb B len gone x : Nat) (es en : Int) : Prop where
  c5 : w3.cell? ⟨sb, 5, none⟩ = some (.map (some mb))
  c6 : w3.cell? ⟨sb, 6, none⟩ = some (.slice (some ⟨w.heap.size, x, none⟩) (n - gone) (n - gone))
  c7 : w3.cell? ⟨sb, 7, none⟩ = some (.int .i64 es)
  c8 : w3.cell? ⟨sb, 8, none⟩ = some (.int .i64 en)
  hm : w3.heap[mb]? = some (.map (ents B len) len)
  hx : gone < n → x = gone
  gn : gone ≤ n
  kept : ∀ i, gone ≤ i → i < n → w3.cell? ⟨w.heap.size, i, none⟩ = some (.slice (some ⟨w.heap.size + 1 + i, 0, none⟩) 1 1)
  nilled : ∀ i, i < gone → w3.cell? ⟨w.heap.size, i, none⟩ = some (.slice none 0 0)
  bytes : ∀ i, i < n → w3.cell? ⟨w.heap.size + 1 + i, 0, none⟩ = some (.int .u8 (i : Int))
  old : Below w.heap.size w w3

theorem cleared_low (m i : Nat) (pg : List Value) (h : i < m) : (cleared m pg)[i]? = some (.slice none 0 0) := by
  simp [cleared, List.getElem?_append, h]
theorem cleared_high (m i : Nat) (pg : List Value) (h : m ≤ i) : (cleared m pg)[i]? = pg[i]? := by
  simp [cleared, List.getElem?_append, Nat.not_lt.2 h]
  congr 1; omega

theorem after_mk {w w1 wr w3 : World} {n len : Nat} {st en low : Int} {pos : Nat → Int} {beh : Nat → Bool} {S' : Array Value} {pg' : List Value} (hP : Paged w w1 n n) (hB : Built w1 wr (strm w.heap.size n w1.heap.size st en) pos beh len)
    (ht : TrimRel n w.heap.size (strm w.heap.size n w1.heap.size st en) (pgs w.heap.size n n) st low S' pg') (hos : w3.os = wr.os) (htape : w3.tape = wr.tape) (hout : w3.output = wr.output) (hsz : w3.heap.size = wr.heap.size + 1)
    (hoth : ∀ b, b < wr.heap.size → b ≠ w1.heap.size + 1 → b ≠ w.heap.size → w3.heap[b]? = wr.heap[b]?) (hS : w3.heap[w1.heap.size + 1]? = some (.cells S' 43 (0, 0))) (hpg : w3.heap[w.heap.size]? = some (.cells pg'.toArray 25 (0, 0))) :
    ∃ gone x es, After w w3 n (w1.heap.size + 1) w1.heap.size (w1.heap.size + 2) len gone x es en ∧ (low ≤ st → gone = 0 ∧ es = st) ∧ (st < low → es = low ∧ ∃ q : Nat, low / 4096 - st / 4096 = (q : Int) ∧ gone = if n < q then n else q) := by
  have s1 := hP.size
  have s2 := hB.size
  have hm : w3.heap[w1.heap.size]? = some (.map (ents (w1.heap.size + 2) len) len) := by rw [hoth _ (by omega) (by omega) (by omega)]; exact hB.map
  have hbytes : ∀ i, i < n → w3.cell? ⟨w.heap.size + 1 + i, 0, none⟩ = some (.int .u8 (i : Int)) := fun i hi => by
    have e : w3.heap[w.heap.size + 1 + i]? = some (.cells #[.int .u8 (i : Int)] 5 (0, 0)) := by
      rw [hoth _ (by omega) (by omega) (by omega), hB.old.block _ (by omega)]; exact hP.each i hi
    rw [cell_of_row _ _ _ _ _ _ e]; rfl
  have hold : Below w.heap.size w w3 := by
    refine (hP.old.trans (hB.old.mono (by omega))).trans ⟨hos, htape, hout, by omega, fun b hb => hoth b (by omega) (by omega) (by omega)⟩
  rcases ht with ⟨hl, rfl, rfl⟩ | ⟨hl, q, hq, ⟨hqn, rfl, rfl⟩ | ⟨hqn, rfl, rfl⟩⟩
  · refine ⟨0, 0, st, ⟨?_, ?_, ?_, ?_, hm, fun _ => rfl, Nat.zero_le _, ?_, ?_, hbytes, hold⟩, fun _ => ⟨rfl, rfl⟩, fun h => by omega⟩
    · rw [cell_of_row _ _ _ _ _ _ hS]; rfl
    · rw [cell_of_row _ _ _ _ _ _ hS]; rfl
    · rw [cell_of_row _ _ _ _ _ _ hS]; rfl
    · rw [cell_of_row _ _ _ _ _ _ hS]; rfl
    · intro i _ hi
      rw [cell_of_row _ _ _ _ _ _ hpg]
      simp [pgs_at, hi]
    · intro i hi; omega
  · refine ⟨q, q, low, ⟨?_, ?_, ?_, ?_, hm, fun _ => rfl, by omega, ?_, ?_, hbytes, hold⟩, fun h => by omega, fun _ => ⟨rfl, q, hq, by rw [if_neg (by omega)]⟩⟩
    · rw [cell_of_row _ _ _ _ _ _ hS]; rfl
    · rw [cell_of_row _ _ _ _ _ _ hS]; rfl
    · rw [cell_of_row _ _ _ _ _ _ hS]; rfl
    · rw [cell_of_row _ _ _ _ _ _ hS]; rfl
    · intro i hi1 hi
      rw [cell_of_row _ _ _ _ _ _ hpg, List.getElem?_toArray, cleared_high _ _ _ hi1, pgs_at _ _ _ _ hi, if_pos hi]
    · intro i hi
      rw [cell_of_row _ _ _ _ _ _ hpg, List.getElem?_toArray, cleared_low _ _ _ hi]
  · refine ⟨n, 0, low, ⟨?_, ?_, ?_, ?_, hm, fun h => by omega, by omega, ?_, ?_, hbytes, hold⟩, fun h => by omega, fun _ => ⟨rfl, q, hq, by split <;> omega⟩⟩
    · rw [cell_of_row _ _ _ _ _ _ hS]; rfl
    · rw [cell_of_row _ _ _ _ _ _ hS]; simp [strm]
    · rw [cell_of_row _ _ _ _ _ _ hS]; rfl
    · rw [cell_of_row _ _ _ _ _ _ hS]; rfl
    · intro i hi1 hi; omega
    · intro i hi
      rw [cell_of_row _ _ _ _ _ _ hpg, List.getElem?_toArray, cleared_low _ _ _ hi]

set_option maxHeartbeats 400000 in
set_option maxRecDepth 100000 in
theorem law_walk (ao : Option Addr) (len cap : Nat) (offs bases : Nat → Int) (beh : Nat → Bool) (a0 a1 : Int) (w : World) (h0 : 0 ≤ a0 ∧ a0 ≤ 65535) (h1 : 0 ≤ a1 ∧ a1 ≤ 255) (hlen : len ≤ 512) (hr : Rows3 w ao len offs bases beh) :
    Calls Yba.prog 3 #[.int .u16 a0, .int .u8 a1, .slice ao len cap] w fun e w' => e = .returned (.bool true) ∧ Below w.heap.size w w' := by
  obtain ⟨h00, h01⟩ := h0
  obtain ⟨h10, h11⟩ := h1
  have HR : Hid (Rows3 w ao len offs bases beh) := hr
  clear hr
  obtain ⟨st, hst⟩ : ∃ st, st = a0 * 997 := ⟨_, rfl⟩
  obtain ⟨en, hen⟩ : ∃ en, en = a0 * 997 + (a1 % 64) * 997 := ⟨_, rfl⟩
  obtain ⟨n, hn⟩ : ∃ n : Nat, (n : Int) = if st < en then (en + 4096 - 1) / 4096 - st / 4096 else 0 := ⟨(if st < en then (en + 4096 - 1) / 4096 - st / 4096 else 0).toNat, by split <;> omega⟩
  have hst0 : 0 ≤ st := by omega
  have hst1 : st ≤ 65338395 := by omega
  have hen0 : st ≤ en := by omega
  have hen1 : en ≤ 65401206 := by omega
  have hn1 : n ≤ 20 := by split at hn <;> omega
  have HST : Hid (st = a0 * 997) := hst
  have HEN : Hid (en = a0 * 997 + (a1 % 64) * 997) := hen
  have HN : Hid ((n : Int) = if st < en then (en + 4096 - 1) / 4096 - st / 4096 else 0) := hn
  clear hst hen hn
  have hmk := make_pages w n (by omega)
  have hmm := @run_makeMap Yba.prog
  go_enter Yba.func3, Yba.ntmps3
  go_upto_if 42 with fail
  go_cut [7, 8, 9] from 28 (fun s7 s8 s9 wc => s7 = .int .i64 st ∧ s8 = .int .i64 en ∧ s9 = .int .i64 (n : Int) ∧ w = wc)
  case first =>
    by_cases hlt : st < en
    · have hlt' : a0 * 997 < a0 * 997 + a1 % 64 * 997 := by rw [HST.out, HEN.out] at hlt; exact hlt
      go_wp2
      go_meet
      case rel =>
        refine ⟨by rw [HST.out], by rw [HEN.out], ?_, rfl⟩
        rw [HN.out, if_pos hlt, HST.out, HEN.out]
    · have hlt' : ¬ a0 * 997 < a0 * 997 + a1 % 64 * 997 := by rw [HST.out, HEN.out] at hlt; exact hlt
      go_wp2
      go_meet
      case rel =>
        refine ⟨by rw [HST.out], by rw [HEN.out], ?_, rfl⟩
        rw [HN.out, if_neg (by omega)]
  case rest =>
    obtain ⟨rfl, rfl, rfl, rfl⟩ := hcut
    go_wp2_with fail
    go_loopw [54] (fun v wr => ∃ k : Nat, k ≤ n ∧ v = .int .i64 (k : Int) ∧ Paged w wr n k) (fun v _ => n - (intOf v).toNat)
    case atStart => exact ⟨0, Nat.zero_le _, rfl, Paged.start w n⟩
    case round =>
      obtain ⟨k, hk, rfl, hP⟩ := hrel
      clear hmk
      by_cases hkn : k < n
      · have c1 : wr.cell? ⟨w.heap.size, k, none⟩ = some (.slice none 0 0) := by rw [cell_of_row _ _ _ _ _ _ hP.pages]; simp [pgs_at, hkn]
        have f1 : wr.frozen? ⟨w.heap.size, k, none⟩ = false := frozen_of_row _ _ _ _ _ hP.pages
        have z1 : w.heap.size < wr.heap.size := by have := hP.size; omega
        go_wp2
        refine ⟨⟨k + 1, by omega, by go_num, hP.step⟩, by simp [intOf]; omega⟩
      · obtain rfl : n = k := by omega
        clear hkn hk
        obtain ⟨w1, rfl⟩ : ∃ w1, w1 = wr := ⟨_, rfl⟩
        go_wp2_with fail
        go_loopw [13, 14, 74] (fun v13 v14 v wr => ∃ (k : Nat) (low : Int) (fol : Bool), k ≤ len ∧ v = .int .i64 (k : Int) ∧ v13 = .int .i64 low ∧ v14 = .bool fol ∧ 
            IsLow (fun i => st - 2000 + offs i % 128 * 997) beh (· < k) en low fol ∧ Built w1 wr (strm w.heap.size n w1.heap.size st en) (fun i => st - 2000 + offs i % 128 * 997) beh k) (fun _ _ v _ => len - (intOf v).toNat)
        case atStart => exact ⟨0, en, false, Nat.zero_le _, rfl, rfl, rfl, IsLow.start _ _ _ _ (by simp), Built.start _ _ _ _⟩
        case round =>
          obtain ⟨k, low, fol, hk, rfl, rfl, rfl, hlow, hB⟩ := hrel
          by_cases hkl : k < len
          · obtain ⟨b, o, hao, hb, x0, x1, x2, g1, g2, g3, g4⟩ := HR.out k hkl
            subst hao
            have hP1 := hP.old
            have hB1 := hB.old
            have hws : w.heap.size ≤ w1.heap.size := by have := hP.size; omega
            have y0 : wr.cell? ⟨b, o + k * 3, none⟩ = some (.int .u16 (offs k)) := by rw [hB1.cell (by simp; omega), hP1.cell (by simpa using hb)]; exact x0
            have y1 : wr.cell? ⟨b, o + k * 3 + 1, none⟩ = some (.int .u16 (bases k)) := by rw [hB1.cell (by simp; omega), hP1.cell (by simpa using hb)]; exact x1
            have y2 : wr.cell? ⟨b, o + k * 3 + 2, none⟩ = some (.bool (beh k)) := by rw [hB1.cell (by simp; omega), hP1.cell (by simpa using hb)]; exact x2
            have z5 : wr.cell? ⟨w1.heap.size + 1, 5, none⟩ = some (.map (some w1.heap.size)) := by rw [cell_of_row _ _ _ _ _ _ hB.str]; rfl
            have hbs : b < wr.heap.size := by have := hB.size; omega
            have hss : w1.heap.size + 1 < wr.heap.size := by have := hB.size; omega
            have hput := hB.put
            have z5' : ∀ X Y : Obj, ((wr.alloc X).alloc Y).cell? ⟨w1.heap.size + 1, 5, none⟩ = some (.map (some w1.heap.size)) := fun X Y => by
              rw [World.cell?_of_block (Go.heap_alloc_old _ _ (by simp; omega)), World.cell?_of_block (Go.heap_alloc_old _ _ (by simp; omega))]; exact z5
            have x5 : ∀ (u v bb : Value) (c : Array Value) (m : Obj), (ChangeMaps.setBlock ((wr.alloc (.cells #[u, v, bb] 45)).alloc (.cells c 50)) w1.heap.size m).cell? ⟨wr.heap.size, 2, none⟩ = some bb := fun u v bb c m => by
              rw [World.cell?_of_block (w := (wr.alloc (.cells #[u, v, bb] 45))) (by simp only [ChangeMaps.setBlock]; rw [Array.getElem?_setIfInBounds_ne (by omega)]; exact Go.heap_alloc_old _ _ (by simp)), cell_of_row _ _ _ _ _ _ (heap_alloc_new _ _)]
              rfl
            clear x0 x1 x2 hP1 hB1
            have hstep := hB.step
            have HST' : Hid (∀ (xs : Array Value) (c0 c1 c2 c6 c7 c8 c9 : Value) (o s : Int), o + s = st - 2000 + offs k % 128 * 997 → -1000000000 ≤ o → o ≤ 1000000000 → -1000000000 ≤ s → s ≤ 1000000000 →
              Built w1 (ChangeMaps.setBlock ((wr.alloc (.cells xs 45)).alloc (.cells #[c0, c1, c2, .int .i64 o, .int .i64 s, .bool (beh k), c6, c7, c8, c9] 50)) w1.heap.size (.map (ents (w1.heap.size + 2) (k + 1)) (k + 1))) (strm w.heap.size n w1.heap.size st en) (fun i => st - 2000 + offs i % 128 * 997) beh (k + 1)) := hstep
            have HLo : Hid (IsLow (fun i => st - 2000 + offs i % 128 * 997) beh (· < k) en low fol) := hlow
            have hlo := hlow.le
            clear hstep hB hlow hP
            cases hbk : beh k with
            | true =>
              rw [hbk] at y2
              have HST2 := HST'.out
              rw [hbk] at HST2
              have HST3 := show Hid _ from HST2
              have HBK : Hid (beh k = true) := hbk
              clear hbk HST2
              go_wp2
              refine ⟨⟨k + 1, low, fol, by omega, by go_num, rfl, rfl, HLo.out.skip (j := k) (fun i => by omega) HBK.out, HST3.out _ _ _ _ _ _ _ _ _ _ (by omega) (by omega) (by omega) (by omega) (by omega)⟩, by simp [intOf]; omega⟩
            | false =>
              rw [hbk] at y2
              have HST2 := HST'.out
              rw [hbk] at HST2
              have HST3 := show Hid _ from HST2
              have HBK : Hid (beh k = false) := hbk
              have HT : Hid _ := HLo.out.take (S' := (· < k + 1)) (j := k) (fun i => by omega) hbk
              clear hbk HST2
              by_cases hpl : st - 2000 + offs k % 128 * 997 < low
              · go_wp2
                have HT' := HT.out
                simp only [hpl, if_true] at HT'
                exact ⟨⟨k + 1, _, true, by omega, by go_num, rfl, rfl, HT', HST3.out _ _ _ _ _ _ _ _ _ _ (by omega) (by omega) (by omega) (by omega) (by omega)⟩, by simp [intOf]; omega⟩
              · go_wp2
                have HT' := HT.out
                simp only [hpl, if_false] at HT'
                exact ⟨⟨k + 1, _, true, by omega, by go_num, rfl, rfl, HT', HST3.out _ _ _ _ _ _ _ _ _ _ (by omega) (by omega) (by omega) (by omega) (by omega)⟩, by simp [intOf]; omega⟩
          · obtain rfl : len = k := by omega
            clear hkl hk
            have s1 := hP.size
            have s2 := hB.size
            have z5 : wr.cell? ⟨w1.heap.size + 1, 5, none⟩ = some (.map (some w1.heap.size)) := by rw [cell_of_row _ _ _ _ _ _ hB.str]; rfl
            have hln := run_len_map wr w1.heap.size (w1.heap.size + 2) len 3 hB.map
            have HB : Hid (Built w1 wr (strm w.heap.size n w1.heap.size st en) (fun i => st - 2000 + offs i % 128 * 997) beh len) := hB
            have HPg : Hid (Paged w w1 n n) := hP
            have HLo : Hid (IsLow (fun i => st - 2000 + offs i % 128 * 997) beh (· < len) en low fol) := hlow
            have hlo := hlow.le
            clear hB hP hlow s1 s2
            go_wp2_with fail
            have s1 := HPg.out.size
            have s2 := HB.out.size
            refine (forget_any (w1.heap.size + 1) w.heap.size w1.heap.size (w1.heap.size + 2) len n st en (fun i => st - 2000 + offs i % 128 * 997) beh wr (by omega) (by omega) (strm w.heap.size n w1.heap.size st en) (pgs w.heap.size n n) HB.out.str
              (by rw [HB.out.old.block _ (by omega)]; exact HPg.out.pages) (pgs_length _ _ _) rfl rfl rfl rfl hst0 (by omega) (by omega) HB.out.map HB.out.reader).mono ?_
            rintro e w3 ⟨low', fol', S', pg', rfl, hlow', htr, q1, q2, q3, q4, q5, q6, q7⟩
            obtain ⟨rfl, rfl⟩ := HLo.out.unique (fun _ => Iff.rfl) hlow'
            obtain ⟨gone, x, es, hA, hg0, hg1⟩ := after_mk HPg.out HB.out htr q1 q2 q3 q4 q5 q6 q7
            have HG0 : Hid (low ≤ st → gone = 0 ∧ es = st) := hg0
            have HG1 : Hid (st < low → es = low ∧ ∃ q : Nat, low / 4096 - st / 4096 = (q : Int) ∧ gone = if n < q then n else q) := hg1
            have d5 := hA.c5
            have d6 := hA.c6
            have d7 := hA.c7
            have d8 := hA.c8
            have dln := run_len_map w3 w1.heap.size (w1.heap.size + 2) len 3 hA.hm
            have hgn := hA.gn
            have HA : Hid (After w w3 n (w1.heap.size + 1) w1.heap.size (w1.heap.size + 2) len gone x es en) := hA
            clear hA hg0 hg1 hlow' htr q1 q2 q3 q4 q5 q6 q7 hln z5 s1 s2
            go_upto_if 126 with fail
            go_cut [22, 23] from 28 (fun s22 s23 wc => s22 = .int .i64 es ∧ s23 = .int .i64 (gone : Int) ∧ w3 = wc)
            case first =>
              clear d5 d6 d7 d8 dln
              by_cases hsl : st < low
              · obtain ⟨e1, q, e2, e3⟩ := HG1.out hsl
                have E1 : Hid (es = low) := e1
                have E3 : Hid (gone = if n < q then n else q) := e3
                clear e1 e3
                by_cases hnq : n < q
                · go_wp2
                  go_meet
                  case rel => exact ⟨by rw [E1.out], by rw [E3.out, if_pos hnq], rfl⟩
                · go_wp2
                  go_meet
                  case rel => exact ⟨by rw [E1.out], by rw [E3.out, if_neg hnq], rfl⟩
              · obtain ⟨e1, e2⟩ := HG0.out (by omega)
                have E1 : Hid (es = st) := e2
                have E2 : Hid (gone = 0) := e1
                clear e1 e2
                go_wp2
                go_meet
                case rel => exact ⟨by rw [E1.out], by rw [E2.out]; rfl, rfl⟩
            case rest =>
              obtain ⟨rfl, rfl, rfl⟩ := hcut
              go_wp2_with fail
              go_loop [25] (fun v => ∃ j : Nat, j ≤ n - gone ∧ v = .int .i64 (j : Int)) (fun v => n - gone - (intOf v).toNat)
              case atStart => exact ⟨0, Nat.zero_le _, rfl⟩
              case round =>
                obtain ⟨j, hj, rfl⟩ := hrel
                by_cases hjn : j < n - gone
                · obtain rfl : x = gone := HA.out.hx (by omega)
                  have p1 : w3.cell? ⟨w.heap.size, x + j, none⟩ = some (.slice (some ⟨w.heap.size + 1 + (x + j), 0, none⟩) 1 1) := HA.out.kept (x + j) (by omega) (by omega)
                  have p2 : w3.cell? ⟨w.heap.size + 1 + (x + j), 0, none⟩ = some (.int .u8 ((x : Int) + (j : Int))) := by have := HA.out.bytes (x + j) (by omega); rw [this]; simp
                  have i1 : (j : Int) < (n : Int) - (x : Int) := by omega
                  have i2 : (j : Int) < ((n - x : Nat) : Int) := by omega
                  go_wp2
                  exact ⟨⟨j + 1, by omega, by go_num⟩, by simp [intOf]; omega⟩
                · have i1 : ¬ (j : Int) < (n : Int) - (gone : Int) := by omega
                  go_wp2_with fail
                  go_loop [27] (fun v => ∃ i : Nat, i ≤ gone ∧ v = .int .i64 (i : Int)) (fun v => gone - (intOf v).toNat)
                  case atStart => exact ⟨0, Nat.zero_le _, rfl⟩
                  case round =>
                    obtain ⟨i, hi, rfl⟩ := hrel
                    by_cases hig : i < gone
                    · have p1 : w3.cell? ⟨w.heap.size, i, none⟩ = some (.slice none 0 0) := HA.out.nilled i hig
                      have i2 : (i : Int) < (n : Int) := by omega
                      go_wp2
                      exact ⟨⟨i + 1, by omega, by go_num⟩, by simp [intOf]; omega⟩
                    · go_wp2
                      go_ret
                      exact ⟨rfl, HA.out.old⟩

set_option maxHeartbeats 400000 in
set_option maxRecDepth 100000 in
theorem law_long (ao : Option Addr) (len cap : Nat) (a0 a1 : Int) (w : World) (hlen : 512 < len) :
    Calls Yba.prog 3 #[.int .u16 a0, .int .u8 a1, .slice ao len cap] w fun e w' => e = .returned (.bool true) ∧ Below w.heap.size w w' := by
  have h : (512 : Int) < (len : Int) := by omega
  go_enter Yba.func3, Yba.ntmps3
  go_wp2
  go_ret
  exact ⟨rfl, Below.refl _ _⟩

end Go.Proofs.Ybulkbwss
