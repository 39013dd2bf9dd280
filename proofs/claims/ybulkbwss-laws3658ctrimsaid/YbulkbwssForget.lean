import Derived.Test.YbulkbwssMap
namespace Go.Proofs.Ybulkbwss
open Go.RowKit

/-! ### The least offset: no Go in sight -/
structure IsLow (pos : Nat → Int) (beh : Nat → Bool) (S : Nat → Prop) (en low : Int) (fol : Bool) : Prop where
  le : low ≤ en
  each : ∀ i, S i → beh i = false → low ≤ pos i
  is : low = en ∨ ∃ i, S i ∧ beh i = false ∧ low = pos i
  fols : fol = true ↔ ∃ i, S i ∧ beh i = false

theorem IsLow.unique {pos : Nat → Int} {beh : Nat → Bool} {S S' : Nat → Prop} {en low low' : Int} {fol fol' : Bool} (hS : ∀ i, S i ↔ S' i) (h : IsLow pos beh S en low fol) (h' : IsLow pos beh S' en low' fol') : low = low' ∧ fol = fol' := by
  constructor
  · apply Int.le_antisymm
    · rcases h'.is with e | ⟨i, hi, hb, e⟩
      · rw [e]; exact h.le
      · rw [e]; exact h.each i ((hS i).2 hi) hb
    · rcases h.is with e | ⟨i, hi, hb, e⟩
      · rw [e]; exact h'.le
      · rw [e]; exact h'.each i ((hS i).1 hi) hb
  · rw [Bool.eq_iff_iff, h.fols, h'.fols]
    constructor
    · rintro ⟨i, hi, hb⟩; exact ⟨i, (hS i).1 hi, hb⟩
    · rintro ⟨i, hi, hb⟩; exact ⟨i, (hS i).2 hi, hb⟩

theorem IsLow.start (pos : Nat → Int) (beh : Nat → Bool) (S : Nat → Prop) (en : Int) (h : ∀ i, ¬ S i) : IsLow pos beh S en en false :=
  ⟨Int.le_refl _, fun i hi => absurd hi (h i), .inl rfl, by simp; intro i hi; exact absurd hi (h i)⟩

theorem IsLow.skip {pos : Nat → Int} {beh : Nat → Bool} {S S' : Nat → Prop} {en low : Int} {fol : Bool} {j : Nat} (h : IsLow pos beh S en low fol) (hS : ∀ i, S' i ↔ S i ∨ i = j) (hb : beh j = true) : IsLow pos beh S' en low fol := by
  refine ⟨h.le, fun i hi hbi => ?_, ?_, ?_⟩
  · rcases (hS i).1 hi with hi | rfl
    · exact h.each i hi hbi
    · rw [hb] at hbi; cases hbi
  · rcases h.is with e | ⟨i, hi, hbi, e⟩
    · exact .inl e
    · exact .inr ⟨i, (hS i).2 (.inl hi), hbi, e⟩
  · rw [h.fols]
    constructor
    · rintro ⟨i, hi, hbi⟩; exact ⟨i, (hS i).2 (.inl hi), hbi⟩
    · rintro ⟨i, hi, hbi⟩
      rcases (hS i).1 hi with hi | rfl
      · exact ⟨i, hi, hbi⟩
      · rw [hb] at hbi; cases hbi

theorem IsLow.take {pos : Nat → Int} {beh : Nat → Bool} {S S' : Nat → Prop} {en low : Int} {fol : Bool} {j : Nat} (h : IsLow pos beh S en low fol) (hS : ∀ i, S' i ↔ S i ∨ i = j) (hb : beh j = false) :
    IsLow pos beh S' en (if pos j < low then pos j else low) true := by
  refine ⟨?_, fun i hi hbi => ?_, ?_, ?_⟩
  · have := h.le; split <;> omega
  · rcases (hS i).1 hi with hi | rfl
    · have := h.each i hi hbi; split <;> omega
    · split <;> omega
  · split
    · exact .inr ⟨j, (hS j).2 (.inr rfl), hb, rfl⟩
    · rcases h.is with e | ⟨i, hi, hbi, e⟩
      · exact .inl e
      · exact .inr ⟨i, (hS i).2 (.inl hi), hbi, e⟩
  · simp; exact ⟨j, (hS j).2 (.inr rfl), hb⟩

/-! ### trim, in one -/
def TrimRel (n pb : Nat) (S : Array Value) (pg : List Value) (st low : Int) (S' : Array Value) (pg' : List Value) : Prop :=
  (low ≤ st ∧ S' = S ∧ pg' = pg) ∨
  (st < low ∧ ∃ q : Nat, low / 4096 - st / 4096 = (q : Int) ∧
    ((q < n ∧ S' = ((S.setIfInBounds 6 (.slice (some ⟨pb, q, none⟩) (n - q) (n - q))).setIfInBounds 7 (.int .i64 low)) ∧ pg' = cleared q pg) ∨
     (n ≤ q ∧ S' = ((S.setIfInBounds 6 (.slice (some ⟨pb, 0, none⟩) 0 0)).setIfInBounds 7 (.int .i64 low)) ∧ pg' = cleared n pg)))

theorem trim_any (sb pb n : Nat) (off st : Int) (w : World) (hne : sb ≠ pb) (S : Array Value) (pg : List Value) (hS : w.heap[sb]? = some (.cells S 43 (0, 0))) (hP : w.heap[pb]? = some (.cells pg.toArray 25 (0, 0)))
    (hpl : pg.length = n) (h6 : S[6]? = some (.slice (some ⟨pb, 0, none⟩) n n)) (h7 : S[7]? = some (.int .i64 st)) (hst : 0 ≤ st) (hoff : off ≤ 1000000000) (hn : n ≤ 1000) :
    Calls Yba.prog 6 #[.pointer (some ⟨sb, 6, none⟩), .int .i64 off] w fun e w' => e = .returned (.tuple #[]) ∧ ∃ S' pg', TrimRel n pb S pg st off S' pg' ∧ Trimmed w w' sb pb S' pg' := by
  by_cases h : off ≤ st
  · refine (trim_no sb off st w (by rw [cell_of_row w sb 7 S 43 _ hS, h7]) h).mono ?_
    rintro e w' ⟨rfl, rfl⟩
    exact ⟨rfl, S, pg, .inl ⟨h, rfl, rfl⟩, ⟨rfl, rfl, rfl, rfl, fun _ _ _ => rfl, hS, hP⟩⟩
  · obtain ⟨q, hq⟩ : ∃ q : Nat, off / 4096 - st / 4096 = (q : Int) := ⟨(off / 4096 - st / 4096).toNat, by omega⟩
    by_cases hqn : q < n
    · refine (trim_some sb pb n q off st w hne S pg hS hP hpl h6 h7 hst hoff hn h hq hqn).mono ?_
      rintro e w' ⟨rfl, hT⟩
      exact ⟨rfl, _, _, .inr ⟨by omega, q, hq, .inl ⟨hqn, rfl, rfl⟩⟩, hT⟩
    · refine (trim_all sb pb n q off st w hne S pg hS hP hpl h6 h7 hst hoff hn h hq (by omega)).mono ?_
      rintro e w' ⟨rfl, hT⟩
      exact ⟨rfl, _, _, .inr ⟨by omega, q, hq, .inr ⟨by omega, rfl, rfl⟩⟩, hT⟩

/-! ### forget -/
structure Reader (w : World) (b : Nat) (pos : Int) (beh : Bool) : Prop where
  lt : b < w.heap.size
  row : ∃ o s : Int, o + s = pos ∧ -1000000000 ≤ o ∧ o ≤ 1000000000 ∧ -1000000000 ≤ s ∧ s ≤ 1000000000 ∧ w.cell? ⟨b, 3, none⟩ = some (.int .i64 o) ∧ w.cell? ⟨b, 4, none⟩ = some (.int .i64 s)
  beh : w.cell? ⟨b, 5, none⟩ = some (.bool beh)

theorem Reader.mono {w w' : World} {b : Nat} {pos : Int} {beh : Bool} (h : Reader w b pos beh) (hb : w'.heap[b]? = w.heap[b]?) (hs : w.heap.size ≤ w'.heap.size) : Reader w' b pos beh := by
  have e : ∀ o, w'.cell? ⟨b, o, none⟩ = w.cell? ⟨b, o, none⟩ := fun o => World.cell?_of_block hb
  refine ⟨Nat.lt_of_lt_of_le h.lt hs, ?_, by rw [e]; exact h.beh⟩
  obtain ⟨o, s, h1, h2, h3, h4, h5, h6, h7⟩ := h.row
  exact ⟨o, s, h1, h2, h3, h4, h5, by rw [e]; exact h6, by rw [e]; exact h7⟩

set_option maxHeartbeats 400000 in
theorem forget_any (sb pb mb B k n : Nat) (st en : Int) (pos : Nat → Int) (beh : Nat → Bool) (w : World) (hne : sb ≠ pb) (hmb : mb < w.heap.size) (S : Array Value) (pg : List Value) (hS : w.heap[sb]? = some (.cells S 43 (0, 0))) (hP : w.heap[pb]? = some (.cells pg.toArray 25 (0, 0)))
    (hpl : pg.length = n) (h5 : S[5]? = some (.map (some mb))) (h6 : S[6]? = some (.slice (some ⟨pb, 0, none⟩) n n)) (h7 : S[7]? = some (.int .i64 st)) (h8 : S[8]? = some (.int .i64 en)) (hst : 0 ≤ st) (hen : en ≤ 1000000000) (hn : n ≤ 1000)
    (hm : w.heap[mb]? = some (.map (ents B k) k)) (hR : ∀ i, i < k → Reader w (B + 2 * i + 1) (pos i) (beh i)) :
    Calls Yba.prog 4 #[.pointer (some ⟨sb, 0, none⟩)] w fun e w' => ∃ low fol S' pg', e = .returned (.bool fol) ∧ IsLow pos beh (· < k) en low fol ∧ TrimRel n pb S pg st low S' pg' ∧ 
      w'.os = w.os ∧ w'.tape = w.tape ∧ w'.output = w.output ∧ w'.heap.size = w.heap.size + 1 ∧ (∀ b, b < w.heap.size → b ≠ sb → b ≠ pb → w'.heap[b]? = w.heap[b]?) ∧ w'.heap[sb]? = some (.cells S' 43 (0, 0)) ∧ w'.heap[pb]? = some (.cells pg'.toArray 25 (0, 0)) := by
  have c5 : w.cell? ⟨sb, 5, none⟩ = some (.map (some mb)) := by rw [cell_of_row w sb 5 S 43 _ hS, h5]
  have c8 : w.cell? ⟨sb, 8, none⟩ = some (.int .i64 en) := by rw [cell_of_row w sb 8 S 43 _ hS, h8]
  have hrg := run_range_map w mb B k hm
  have hsb : sb < w.heap.size := (Array.getElem?_eq_some_iff.1 hS).1
  have hpb : pb < w.heap.size := (Array.getElem?_eq_some_iff.1 hP).1
  have HR : Hid (∀ i, i < k → Reader w (B + 2 * i + 1) (pos i) (beh i)) := hR
  have HS : Hid (w.heap[sb]? = some (.cells S 43 (0, 0))) := hS
  have HP : Hid (w.heap[pb]? = some (.cells pg.toArray 25 (0, 0))) := hP
  have H6 : Hid (S[6]? = some (.slice (some ⟨pb, 0, none⟩) n n)) := h6
  have H7 : Hid (S[7]? = some (.int .i64 st)) := h7
  have HM : Hid (w.heap[mb]? = some (.map (ents B k) k)) := hm
  have HL : Hid (pg.length = n) := hpl
  clear hR hS hP h5 h6 h7 h8 hm hpl
  go_enter Yba.func4, Yba.ntmps4
  go_wp2
  go_loopw [3, 4, 5] (fun v3 v4 _ wr => ∃ (low : Int) (fol : Bool) (seen : Array Nat), v3 = .int .i64 low ∧ v4 = .bool fol ∧ IsLow pos beh (· ∈ seen) en low fol ∧ (∀ i, i ∈ seen → i < k) ∧
      wr.heap[w.heap.size]? = some (.mapIter (some mb) k seen k) ∧ (∀ b, b < w.heap.size → wr.heap[b]? = w.heap[b]?) ∧ wr.heap.size = w.heap.size + 1 ∧ wr.os = w.os ∧ wr.tape = w.tape ∧ wr.output = w.output)
    (fun _ _ _ wr => wr.rangeLeft mb w.heap.size)
  case atStart =>
    exact ⟨en, false, #[], rfl, rfl, IsLow.start _ _ _ _ (by simp), by simp, heap_alloc_new _ _, fun b hb => Go.heap_alloc_old _ _ hb, by simp, rfl, rfl, rfl⟩
  case round =>
    obtain ⟨low, fol, seen, rfl, rfl, hlow, hsk, hr, hold, hsz, ho, ht, hu⟩ := hrel
    have HO : Hid (∀ b, b < w.heap.size → wr.heap[b]? = w.heap[b]?) := hold
    have hm' : wr.heap[mb]? = some (.map (ents B k) k) := (hold mb hmb).trans HM.out
    clear hold
    have HLo : Hid (IsLow pos beh (· ∈ seen) en low fol) := hlow
    have hlo : low ≤ en := hlow.le
    clear hlow
    go_wp2_with (at_next; refine wpList_next_reader rfl _ rfl w.heap.size mb B k seen rfl (by omega) hr hm' ?_ ?_)
    · intro hall
      have HA : Hid (∀ i, i < k → i ∈ seen) := hall
      have HSK : Hid (∀ i, i ∈ seen → i < k) := hsk
      clear hall hsk
      go_wp2_with fail
      refine (trim_any sb pb n low st wr hne S pg ((HO.out sb hsb).trans HS.out) ((HO.out pb hpb).trans HP.out) HL.out H6.out H7.out hst (by omega) hn).mono ?_
      rintro e w2 ⟨rfl, S', pg', hrel, hT⟩
      have G : Hid (IsLow pos beh (· < k) en low fol ∧ TrimRel n pb S pg st low S' pg' ∧ w2.os = w.os ∧ w2.tape = w.tape ∧ w2.output = w.output ∧ w2.heap.size = w.heap.size + 1 ∧ (∀ b, b < w.heap.size → b ≠ sb → b ≠ pb → w2.heap[b]? = w.heap[b]?) ∧ w2.heap[sb]? = some (.cells S' 43 (0, 0)) ∧ w2.heap[pb]? = some (.cells pg'.toArray 25 (0, 0))) := by
        refine ⟨?_, hrel, hT.os.trans ho, hT.tape.trans ht, hT.output.trans hu, hT.size.trans hsz, fun b hb h1 h2 => (hT.other b h1 h2).trans (HO.out b hb), hT.str, hT.pages⟩
        have hl := HLo.out
        exact ⟨hl.le, fun i hi hb => hl.each i (HA.out i hi) hb, hl.is.elim .inl (fun ⟨i, hi, hb⟩ => .inr ⟨i, HSK.out i hi, hb⟩), hl.fols.trans ⟨fun ⟨i, hi, hb⟩ => ⟨i, HSK.out i hi, hb⟩, fun ⟨i, hi, hb⟩ => ⟨i, HA.out i hi, hb⟩⟩⟩
      clear hrel hT hr hm' ho ht hu hsz hrg
      go_wp2
      go_ret
      exact ⟨low, fol, S', pg', rfl, G.out⟩
    · intro i w1 hik hns hr1 ho1 hs1 e1 e2 e3 hl1 hen1
      have HO1 : Hid (∀ b, b < w.heap.size → w1.heap[b]? = w.heap[b]?) := fun b hb => (ho1 b (by omega)).trans (HO.out b hb)
      have R := (HR.out i hik).mono (w' := w1) (HO1.out _ (HR.out i hik).lt) (by omega)
      obtain ⟨o, s, hpos, g1, g2, g3, g4, c3, c4⟩ := R.row
      have c5' := R.beh
      have HPo : Hid (o + s = pos i) := hpos
      have HSK : Hid (∀ j, j ∈ seen.push i → j < k) := fun j hj => by
        rcases Array.mem_push.1 hj with hj | rfl
        · exact hsk j hj
        · exact hik
      have HME : Hid (w1.rangeLeft mb w.heap.size < wr.rangeLeft mb w.heap.size) := hl1
      have HR1 : Hid (w1.heap[w.heap.size]? = some (.mapIter (some mb) k (seen.push i) k)) := hr1
      have E1 : w1.os = w.os := by first | exact e1 | exact e1.trans ho
      have E2 : w1.tape = w.tape := by first | exact e2 | exact e2.trans ht
      have E3 : w1.output = w.output := by first | exact e3 | exact e3.trans hu
      have E4 : w1.heap.size = w.heap.size + 1 := by omega
      clear R hpos hsk hl1 hr1 ho1 hs1 e1 e2 e3 ho ht hu hsz hrg hr hm' c5 c8
      cases hb : beh i with
      | true =>
        rw [hb] at c5'
        have HB : Hid (beh i = true) := hb
        clear hb
        go_wp2
        go_roundw
        case rel => exact ⟨low, fol, seen.push i, rfl, rfl, HLo.out.skip (fun j => by simp [Array.mem_push]) HB.out, HSK.out, HR1.out, HO1.out, E4, E1, E2, E3⟩
        case measure => exact HME.out
      | false =>
        rw [hb] at c5'
        have HB : Hid (beh i = false) := hb
        clear hb
        go_wp2_with (go_at_call 5; refine (at_any _ o s _ c3 c4 ⟨g1, g2⟩ ⟨g3, g4⟩).mono ?_; rintro e w2 ⟨rfl, nd, rfl⟩)
        refine ⟨⟨_, true, seen.push i, rfl, rfl, ?_, HSK.out, HR1.out, HO1.out, E4, E1, E2, E3⟩, HME.out⟩
        rw [HPo.out]
        exact HLo.out.take (fun j => by simp [Array.mem_push]) HB.out

end Go.Proofs.Ybulkbwss
