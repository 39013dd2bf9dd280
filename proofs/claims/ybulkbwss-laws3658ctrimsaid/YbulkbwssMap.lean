import Derived.Test.YbulkbwssTrim
import Derived.Maps.RangeWalk
import Derived.LaidEqlPtr
namespace Go.Proofs.Ybulkbwss
open Go.RowKit
open Go.ChangeMaps (setBlock)

/-- The entry that the round i lays: its key the pointer to the reader's block. -/
def ent (B i : Nat) : MapEntry := { key := .pointer (some ⟨B + 2 * i + 1, 0, none⟩), val := .agg #[], born := i }
def ents (B k : Nat) : Array MapEntry := ((List.range k).map (ent B)).toArray

theorem ents_succ (B k : Nat) : (ents B k).push { key := .pointer (some ⟨B + 2 * k + 1, 0, none⟩), val := .agg #[], born := k } = ents B (k + 1) := by
  simp [ents, List.range_succ, ent]
theorem ents_size (B k : Nat) : (ents B k).size = k := by simp [ents]
theorem mem_ents {B k : Nat} {e : MapEntry} : e ∈ (ents B k).toList ↔ ∃ i, i < k ∧ ent B i = e := by simp [ents]
theorem ents_born (B k : Nat) : ((ents B k).toList.map (·.born)) = List.range k := by
  simp only [ents, List.map_map]
  have : (fun e : MapEntry => e.born) ∘ ent B = id := rfl
  rw [this]; simp

theorem Yba.size50 : (Yba.prog.info? 50).map (·.size) = some 10 := by kernel_rfl

/-- Two pointers to two blocks of readers: not the same. -/
theorem eq_apart (w : World) (a b : Nat) (ca cb : Array Value) (hne : a ≠ b) (ha : w.heap[a]? = some (.cells ca 50 (0, 0))) (hb : w.heap[b]? = some (.cells cb 50 (0, 0))) :
    (Op.equal 46 (.pointer (some ⟨a, 0, none⟩)) (.pointer (some ⟨b, 0, none⟩))).run Yba.prog w = .ok false w := by
  obtain ⟨j, hj, hs⟩ := Option.map_eq_some_iff.1 Yba.size50
  have h := run_sameAddr_other (P := Yba.prog) w (a := ⟨a, 0, none⟩) (b := ⟨b, 0, none⟩) (ca := ca) (cb := cb) (ta := 50) (tb := 50) (fun e => hne (congrArg Addr.block e)) ha hb
  have h' : ∀ d : Nat, (Op.equalIn (d + 1) 46 (.pointer (some ⟨a, 0, none⟩)) (.pointer (some ⟨b, 0, none⟩))).run Yba.prog w = .ok false w := fun d => by
    simp [Op.equalIn, run_underlying Yba.underlying46, sizeOf, typeInfo, hj, hs, h]
  exact h' 9999

theorem findAsking_none (w : World) (a : Nat) (ca : Array Value) (ha : w.heap[a]? = some (.cells ca 50 (0, 0))) : ∀ (l : List MapEntry) (i : Nat),
    (∀ e ∈ l, ∃ b cb, e.key = .pointer (some ⟨b, 0, none⟩) ∧ a ≠ b ∧ w.heap[b]? = some (.cells cb 50 (0, 0))) → (Instr.findAsking 46 (.pointer (some ⟨a, 0, none⟩)) l i).run Yba.prog w = .ok none w
  | [], _, _ => by simp [Instr.findAsking]
  | e :: l, i, h => by
    obtain ⟨b, cb, hk, hne, hb⟩ := h e (by simp)
    have ih := findAsking_none w a ca ha l (i + 1) (fun e' he' => h e' (by simp [he']))
    simp [Instr.findAsking, hk, eq_apart w a b ca cb hne ha hb, ih, Result.andThen]

theorem findKey_none (w : World) (a : Nat) (ca : Array Value) (ha : w.heap[a]? = some (.cells ca 50 (0, 0))) (l : List MapEntry)
    (h : ∀ e ∈ l, ∃ b cb, e.key = .pointer (some ⟨b, 0, none⟩) ∧ a ≠ b ∧ w.heap[b]? = some (.cells cb 50 (0, 0))) : (Instr.findKey 46 (.pointer (some ⟨a, 0, none⟩)) l).run Yba.prog w = .ok none w := by
  cases l with
  | nil => simp [Instr.findKey, run_underlying Yba.underlying46, Instr.findNow, Result.andThen]
  | cons e l =>
    obtain ⟨b, cb, hk, hne, hb⟩ := h e (by simp)
    have := findAsking_none w a ca ha (e :: l) 0 h
    simp [Instr.findKey, run_underlying Yba.underlying46, Instr.findNow, Instr.sameNow, this, Result.andThen]

/-- 's.readers[r] = struct{}{}' with a new reader. -/
theorem run_put (w : World) (mb B k : Nat) (hm : w.heap[mb]? = some (.map (ents B k) k)) (hr : ∀ i, i ≤ k → ∃ c, w.heap[B + 2 * i + 1]? = some (.cells c 50 (0, 0))) :
    (Instr.mapUpdate 27 (.map (some mb)) (.pointer (some ⟨B + 2 * k + 1, 0, none⟩)) (.agg #[])).run Yba.prog w = .ok () (setBlock w mb (.map (ents B (k + 1)) (k + 1))) := by
  obtain ⟨ca, ha⟩ := hr k (Nat.le_refl _)
  have hf := findKey_none w (B + 2 * k + 1) ca ha (ents B k).toList (fun e he => by
    obtain ⟨i, hi, rfl⟩ := mem_ents.1 he
    obtain ⟨cb, hb⟩ := hr i (by omega)
    exact ⟨B + 2 * i + 1, cb, rfl, by omega, hb⟩)
  have hc : ∀ n : Nat, (Instr.checkKey false (n + 1) 46 (.pointer (some ⟨B + 2 * k + 1, 0, none⟩))).run Yba.prog w = .ok () w := fun n => by
    simp [Instr.checkKey, run_underlying Yba.underlying46]
  simp [Instr.mapUpdate, run_underlying Yba.underlying27, hc 9999, MapKept.run_getObj_map hm, MapKept.run_setObj_map _ hm, hf, Result.andThen, setBlock, ents_succ]

theorem run_len_map (w : World) (mb B k : Nat) (ty : TypeId) (hm : w.heap[mb]? = some (.map (ents B k) k)) :
    (Builtin.len_ #[27] ty #[.map (some mb)]).run Yba.prog w = .ok (.int .i64 k) w := by
  simp [Builtin.len_, run_underlying Yba.underlying27, MapKept.run_getObj_map hm, Result.andThen, ents_size, goInt]

theorem run_range_map (w : World) (mb B k : Nat) (hm : w.heap[mb]? = some (.map (ents B k) k)) :
    (Instr.range 27 (.map (some mb))).run Yba.prog w = .ok (.pointer (some ⟨w.heap.size, 0, none⟩)) (w.alloc (.mapIter (some mb) k #[] k)) := by
  simp [Instr.range, run_underlying Yba.underlying27, MapKept.run_getObj_map hm, Result.andThen]

/-- One step of 'for r := range s.readers'. -/
theorem wpList_next_reader {w : World} {ops : Array Oper} {rest : List Oper} {o : Oper} {a : Act} {Q : Exit → Act → World → Prop} (hg : o.guard = none) (it : Operand) (hop : o.op = Op.next it false)
    (r mb B k : Nat) (seen : Array Nat) (hit : a.eval it = .pointer (some ⟨r, 0, none⟩)) (hne : r ≠ mb) (hr : w.heap[r]? = some (.mapIter (some mb) k seen k)) (hm : w.heap[mb]? = some (.map (ents B k) k))
    (hDone : (∀ i, i < k → i ∈ seen) → wpList Yba.prog ops Q rest (a.put o.dst (.tuple #[.bool false])) w)
    (hMore : ∀ (i : Nat) (w' : World), i < k → i ∉ seen → w'.heap[r]? = some (.mapIter (some mb) k (seen.push i) k) → (∀ b, b ≠ r → w'.heap[b]? = w.heap[b]?) → w'.heap.size = w.heap.size → w'.os = w.os → w'.tape = w.tape → w'.output = w.output → w'.rangeLeft mb r < w.rangeLeft mb r →
      (Instr.entry (.pointer (some ⟨r, 0, none⟩))).run Yba.prog w' = .ok (.tuple #[.pointer (some ⟨B + 2 * i + 1, 0, none⟩), .agg #[]]) w' →
      wpList Yba.prog ops Q rest (a.put o.dst (.tuple #[.bool true, .pointer (some ⟨B + 2 * i + 1, 0, none⟩), .agg #[]])) w') :
    wpList Yba.prog ops Q (o :: rest) a w := by
  refine wpList_plain hg fun K' hK' => ?_
  unfold Oper.wp
  rcases run_next_at (P := Yba.prog) w o.type r mb k k seen (ents B k) k hr hm (fun x hx => by obtain ⟨i, hi, rfl⟩ := mem_ents.1 hx; exact hi) (Nat.le_refl _) with ⟨h0, hrun⟩ | ⟨e, he, w1, hw1, hrun⟩
  · simp [execOp, hop, hit, hrun, Result.andThen]
    refine hK' _ _ (hDone fun i hi => ?_)
    have hz : leftOf (ents B k) seen = #[] := Array.eq_empty_of_size_eq_zero h0
    unfold leftOf at hz
    rw [Array.filter_eq_empty_iff] at hz
    have := hz (ent B i) (by simpa using mem_ents.2 ⟨i, hi, rfl⟩)
    simpa [ent] using this
  · simp [execOp, hop, hit, hrun, Result.andThen]
    obtain ⟨he1, he2⟩ := mem_left he
    obtain ⟨i, hi, rfl⟩ := mem_ents.1 he1
    have hlt : r < w.heap.size := (Array.getElem?_eq_some_iff.1 hr).1
    have hh : w1.heap = w.heap := by rcases hw1 with rfl | rfl <;> rfl
    have ho : w1.os = w.os := by rcases hw1 with rfl | rfl <;> rfl
    have ht : w1.tape = w.tape := by rcases hw1 with rfl | rfl <;> rfl
    have hu : w1.output = w.output := by rcases hw1 with rfl | rfl <;> rfl
    have e1 : (setBlock w1 r (.mapIter (some mb) k (seen.push (ent B i).born) k)).heap[r]? = some (.mapIter (some mb) k (seen.push i) k) := by simp [setBlock, hh, hlt, ent]
    have e2 : ∀ b, b ≠ r → (setBlock w1 r (.mapIter (some mb) k (seen.push (ent B i).born) k)).heap[b]? = w.heap[b]? := fun b hb => by simp [setBlock, hh, Ne.symm hb]
    have hl : (setBlock w1 r (.mapIter (some mb) k (seen.push (ent B i).born) k)).rangeLeft mb r < w.rangeLeft mb r := by
      simp only [World.rangeLeft, e1, e2 mb (Ne.symm hne), hm, hr]
      exact left_shrinks _ _ (ent B i) he
    refine hK' _ _ (hMore i _ hi ?_ e1 e2 (by simp [setBlock, hh]) ho ht hu hl ?_)
    · intro hc
      have : seen.contains i = true := by simpa using hc
      simp [ent] at he2
      exact he2 hc
    · exact run_entry_at _ r mb k seen (ents B k) k (ent B i) e1 (by rw [e2 mb (Ne.symm hne)]; exact hm) (mem_ents.2 ⟨i, hi, rfl⟩) (by rw [ents_born]; exact List.nodup_range)

end Go.Proofs.Ybulkbwss
