import Derived.Test.Qxb6618763aCall
import Derived.Test.Qxb6618763aSmall
import Derived.WalkSmall
namespace Go.Proofs.Qxb6618763a
open Go.ChangeShapes Go.WideShapes Go.ChangeAt Go.RowKit
theorem info38 : (Try.prog.info? 38).map (fun i => (i.zero, i.size, i.bytes)) = some (some (.agg #[.int .i32 0, .pointer none, .int .i32 0]), 3, 24) := by kernel_rfl
def zeros (n : Nat) : Array Value := madeCells (Value.agg #[.int .i32 0, .pointer none, .int .i32 0]).cells (n * 3)
theorem make32 (n : Nat) (hn : n ≤ 65536) (w : World) : Sem.run Try.prog (Instr.makeSlice 32 (.int .i64 n) (.int .i64 n)) w = .ok (.slice (some ⟨w.heap.size, 0, none⟩) n n) (w.alloc (.cells (zeros n) 38)) := by
  have h := info38
  cases hq : Try.prog.info? 38 with
  | none => simp [hq] at h
  | some i =>
    simp [hq] at h
    have := run_make (P := Try.prog) w 32 38 i _ Try.underlying32 hq h.1 .i64 .i64 n n (by omega) (by omega) (by rw [h.2.2]; omega) (by omega)
    rw [h.2.1] at this
    simpa [zeros] using this

/-- The block r is a row of N rates, the first k of which are laid. -/
def PartRow (w : World) (r N k : Nat) (f c x : Nat → Int) : Prop :=
  r < w.heap.size ∧ (∀ o, o < N * 3 → (w.cell? ⟨r, o, none⟩).isSome = true ∧ w.frozen? ⟨r, o, none⟩ = false) ∧
    ∀ i, i < k → ∃ b, w.cell? ⟨r, i * 3, none⟩ = some (.int .i32 (f i)) ∧ w.cell? ⟨r, i * 3 + 1, none⟩ = some (.pointer (some ⟨b, 0, none⟩)) ∧ w.cell? ⟨r, i * 3 + 2, none⟩ = some (.int .i32 (x i)) ∧ BigBlk w (r + 1) w.heap.size b (c i)

theorem part_start (N : Nat) (f c x : Nat → Int) (w : World) : PartRow (w.alloc (.cells (zeros N) 38)) w.heap.size N 0 f c x := by
  refine ⟨by simp, fun o ho => ⟨?_, ?_⟩, fun i hi => by omega⟩
  · have h : w.heap.size < (w.alloc (.cells (zeros N) 38)).heap.size := by simp
    have e : (w.alloc (.cells (zeros N) 38)).heap[w.heap.size]? = some (.cells (zeros N) 38) := heap_alloc_new w _
    rw [cell_of e o]
    have hs : (zeros N).size = N * 3 := size_madeCells _ _
    simp [Array.getElem?_eq_getElem (show o < (zeros N).size by omega)]
  · exact frozen_of (heap_alloc_new w _) o

theorem cell_other (w : World) (r o o' : Nat) (v : Value) (h : o' ≠ o) : (w.setCell ⟨r, o, none⟩ v).cell? ⟨r, o', none⟩ = w.cell? ⟨r, o', none⟩ :=
  World.cell?_setCell_other w ⟨r, o, none⟩ ⟨r, o', none⟩ v (by intro e; cases e; exact h rfl)
/-- Whatever leaves the blocks below the heap's size alone keeps it. -/
theorem PartRow.below {w w' : World} {r N k : Nat} {f c x : Nat → Int} (h : PartRow w r N k f c x) (hb : Below w.heap.size w w') : PartRow w' r N k f c x := by
  obtain ⟨h0, h1, h2⟩ := h
  refine ⟨Nat.lt_of_lt_of_le h0 hb.size, fun o ho => ?_, fun i hi => ?_⟩
  · rw [hb.cell (p := ⟨r, o, none⟩) h0, hb.frozen (p := ⟨r, o, none⟩) h0]; exact h1 o ho
  · obtain ⟨b, q0, q1, q2, q3⟩ := h2 i hi
    exact ⟨b, by rw [hb.cell (p := ⟨r, i * 3, none⟩) h0]; exact q0, by rw [hb.cell (p := ⟨r, i * 3 + 1, none⟩) h0]; exact q1, by rw [hb.cell (p := ⟨r, i * 3 + 2, none⟩) h0]; exact q2, (q3.below hb).mono (Nat.le_refl _) hb.size⟩

def put3 (w : World) (r k b : Nat) (u v : Int) : World :=
  ((w.setCell ⟨r, k * 3, none⟩ (.int .i32 u)).setCell ⟨r, k * 3 + 1, none⟩ (.pointer (some ⟨b, 0, none⟩))).setCell ⟨r, k * 3 + 2, none⟩ (.int .i32 v)
theorem put3_heap (w : World) (r k b : Nat) (u v : Int) (j : Nat) (h : j ≠ r) : (put3 w r k b u v).heap[j]? = w.heap[j]? := by
  unfold put3
  rw [Below.heap_setCell _ _ _ _ h, Below.heap_setCell _ _ _ _ h, Below.heap_setCell _ _ _ _ h]
theorem put3_size (w : World) (r k b : Nat) (u v : Int) : (put3 w r k b u v).heap.size = w.heap.size := by simp [put3]

theorem part_step {w : World} {r N k : Nat} {f c x : Nat → Int} (h : PartRow w r N k f c x) (hk : k < N) {b : Nat} (hb : BigBlk w (r + 1) w.heap.size b (c k)) : PartRow (put3 w r k b (f k) (x k)) r N (k + 1) f c x := by
  obtain ⟨h0, h1, h2⟩ := h
  have keep : ∀ {b' : Nat} {c' : Int}, BigBlk w (r + 1) w.heap.size b' c' → BigBlk (put3 w r k b (f k) (x k)) (r + 1) (put3 w r k b (f k) (x k)).heap.size b' c' := fun hq => by
    rw [put3_size]
    exact hq.keep (fun j h3 _ => put3_heap _ _ _ _ _ _ _ (by omega))
  have oth : ∀ o, o ≠ k * 3 → o ≠ k * 3 + 1 → o ≠ k * 3 + 2 → (put3 w r k b (f k) (x k)).cell? ⟨r, o, none⟩ = w.cell? ⟨r, o, none⟩ := fun o n0 n1 n2 => by
    unfold put3
    rw [cell_other _ _ _ _ _ (by omega), cell_other _ _ _ _ _ (by omega), cell_other _ _ _ _ _ (by omega)]
  have s0 := (h1 (k * 3) (by omega)).1
  have s1 := (h1 (k * 3 + 1) (by omega)).1
  have s2 := (h1 (k * 3 + 2) (by omega)).1
  have c0 : (put3 w r k b (f k) (x k)).cell? ⟨r, k * 3, none⟩ = some (.int .i32 (f k)) := by
    unfold put3
    rw [cell_other _ _ _ _ _ (by omega), cell_other _ _ _ _ _ (by omega), World.cell?_setCell_same' _ _ _ s0]
  have c1 : (put3 w r k b (f k) (x k)).cell? ⟨r, k * 3 + 1, none⟩ = some (.pointer (some ⟨b, 0, none⟩)) := by
    unfold put3
    rw [cell_other _ _ _ _ _ (by omega), World.cell?_setCell_same']
    rw [cell_other _ _ _ _ _ (by omega)]; exact s1
  have c2 : (put3 w r k b (f k) (x k)).cell? ⟨r, k * 3 + 2, none⟩ = some (.int .i32 (x k)) := by
    unfold put3
    rw [World.cell?_setCell_same']
    rw [cell_other _ _ _ _ _ (by omega), cell_other _ _ _ _ _ (by omega)]; exact s2
  refine ⟨by rw [put3_size]; exact h0, fun o ho => ⟨?_, ?_⟩, fun i hi => ?_⟩
  · by_cases e0 : o = k * 3
    · rw [e0, c0]; rfl
    · by_cases e1 : o = k * 3 + 1
      · rw [e1, c1]; rfl
      · by_cases e2 : o = k * 3 + 2
        · rw [e2, c2]; rfl
        · rw [oth o e0 e1 e2]; exact (h1 o ho).1
  · unfold put3; simp; exact (h1 o ho).2
  · by_cases e : i = k
    · subst e; exact ⟨b, c0, c1, c2, keep hb⟩
    · obtain ⟨b', q0, q1, q2, q3⟩ := h2 i (by omega)
      exact ⟨b', by rw [oth _ (by omega) (by omega) (by omega)]; exact q0, by rw [oth _ (by omega) (by omega) (by omega)]; exact q1, by rw [oth _ (by omega) (by omega) (by omega)]; exact q2, keep q3⟩

theorem part_rates {w : World} {r N : Nat} {f c x : Nat → Int} (h : PartRow w r N N f c x) : RatesRow w w.heap.size r N f c x := by
  refine ⟨h.1, fun i hi => ?_⟩
  obtain ⟨b, q0, q1, q2, q3⟩ := h.2.2 i hi
  exact ⟨b, q0, q1, q2, q3.mono (Nat.zero_le _) (Nat.le_refl _)⟩
end Go.Proofs.Qxb6618763a
