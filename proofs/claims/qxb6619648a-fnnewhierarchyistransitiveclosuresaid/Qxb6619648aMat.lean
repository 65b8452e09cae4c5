import Derived.Test.Qxb6619648aNodeStep
namespace Go.Proofs.Qxb6619648a
open Go.ChangeShapes Go.WideShapes Go.ChangeAt Go.RowKit
theorem heap_new (w : World) (o : Obj) : (w.alloc o).heap[w.heap.size]? = some o := (MapKept.heap_alloc w o).1
theorem cell_of {w : World} {b : Nat} {cs : Array Value} {t : TypeId} (h : w.heap[b]? = some (.cells cs t)) (j : Nat) : w.cell? ⟨b, j, none⟩ = cs[j]? := by
  simp [World.cell?, h]
theorem frozen_of {w : World} {b : Nat} {cs : Array Value} {t : TypeId} (h : w.heap[b]? = some (.cells cs t)) (j : Nat) : w.frozen? ⟨b, j, none⟩ = false := by
  simp [World.frozen?, h]
theorem made_get (z : Value) (hz : z.cells = #[z]) (n j : Nat) (h : j < n) : (madeCells z.cells n)[j]? = some z := by
  unfold madeCells
  rw [Array.getElem?_map, Array.getElem?_eq_getElem (by simpa using h)]
  simp [hz, Nat.mod_one]
def rowsZ (n : Nat) : Array Value := madeCells (Value.slice none 0 0).cells n
def boolsZ (n : Nat) : Array Value := madeCells (Value.bool false).cells n
theorem make35 (n : Nat) (hn : n ≤ 1048576) (w : World) : Sem.run Try.prog (Instr.makeSlice 35 (.int .i64 n) (.int .i64 n)) w = .ok (.slice (some ⟨w.heap.size, 0, none⟩) n n) (w.alloc (.cells (rowsZ n) 40)) := by
  have h : (Try.prog.info? 40).map (fun i => (i.zero, i.size, i.bytes)) = some (some (.slice none 0 0), 1, 24) := by kernel_rfl
  cases hq : Try.prog.info? 40 with
  | none => simp [hq] at h
  | some i =>
    simp [hq] at h
    have := run_make (P := Try.prog) w 35 40 i _ Try.underlying35 hq h.1 .i64 .i64 n n (by omega) (by omega) (by rw [h.2.2]; omega) (by omega)
    rw [h.2.1] at this
    simpa [rowsZ] using this
theorem make40 (n : Nat) (hn : n ≤ 1048576) (w : World) : Sem.run Try.prog (Instr.makeSlice 40 (.int .i64 n) (.int .i64 n)) w = .ok (.slice (some ⟨w.heap.size, 0, none⟩) n n) (w.alloc (.cells (boolsZ n) 4)) := by
  have h : (Try.prog.info? 4).map (fun i => (i.zero, i.size, i.bytes)) = some (some (.bool false), 1, 1) := by kernel_rfl
  cases hq : Try.prog.info? 4 with
  | none => simp [hq] at h
  | some i =>
    simp [hq] at h
    have := run_make (P := Try.prog) w 40 4 i _ Try.underlying40 hq h.1 .i64 .i64 n n (by omega) (by omega) (by rw [h.2.2]; omega) (by omega)
    rw [h.2.1] at this
    simpa [boolsZ] using this

/-- The block q holds n slices; the i-th is the block q + 1 + i, whose n cells are the bools M i. -/
def Mat (w : World) (q n : Nat) (M : Nat → Nat → Bool) : Prop :=
  q + n < w.heap.size ∧ (∀ i, i < n → w.cell? ⟨q, i, none⟩ = some (.slice (some ⟨q + 1 + i, 0, none⟩) n n)) ∧
    ∀ i j, i < n → j < n → w.cell? ⟨q + 1 + i, j, none⟩ = some (.bool (M i j)) ∧ w.frozen? ⟨q + 1 + i, j, none⟩ = false
theorem Mat.below {w w' : World} {q n : Nat} {M : Nat → Nat → Bool} (h : Mat w q n M) {B : Nat} (hb : Below B w w') (hB : q + n < B) : Mat w' q n M := by
  obtain ⟨h0, h1, h2⟩ := h
  refine ⟨Nat.lt_of_lt_of_le h0 hb.size, fun i hi => by rw [hb.cell (p := ⟨q, i, none⟩) (by show q < B; omega)]; exact h1 i hi, fun i j hi hj => ?_⟩
  rw [hb.cell (p := ⟨q + 1 + i, j, none⟩) (by show q + 1 + i < B; omega), hb.frozen (p := ⟨q + 1 + i, j, none⟩) (by show q + 1 + i < B; omega)]
  exact h2 i j hi hj
theorem Mat.congr {w : World} {q n : Nat} {M M' : Nat → Nat → Bool} (h : Mat w q n M) (e : ∀ i j, i < n → j < n → M i j = M' i j) : Mat w q n M' := by
  obtain ⟨h0, h1, h2⟩ := h
  exact ⟨h0, h1, fun i j hi hj => by rw [← e i j hi hj]; exact h2 i j hi hj⟩
def setM (M : Nat → Nat → Bool) (a b : Nat) : Nat → Nat → Bool := fun i j => if i = a ∧ j = b then true else M i j
theorem Mat.set {w : World} {q n : Nat} {M : Nat → Nat → Bool} (h : Mat w q n M) {a b : Nat} (ha : a < n) (hb : b < n) : Mat (w.setCell ⟨q + 1 + a, b, none⟩ (.bool true)) q n (setM M a b) := by
  obtain ⟨h0, h1, h2⟩ := h
  refine ⟨by simp; exact h0, fun i hi => ?_, fun i j hi hj => ⟨?_, ?_⟩⟩
  · rw [World.cell?_setCell_other w ⟨q + 1 + a, b, none⟩ ⟨q, i, none⟩ _ (by intro e; simp only [Addr.mk.injEq] at e; omega)]; exact h1 i hi
  · unfold setM
    by_cases e : i = a ∧ j = b
    · obtain ⟨rfl, rfl⟩ := e
      rw [if_pos ⟨rfl, rfl⟩]
      exact World.cell?_setCell_same' _ _ _ (by rw [(h2 i j hi hj).1]; rfl)
    · rw [if_neg e, World.cell?_setCell_other w ⟨q + 1 + a, b, none⟩ ⟨q + 1 + i, j, none⟩ _ (by intro e2; apply e; simp only [Addr.mk.injEq] at e2; omega)]
      exact (h2 i j hi hj).1
  · simp; exact (h2 i j hi hj).2
/-- While the rows are made: the first k are. -/
def PMat (w : World) (q n k : Nat) : Prop :=
  w.heap.size = q + 1 + k ∧ (∀ i, i < n → (∃ v, w.cell? ⟨q, i, none⟩ = some v) ∧ w.frozen? ⟨q, i, none⟩ = false) ∧ (∀ i, i < k → w.cell? ⟨q, i, none⟩ = some (.slice (some ⟨q + 1 + i, 0, none⟩) n n)) ∧
    ∀ i j, i < k → j < n → w.cell? ⟨q + 1 + i, j, none⟩ = some (.bool false) ∧ w.frozen? ⟨q + 1 + i, j, none⟩ = false
theorem pmat_start (w : World) (n : Nat) : PMat (w.alloc (.cells (rowsZ n) 40)) w.heap.size n 0 := by
  refine ⟨by simp, fun i hi => ⟨⟨_, by rw [cell_of (heap_new w _) i]; exact made_get _ rfl n i hi⟩, frozen_of (heap_new w _) i⟩, fun i hi => by omega, fun i j hi => by omega⟩
theorem pmat_step {w : World} {q n k : Nat} (h : PMat w q n k) (hk : k < n) :
    PMat ((w.alloc (.cells (boolsZ n) 4)).setCell ⟨q, k, none⟩ (.slice (some ⟨w.heap.size, 0, none⟩) n n)) q n (k + 1) := by
  obtain ⟨h0, h1, h2, h3⟩ := h
  have hb : Below w.heap.size w (w.alloc (.cells (boolsZ n) 4)) := (Below.refl _ _).alloc (Nat.le_refl _) _
  have oc : ∀ b j, b < w.heap.size → (w.alloc (.cells (boolsZ n) 4)).cell? ⟨b, j, none⟩ = w.cell? ⟨b, j, none⟩ := fun b j hlt => hb.cell (p := ⟨b, j, none⟩) hlt
  have of : ∀ b j, b < w.heap.size → (w.alloc (.cells (boolsZ n) 4)).frozen? ⟨b, j, none⟩ = w.frozen? ⟨b, j, none⟩ := fun b j hlt => hb.frozen (p := ⟨b, j, none⟩) hlt
  have same : ((w.alloc (.cells (boolsZ n) 4)).setCell ⟨q, k, none⟩ (.slice (some ⟨w.heap.size, 0, none⟩) n n)).cell? ⟨q, k, none⟩ = some (.slice (some ⟨w.heap.size, 0, none⟩) n n) := by
    obtain ⟨v, hv⟩ := (h1 k hk).1
    exact World.cell?_setCell_same' _ _ _ (by rw [oc q k (by omega), hv]; rfl)
  have oth : ∀ b j, (b ≠ q ∨ j ≠ k) → ((w.alloc (.cells (boolsZ n) 4)).setCell ⟨q, k, none⟩ (.slice (some ⟨w.heap.size, 0, none⟩) n n)).cell? ⟨b, j, none⟩ = (w.alloc (.cells (boolsZ n) 4)).cell? ⟨b, j, none⟩ := fun b j hne =>
    World.cell?_setCell_other _ ⟨q, k, none⟩ ⟨b, j, none⟩ _ (by intro e; simp only [Addr.mk.injEq] at e; omega)
  refine ⟨by simp; omega, fun i hi => ⟨?_, ?_⟩, fun i hi => ?_, fun i j hi hj => ⟨?_, ?_⟩⟩
  · by_cases e : i = k
    · exact ⟨_, by rw [e]; exact same⟩
    · rw [oth q i (.inr e), oc q i (by omega)]; exact (h1 i hi).1
  · simp only [World.frozen?_setCell]; rw [of q i (by omega)]; exact (h1 i hi).2
  · by_cases e : i = k
    · rw [e, same, h0]
    · rw [oth q i (.inr e), oc q i (by omega)]; exact h2 i (by omega)
  · rw [oth (q + 1 + i) j (.inl (by omega))]
    by_cases e : i = k
    · rw [e, ← h0, cell_of (heap_new w _) j]; exact made_get _ rfl n j hj
    · rw [oc (q + 1 + i) j (by omega)]; exact (h3 i j (by omega) hj).1
  · simp only [World.frozen?_setCell]
    by_cases e : i = k
    · rw [e, ← h0]; exact frozen_of (heap_new w _) j
    · rw [of (q + 1 + i) j (by omega)]; exact (h3 i j (by omega) hj).2
theorem pmat_end {w : World} {q n : Nat} (h : PMat w q n n) : Mat w q n (fun _ _ => false) := by
  obtain ⟨h0, _, h2, h3⟩ := h
  exact ⟨by omega, h2, h3⟩
end Go.Proofs.Qxb6619648a
