import Derived.Test.Qxb6619631aQuotes
import Derived.Laws.MakeOwn
import Derived.Laws.BytesString
import Derived.Laws.IdiomCopy
namespace Go.Proofs.Qxb6619631a
open Go.ChangeShapes Go.WideShapes Go.ChangeAt Go.RowKit
theorem info5 : (Try.prog.info? 5).map (fun i => (i.zero, i.size, i.bytes)) = some (some (.int .u8 0), 1, 1) := by kernel_rfl
def zer (n : Nat) : Array Value := madeCells (Value.int .u8 0).cells n
theorem make24 (n : Nat) (hn : n ≤ 1048577) (w : World) : Sem.run Try.prog (Instr.makeSlice 24 (.int .i64 n) (.int .i64 n)) w = .ok (.slice (some ⟨w.heap.size, 0, none⟩) n n) (w.alloc (.cells (zer n) 5)) := by
  have h := info5
  cases hq : Try.prog.info? 5 with
  | none => simp [hq] at h
  | some i =>
    simp [hq] at h
    have := run_make (P := Try.prog) w 24 5 i _ Try.underlying24 hq h.1 .i64 .i64 n n (by omega) (by omega) (by rw [h.2.2]; omega) (by omega)
    rw [h.2.1] at this
    simpa [zer] using this
theorem heap_alloc_new (w : World) (o : Obj) : (w.alloc o).heap[w.heap.size]? = some o := by
  show (w.heap.push o)[w.heap.size]? = some o
  simp
theorem cell_of {w : World} {b : Nat} {cs : Array Value} {t : TypeId} (h : w.heap[b]? = some (.cells cs t)) (j : Nat) : w.cell? ⟨b, j, none⟩ = cs[j]? := by
  simp [World.cell?, h]
theorem frozen_of {w : World} {b : Nat} {cs : Array Value} {t : TypeId} (h : w.heap[b]? = some (.cells cs t)) (j : Nat) : w.frozen? ⟨b, j, none⟩ = false := by
  simp [World.frozen?, h]
/-- The block r is a row of N cells, of which the first k hold the bytes f. -/
def Part (w : World) (r N k : Nat) (f : Nat → Int) : Prop :=
  r < w.heap.size ∧ (∀ o, o < N → (∃ v, w.cell? ⟨r, o, none⟩ = some v) ∧ w.frozen? ⟨r, o, none⟩ = false) ∧ ∀ i, i < k → w.cell? ⟨r, i, none⟩ = some (.int .u8 (f i))
theorem part_start (N : Nat) (f : Nat → Int) (w : World) : Part (w.alloc (.cells (zer N) 5)) w.heap.size N 0 f := by
  refine ⟨by simp, fun o ho => ⟨?_, frozen_of (heap_alloc_new w _) o⟩, fun i hi => by omega⟩
  have hs : (zer N).size = N := size_madeCells _ _
  exact ⟨(zer N)[o]'(by omega), by rw [cell_of (heap_alloc_new w _) o, Array.getElem?_eq_getElem (show o < (zer N).size by omega)]⟩
theorem cell_other (w : World) (r o o' : Nat) (v : Value) (h : o' ≠ o) : (w.setCell ⟨r, o, none⟩ v).cell? ⟨r, o', none⟩ = w.cell? ⟨r, o', none⟩ :=
  World.cell?_setCell_other w ⟨r, o, none⟩ ⟨r, o', none⟩ v (by intro e; cases e; exact h rfl)
theorem part_step {w : World} {r N k : Nat} {f : Nat → Int} (h : Part w r N k f) (hk : k < N) : Part (w.setCell ⟨r, k, none⟩ (.int .u8 (f k))) r N (k + 1) f := by
  obtain ⟨h0, h1, h2⟩ := h
  obtain ⟨⟨v, hv⟩, hf⟩ := h1 k hk
  have hsame : (w.setCell ⟨r, k, none⟩ (.int .u8 (f k))).cell? ⟨r, k, none⟩ = some (.int .u8 (f k)) := World.cell?_setCell_same' _ _ _ (by rw [hv]; rfl)
  refine ⟨by simp; exact h0, fun o ho => ⟨?_, ?_⟩, fun i hi => ?_⟩
  · by_cases e : o = k
    · exact ⟨_, by rw [e]; exact hsame⟩
    · rw [cell_other _ _ _ _ _ e]; exact (h1 o ho).1
  · simp; exact (h1 o ho).2
  · by_cases e : i = k
    · rw [e]; exact hsame
    · rw [cell_other _ _ _ _ _ e]; exact h2 i (by omega)

/-! ### string(b) -/
def bytesOf (ns : List Int) : ByteArray := ns.foldl (fun r n => r.push (UInt8.ofNat n.toNat)) ByteArray.empty
theorem bytesOf_data (ns : List Int) : (bytesOf ns).data.toList = ns.map fun n => UInt8.ofNat n.toNat := by
  have h : ∀ (ns : List Int) (r : ByteArray), (ns.foldl (fun r n => r.push (UInt8.ofNat n.toNat)) r).data.toList = r.data.toList ++ ns.map fun n => UInt8.ofNat n.toNat := by
    intro ns
    induction ns with
    | nil => intro r; simp
    | cons n ns ih => intro r; rw [List.foldl_cons, ih]; simp [ByteArray.push]
  have := h ns ByteArray.empty
  simpa [bytesOf] using this
theorem bytesOf_size (ns : List Int) : (bytesOf ns).size = ns.length := by
  have h := congrArg List.length (bytesOf_data ns)
  simpa using h
theorem conv_row (w : World) (r N : Nat) (f : Nat → Int) (h : Part w r N N f) :
    (convert 24 9 (.slice (some ⟨r, 0, none⟩) N N)).run Try.prog w = .ok (.string (bytesOf ((List.range N).map f))) w := by
  rw [run_convert_bytes_string w 24 9 5 _ _ _ Try.underlying24 Try.underlying5 Try.underlying9]
  have hl := run_loadCells_list (P := Try.prog) w ⟨r, 0, none⟩ (((List.range N).map f).map (Value.int .u8)) (by
    intro j v hj
    have hjn : j < N := by
      rcases Nat.lt_or_ge j N with h1 | h1
      · exact h1
      · rw [List.getElem?_eq_none (by simpa using h1)] at hj; cases hj
    simp [hjn] at hj
    subst hj
    have := h.2.2 j hjn
    by_cases e : j = 0
    · subst e; exact this
    · simpa [Addr.add, e] using this)
  simp only [List.length_map, List.length_range] at hl
  exact run_bytesToString w ⟨r, 0, none⟩ N N _ hl

/-! ### The plain law -/
def ins (L : List UInt8) (i : Nat) (c : UInt8) : List UInt8 := L.take i ++ c :: L.drop i
def insF (L : List UInt8) (i : Nat) (c : UInt8) : Nat → Int := fun j => (((ins L i c).getD j 0).toNat : Int)
theorem ins_length (L : List UInt8) (i : Nat) (c : UInt8) (h : i ≤ L.length) : (ins L i c).length = L.length + 1 := by
  simp [ins]; omega
theorem insF_lo (L : List UInt8) (i j : Nat) (c : UInt8) (h : i ≤ L.length) (hj : j < i) : insF L i c j = ((L.getD j 0).toNat : Int) := by
  unfold insF ins
  rw [List.getD_eq_getElem?_getD, List.getD_eq_getElem?_getD, List.getElem?_append_left (by simp; omega), List.getElem?_take, if_pos hj]
theorem insF_at (L : List UInt8) (i : Nat) (c : UInt8) (h : i ≤ L.length) : insF L i c i = (c.toNat : Int) := by
  unfold insF ins
  rw [List.getD_eq_getElem?_getD, List.getElem?_append_right (by simp; omega)]
  simp [Nat.min_eq_left h]
theorem insF_hi (L : List UInt8) (i j : Nat) (c : UInt8) (h : i ≤ L.length) (hj : i ≤ j) : insF L i c (j + 1) = ((L.getD j 0).toNat : Int) := by
  unfold insF ins
  rw [List.getD_eq_getElem?_getD, List.getD_eq_getElem?_getD, List.getElem?_append_right (by simp; omega)]
  have : j + 1 - (L.take i).length = (j - i) + 1 := by simp; omega
  rw [this, List.getElem?_cons_succ, List.getElem?_drop, show i + (j - i) = j from by omega]
theorem ins_bytes (L : List UInt8) (i : Nat) (c : UInt8) (h : i ≤ L.length) : (bytesOf ((List.range (L.length + 1)).map (insF L i c))).data.toList = ins L i c := by
  rw [bytesOf_data, List.map_map]
  apply List.ext_getElem
  · simp [ins_length L i c h]
  · intro j h1 h2
    simp only [List.getElem_map, List.getElem_range, Function.comp]
    unfold insF
    rw [List.getD_eq_getElem?_getD, List.getElem?_eq_getElem h2]
    simp

theorem any_app (a b : List UInt8) : anySp (a ++ b) = (anySp a || anySp b) := by unfold anySp; rw [List.any_append]
theorem any_cons (c : UInt8) (b : List UInt8) : anySp (c :: b) = (spI (c.toNat : Int) || anySp b) := by unfold anySp; rw [List.any_cons]; rfl
theorem any_split (L : List UInt8) (i : Nat) : anySp L = (anySp (L.take i) || anySp (L.drop i)) := by rw [← any_app, List.take_append_drop]
theorem law1 (L : List UInt8) (i : Nat) (c : UInt8) (h : spI (c.toNat : Int) = true) : nq (ins L i c) = true := by
  unfold nq ins
  rw [any_app, any_cons, h]
  simp
theorem law2 (L : List UInt8) (c : UInt8) (h : ldI (c.toNat : Int) = true) : nq (ins L 0 c) = true := by
  show nq (c :: L) = true
  rw [nq_cons, h]; rfl
theorem law3 (L : List UInt8) (i : Nat) (c : UInt8) (h : spI (c.toNat : Int) = false) (hi : 0 < i) (hl : i ≤ L.length) : nq (ins L i c) = nq L := by
  unfold nq ins
  rw [any_app, any_cons, h, any_split L i]
  congr 1
  cases L with
  | nil => simp at hl; omega
  | cons a t =>
    obtain ⟨k, rfl⟩ : ∃ k, i = k + 1 := ⟨i - 1, by omega⟩
    rfl
theorem law4 (L : List UInt8) (c : UInt8) (h : spI (c.toNat : Int) = false) (h2 : ldI (c.toNat : Int) = false) : (!nq (ins L 0 c) || nq L) = true := by
  have e : nq (ins L 0 c) = anySp L := by
    show nq (c :: L) = _
    rw [nq_cons, any_cons, h, h2]; rfl
  rw [e]
  unfold nq
  cases anySp L <;> simp
end Go.Proofs.Qxb6619631a
