import Derived.Test.Qxb6619648aMaps
namespace Go.Proofs.Qxb6619648a
open Go.ChangeShapes Go.WideShapes Go.ChangeAt Go.RowKit
theorem mem_ents : ∀ i l e, e ∈ ents i l → ∃ j, ∃ h : j < l.length, e = { key := .string l[j].1, val := l[j].2, born := i + j }
  | _, [], e, h => by simp [ents] at h
  | i, p :: t, e, h => by
    unfold ents at h
    rcases List.mem_cons.1 h with rfl | h
    · exact ⟨0, by simp, by simp⟩
    · obtain ⟨j, hj, e'⟩ := mem_ents (i + 1) t e h
      exact ⟨j + 1, by simp; omega, by rw [e']; simp; omega⟩
theorem ents_mem : ∀ i l j (h : j < l.length), { key := .string l[j].1, val := l[j].2, born := i + j } ∈ ents i l
  | i, p :: t, 0, h => by unfold ents; simp
  | i, p :: t, j + 1, h => by
    unfold ents
    have := ents_mem (i + 1) t j (by simpa using h)
    apply List.mem_cons_of_mem
    have e : i + (j + 1) = i + 1 + j := by omega
    rw [e]
    simpa using this
def iterO (m n : Nat) (seen : Array Nat) : Obj := .mapIter (some m) n seen n
theorem run_range {w : World} {m : Nat} {l : List (ByteArray × Value)} (hm : MapIs w m l) :
    (Instr.range 25 (.map (some m))).run Try.prog w = .ok (.pointer (some ⟨w.heap.size, 0, none⟩)) (w.alloc (iterO m l.length #[])) :=
  run_range_map w 25 9 22 m _ _ Try.underlying25 hm
theorem run_next {w : World} (ty : TypeId) {m r : Nat} {l : List (ByteArray × Value)} {seen : Array Nat} (hm : MapIs w m l) (hr : w.heap[r]? = some (iterO m l.length seen)) :
    ((∀ i, i < l.length → seen.contains i = true) ∧ (Instr.next (.pointer (some ⟨r, 0, none⟩)) false ty).run Try.prog w = .ok (.tuple #[.bool false]) w) ∨
    ∃ i, ∃ h : i < l.length, seen.contains i = false ∧ ∃ w1 : World, (w1 = w ∨ w1 = w.drew) ∧ (Instr.next (.pointer (some ⟨r, 0, none⟩)) false ty).run Try.prog w = .ok (.tuple #[.bool true, .string l[i].1, l[i].2]) (putB w1 r (iterO m l.length (seen.push i))) := by
  have hold : ∀ x ∈ (ents 0 l).toArray.toList, x.born < l.length := fun x hx => by
    obtain ⟨j, hj, rfl⟩ := mem_ents 0 l x (by simpa using hx)
    simp; omega
  unfold iterO at hr
  simp only [Instr.next, getObj, Sem.run_bind, Sem.run, hr, show w.heap[m]? = _ from hm, Result.andThen, next_test_false seen (ents 0 l).toArray l.length l.length hold (Nat.le_refl _), Bool.false_eq_true, if_false]
  have hmem : ∀ x ∈ (Array.filter (fun e => !seen.contains e.born) (ents 0 l).toArray).toList, x.born < l.length := fun x hx => hold x (by simp at hx ⊢; exact hx.1)
  have hin : ∀ x ∈ (Array.filter (fun e => !seen.contains e.born) (ents 0 l).toArray).toList, ∃ j, ∃ h : j < l.length, x = { key := .string l[j].1, val := l[j].2, born := 0 + j } ∧ seen.contains j = false := fun x hx => by
    simp at hx
    obtain ⟨j, hj, rfl⟩ := mem_ents 0 l x hx.1
    refine ⟨j, hj, rfl, ?_⟩
    cases hc : seen.contains j with
    | false => rfl
    | true => simp at hc; simp at hx; exact absurd hc hx.2
  have hback : ∀ j, j < l.length → seen.contains j = false → (Array.filter (fun e => !seen.contains e.born) (ents 0 l).toArray).size ≠ 0 := fun j hj hs h0 => by
    have hmm : ({ key := .string l[j].1, val := l[j].2, born := 0 + j } : MapEntry) ∈ (Array.filter (fun e => !seen.contains e.born) (ents 0 l).toArray) := by
      rw [Array.mem_filter]
      exact ⟨by simpa using ents_mem 0 l j hj, by simp only [Nat.zero_add, hs]; rfl⟩
    rw [Array.eq_empty_of_size_eq_zero h0] at hmm
    simp at hmm
  generalize Array.filter (fun e => !seen.contains e.born) (ents 0 l).toArray = L at hmem hin hback ⊢
  have e1 : L.filter (fun x => decide (x.born < l.length)) = L := Array.filter_eq_self.2 (fun x hx => by simpa using hmem x (by simpa using hx))
  have e2 : L.filter (fun x => decide (x.born ≥ l.length)) = #[] := by
    rw [Array.filter_eq_empty_iff]
    intro x hx
    have := hmem x (by simpa using hx)
    simp
    omega
  simp only [e1, e2, Array.append_empty]
  by_cases h0 : L.size = 0
  · left
    have : L = #[] := Array.eq_empty_of_size_eq_zero h0
    subst this
    refine ⟨fun i hi => ?_, by simp [choose, Sem.run, Question.forced]⟩
    cases hc : seen.contains i with
    | true => rfl
    | false => exact absurd rfl (hback i hi hc)
  · right
    have hne : L.isEmpty = false := by simp [Array.isEmpty, h0]
    simp only [hne, Bool.false_eq_true, if_false, Array.empty_append, Array.size_map]
    have hch : ∃ (j : Nat) (w1 : World), j < L.size ∧ (w1 = w ∨ w1 = w.drew) ∧ (choose (Question.mapNext L.size)).run Try.prog w = .ok j w1 := by
      by_cases hf : L.size ≤ 1
      · exact ⟨0, w, by omega, .inl rfl, by simp [choose, Sem.run, Question.forced, hf]⟩
      · exact ⟨_, w.drew, Nat.mod_lt _ (by omega), .inr rfl, by
          simp only [choose, Sem.run, Question.forced, decide_eq_true_eq, hf, if_false, Question.cut]
          rfl⟩
    obtain ⟨j, w1, hj, hal, hrun⟩ := hch
    obtain ⟨i, hi, he, hs⟩ := hin L[j] (by simp)
    refine ⟨i, hi, hs, w1, hal, ?_⟩
    have hr1 : w1.heap[r]? = some (.mapIter (some m) l.length seen l.length) := by
      rcases hal with rfl | rfl
      · exact hr
      · exact hr
    have hset : ∀ (o' : Obj), (setObj r o').run Try.prog w1 = .ok () (putB w1 r o') := fun o' => by
      simp [setObj, Sem.run, hr1, putB]
    simp only [hrun, Array.getElem?_map, Array.getElem?_eq_getElem hj, Option.map_some, Sem.run_bind, hset, Result.andThen, he]
    simp only [Nat.zero_add, iterO]
    rfl
theorem nodup_born : ∀ i l, ((ents i l).map (·.born)).Nodup
  | _, [] => by simp [ents]
  | i, p :: t => by
    unfold ents
    rw [List.map_cons, List.nodup_cons]
    refine ⟨?_, nodup_born (i + 1) t⟩
    intro h
    obtain ⟨x, hx, he⟩ := List.mem_map.1 h
    obtain ⟨j, hj, rfl⟩ := mem_ents (i + 1) t x hx
    simp at he
    omega
theorem run_entry {w : World} {m r i : Nat} {l : List (ByteArray × Value)} {seen : Array Nat} (hi : i < l.length) (hm : MapIs w m l) (hr : w.heap[r]? = some (iterO m l.length (seen.push i))) :
    (Instr.entry (.pointer (some ⟨r, 0, none⟩))).run Try.prog w = .ok (.tuple #[.string l[i].1, l[i].2]) w := by
  have hf : (ents 0 l).toArray.find? (·.born == i) = some { key := .string l[i].1, val := l[i].2, born := 0 + i } := by
    rw [← Array.find?_toList]
    have := find_born { key := .string l[i].1, val := l[i].2, born := 0 + i } (ents 0 l) (nodup_born 0 l) (ents_mem 0 l i hi)
    simpa using this
  unfold iterO at hr
  simp only [Instr.entry, getObj, Sem.run_bind, Sem.run, hr, show w.heap[m]? = _ from hm, Result.andThen, Array.back?_push, bne_self_eq_false, Bool.false_eq_true, if_false, hf]
  rfl
end Go.Proofs.Qxb6619648a
