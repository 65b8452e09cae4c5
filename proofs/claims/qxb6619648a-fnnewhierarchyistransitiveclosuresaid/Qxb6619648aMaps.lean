import Derived.Test.Qxb6619648aRows
import Derived.WalkKit
import Derived.ProofKit
import Derived.OpenShut
import Derived.ShutString
import Derived.ChangeOld
import Derived.Below
import Derived.Outline
import Derived.MapKept
import Derived.Laws.IdiomRangeMap
import Derived.Laws.MakeOwn
import Derived.Laws.IdiomCopy
import Derived.WalkSmall
import Derived.Deep.QuietTactic
import Derived.BigQuiet
import Derived.Deep.RegionHeld
namespace Go.Proofs.Qxb6619648a
open Go.ChangeShapes Go.WideShapes Go.ChangeAt Go.RowKit

/-! ### Maps that the call makes, keyed by strings: entries are never struck, so the i-th entry bears the stamp i -/
def ents : Nat → List (ByteArray × Value) → List MapEntry
  | _, [] => []
  | i, p :: t => { key := .string p.1, val := p.2, born := i } :: ents (i + 1) t
def MapIs (w : World) (r : Nat) (l : List (ByteArray × Value)) : Prop := w.heap[r]? = some (.map (ents 0 l).toArray l.length)
def findE : List (ByteArray × Value) → ByteArray → Nat → Option (Nat × Value)
  | [], _, _ => none
  | p :: t, k, j => if k = p.1 then some (j, p.2) else findE t k (j + 1)
def getE : List (ByteArray × Value) → ByteArray → Option Value
  | [], _ => none
  | p :: t, k => if k = p.1 then some p.2 else getE t k
def putE : List (ByteArray × Value) → ByteArray → Value → List (ByteArray × Value)
  | [], k, v => [(k, v)]
  | p :: t, k, v => if k = p.1 then (k, v) :: t else p :: putE t k v
theorem findE_get : ∀ l k j, (findE l k j).map (·.2) = getE l k
  | [], _, _ => rfl
  | p :: t, k, j => by
    unfold findE getE
    split
    · rfl
    · exact findE_get t k (j + 1)
theorem find_ents (k : ByteArray) : ∀ l i j, Instr.findNow .string (.string k) (ents i l) j = some (findE l k j)
  | [], _, _ => rfl
  | p :: t, i, j => by
    unfold ents findE Instr.findNow
    by_cases h : k = p.1
    · have e : (k == p.1) = true := (MapKept.bytes_beq k p.1).2 h
      simp only [Instr.sameNow, e, if_pos h]
    · have e : (k == p.1) = false := by
        cases hb : (k == p.1)
        · rfl
        · exact absurd ((MapKept.bytes_beq k p.1).1 hb) h
      simp only [Instr.sameNow, e, if_neg h]
      exact find_ents k t (i + 1) (j + 1)
theorem ents_length : ∀ i l, (ents i l).length = l.length
  | _, [] => rfl
  | i, p :: t => by unfold ents; simp [ents_length (i + 1) t]
theorem put_none : ∀ l k v i j, findE l k j = none → ents i (putE l k v) = ents i l ++ [{ key := .string k, val := v, born := i + l.length }] ∧ (putE l k v).length = l.length + 1
  | [], k, v, i, j, _ => by simp [putE, ents]
  | p :: t, k, v, i, j, h => by
    unfold findE at h
    unfold putE
    by_cases hk : k = p.1
    · rw [if_pos hk] at h; cases h
    · rw [if_neg hk] at h ⊢
      have ih := put_none t k v (i + 1) (j + 1) h
      constructor
      · show _ :: ents (i + 1) (putE t k v) = _ :: ents (i + 1) t ++ _
        rw [ih.1]; simp; omega
      · simp [ih.2]
theorem put_some : ∀ l k v i j m u, findE l k j = some (m, u) → j ≤ m ∧ m < j + l.length ∧ (ents i l)[m - j]? = some { key := .string k, val := u, born := i + (m - j) } ∧
    (ents i l).modify (m - j) (fun e => { e with key := .string k, val := v }) = ents i (putE l k v) ∧ (putE l k v).length = l.length
  | [], _, _, _, _, _, _, h => by simp [findE] at h
  | p :: t, k, v, i, j, m, u, h => by
    unfold findE at h
    unfold putE
    by_cases hk : k = p.1
    · rw [if_pos hk] at h ⊢
      simp at h
      obtain ⟨rfl, rfl⟩ := h
      simp [ents, hk]
    · rw [if_neg hk] at h ⊢
      obtain ⟨h1, h2, h3, h4, h5⟩ := put_some t k v (i + 1) (j + 1) m u h
      have e : m - j = (m - (j + 1)) + 1 := by omega
      refine ⟨by omega, by simp; omega, ?_, ?_, by simp [h5]⟩
      · rw [e]; unfold ents; rw [List.getElem?_cons_succ, h3]; simp; omega
      · rw [e]; unfold ents; rw [List.modify_succ_cons, h4]

/-- The world with block r laid anew. -/
def putB (w : World) (r : Nat) (o : Obj) : World := { w with heap := w.heap.setIfInBounds r o }
theorem putB_size (w : World) (r : Nat) (o : Obj) : (putB w r o).heap.size = w.heap.size := by simp [putB]
theorem putB_same {w : World} {r : Nat} {o o' : Obj} (h : w.heap[r]? = some o) : (putB w r o').heap[r]? = some o' := (MapKept.heap_set h).1
theorem putB_other (w : World) {r r' : Nat} (o' : Obj) (h : r' ≠ r) : (putB w r o').heap[r']? = w.heap[r']? := by
  show (w.heap.setIfInBounds r o')[r']? = _
  simp [Ne.symm h]
theorem Below.putB {B : Nat} {a w : World} (h : Below B a w) {r : Nat} (hr : B ≤ r) (o : Obj) : Below B a (putB w r o) :=
  ⟨h.os, h.tape, h.output, by rw [putB_size]; exact h.size, fun k hk => by rw [putB_other w o (by omega)]; exact h.block k hk⟩
theorem isKey (k : ByteArray) : MapKept.IsKey .string (.string k) := by simp [MapKept.IsKey]
def mapO (l : List (ByteArray × Value)) : Obj := .map (ents 0 l).toArray l.length

theorem run_lookup {w : World} {t e r : Nat} {l : List (ByteArray × Value)} (k : ByteArray) {z : Value} (ht : Try.prog.underlying t = some (.map 9 e)) (hz : (zeroValue e).run Try.prog w = .ok z w) (hm : MapIs w r l) :
    (Instr.lookup t (.map (some r)) (.string k) false).run Try.prog w = .ok ((getE l k).getD z) w := by
  have hf := MapKept.run_findKey (P := Try.prog) (w := w) Try.underlying9 (find_ents k l 0 0)
  rw [← findE_get l k 0]
  cases hq : findE l k 0 with
  | none => rw [hq] at hf; simp [Instr.lookup, run_underlying ht, MapKept.run_getObj_map hm, MapKept.run_checkKey Try.underlying9 (isKey k), hf, hz, Result.andThen]
  | some x => rw [hq] at hf; simp [Instr.lookup, run_underlying ht, MapKept.run_getObj_map hm, MapKept.run_checkKey Try.underlying9 (isKey k), hf, Result.andThen]
theorem run_lookup_nil {w : World} {t e : Nat} (k : ByteArray) {z : Value} (ht : Try.prog.underlying t = some (.map 9 e)) (hz : (zeroValue e).run Try.prog w = .ok z w) :
    (Instr.lookup t (.map none) (.string k) false).run Try.prog w = .ok z w := by
  have hf := MapKept.run_findKey (P := Try.prog) (w := w) Try.underlying9 (show Instr.findNow .string (.string k) [] 0 = some none from rfl)
  simp [Instr.lookup, run_underlying ht, MapKept.run_checkKey Try.underlying9 (isKey k), hf, hz, Result.andThen]
theorem run_lookup2 {w : World} {t e r : Nat} {l : List (ByteArray × Value)} (k : ByteArray) {z : Value} (ht : Try.prog.underlying t = some (.map 9 e)) (hz : (zeroValue e).run Try.prog w = .ok z w) (hm : MapIs w r l) :
    (Instr.lookup t (.map (some r)) (.string k) true).run Try.prog w = .ok (.tuple #[(getE l k).getD z, .bool (getE l k).isSome]) w := by
  have hf := MapKept.run_findKey (P := Try.prog) (w := w) Try.underlying9 (find_ents k l 0 0)
  rw [← findE_get l k 0]
  cases hq : findE l k 0 with
  | none => rw [hq] at hf; simp [Instr.lookup, run_underlying ht, MapKept.run_getObj_map hm, MapKept.run_checkKey Try.underlying9 (isKey k), hf, hz, Result.andThen]
  | some x => rw [hq] at hf; simp [Instr.lookup, run_underlying ht, MapKept.run_getObj_map hm, MapKept.run_checkKey Try.underlying9 (isKey k), hf, Result.andThen]
theorem run_update {w : World} {t e r : Nat} {l : List (ByteArray × Value)} (k : ByteArray) (v : Value) (ht : Try.prog.underlying t = some (.map 9 e)) (hm : MapIs w r l) :
    (Instr.mapUpdate t (.map (some r)) (.string k) v).run Try.prog w = .ok () (putB w r (mapO (putE l k v))) := by
  have hf := MapKept.run_findKey (P := Try.prog) (w := w) Try.underlying9 (find_ents k l 0 0)
  cases hq : findE l k 0 with
  | none =>
    rw [hq] at hf
    obtain ⟨h1, h2⟩ := put_none l k v 0 0 hq
    have e1 : mapO (putE l k v) = .map ((ents 0 l).toArray.push { key := .string k, val := v, born := l.length }) (l.length + 1) := by
      unfold mapO; rw [h1, h2]; simp
    rw [e1]
    simp [Instr.mapUpdate, run_underlying ht, MapKept.run_getObj_map hm, MapKept.run_checkKey Try.underlying9 (isKey k), hf, MapKept.run_setObj_map _ hm, Result.andThen, putB]
  | some x =>
    obtain ⟨m, u⟩ := x
    rw [hq] at hf
    obtain ⟨_, h2, h3, h4, h5⟩ := put_some l k v 0 0 m u hq
    simp only [Nat.sub_zero] at h3 h4
    have e1 : mapO (putE l k v) = .map ((ents 0 l).toArray.modify m fun e => { e with key := .string k, val := v }) l.length := by
      unfold mapO; rw [h5, ← h4]; simp
    rw [e1]
    have hg : (ents 0 l).toArray[m]? = some { key := .string k, val := u, born := 0 + m } := by simpa using h3
    simp [Instr.mapUpdate, run_underlying ht, MapKept.run_getObj_map hm, MapKept.run_checkKey Try.underlying9 (isKey k), hf, h3, MapKept.run_keyThatStays (isKey k), MapKept.run_setObj_map _ hm, Result.andThen, putB]
theorem mapIs_put {w : World} {r : Nat} {l l' : List (ByteArray × Value)} (hm : MapIs w r l) : MapIs (putB w r (mapO l')) r l' := putB_same hm
theorem mapIs_other {w : World} {r r' : Nat} {l : List (ByteArray × Value)} (hm : MapIs w r l) (o : Obj) (h : r ≠ r') : MapIs (putB w r' o) r l := by
  unfold MapIs; rw [putB_other w o h]; exact hm
theorem mapIs_below {w w' : World} {B r : Nat} {l : List (ByteArray × Value)} (hm : MapIs w r l) (hb : Below B w w') (h : r < B) : MapIs w' r l := by
  unfold MapIs; rw [hb.block r h]; exact hm
theorem mapIs_new (w : World) : MapIs (w.alloc (.map #[] 0)) w.heap.size [] := (MapKept.heap_alloc w _).1
theorem mapIs_lt {w : World} {r : Nat} {l : List (ByteArray × Value)} (hm : MapIs w r l) : r < w.heap.size := (Array.getElem?_eq_some_iff.1 hm).1
end Go.Proofs.Qxb6619648a
