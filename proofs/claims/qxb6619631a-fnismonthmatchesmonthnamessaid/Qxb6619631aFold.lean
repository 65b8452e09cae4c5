import Derived.Test.Qxb6619631aQuotes
namespace Go.Proofs.Qxb6619631a
open Go.ChangeShapes Go.WideShapes Go.ChangeAt Go.RowKit
def foldI (c : Int) : Int := if 65 ≤ c ∧ c ≤ 90 then c + 32 else c
def ints (l : List UInt8) : List Int := l.map fun c => (c.toNat : Int)
def foldL (l : List UInt8) : List Int := l.map fun c => foldI (c.toNat : Int)
def feB (s n : ByteArray) : Bool := decide (foldL s.data.toList = ints n.data.toList)
theorem fe_true (s n : ByteArray) (h : s.size = n.size) (hj : ∀ j (h1 : j < s.size) (h2 : j < n.size), foldI (s[j].toNat : Int) = (n[j].toNat : Int)) : feB s n = true := by
  unfold feB
  rw [decide_eq_true_eq]
  apply List.ext_getElem
  · simp [foldL, ints, h]
  · intro j h1 h2
    have e1 : j < s.size := by simpa [foldL] using h1
    have e2 : j < n.size := by omega
    have := hj j e1 e2
    simp only [foldL, ints, List.getElem_map]
    exact this
theorem fe_len (s n : ByteArray) (h : s.size ≠ n.size) : feB s n = false := by
  unfold feB
  rw [decide_eq_false_iff_not]
  intro e
  have := congrArg List.length e
  simp [foldL, ints] at this
  exact h this
theorem fe_false (s n : ByteArray) (j : Nat) (h1 : j < s.size) (h2 : j < n.size) (h : foldI (s[j].toNat : Int) ≠ (n[j].toNat : Int)) : feB s n = false := by
  unfold feB
  rw [decide_eq_false_iff_not]
  intro e
  have e1 : (foldL s.data.toList)[j]? = (ints n.data.toList)[j]? := by rw [e]
  rw [List.getElem?_eq_getElem (by simp [foldL]; omega), List.getElem?_eq_getElem (by simp [ints]; omega)] at e1
  simp only [foldL, ints, List.getElem_map, Option.some.injEq] at e1
  exact h e1

theorem st1 {c d : Int} (h1 : 65 ≤ c) (h2 : c ≤ 90) (h : (c + 32 != d) = true) : foldI c ≠ d := by
  unfold foldI; rw [if_pos ⟨h1, h2⟩]; simpa using h
theorem eq1 {c d : Int} (h1 : 65 ≤ c) (h2 : c ≤ 90) (h : (c + 32 != d) = false) : foldI c = d := by
  unfold foldI; rw [if_pos ⟨h1, h2⟩]; simpa using h
theorem st2 {c d : Int} (h2 : 90 < c) (h : (c != d) = true) : foldI c ≠ d := by
  unfold foldI; rw [if_neg (by omega)]; simpa using h
theorem eq2 {c d : Int} (h2 : 90 < c) (h : (c != d) = false) : foldI c = d := by
  unfold foldI; rw [if_neg (by omega)]; simpa using h
theorem st3 {c d : Int} (h2 : c < 65) (h : (c != d) = true) : foldI c ≠ d := by
  unfold foldI; rw [if_neg (by omega)]; simpa using h
theorem eq3 {c d : Int} (h2 : c < 65) (h : (c != d) = false) : foldI c = d := by
  unfold foldI; rw [if_neg (by omega)]; simpa using h
theorem step_inv {s n : ByteArray} {k : Nat} (hinv : ∀ j (h1 : j < s.size) (h2 : j < n.size), j < k → foldI (s[j].toNat : Int) = (n[j].toNat : Int)) {h1 : k < s.size} {h2 : k < n.size} (h : foldI (s[k].toNat : Int) = (n[k].toNat : Int)) :
    Hid (∀ j (h1 : j < s.size) (h2 : j < n.size), j < k + 1 → foldI (s[j].toNat : Int) = (n[j].toNat : Int)) := by
  intro j g1 g2 hj
  by_cases e : j = k
  · subst e; exact h
  · exact hinv j g1 g2 (by omega)

theorem fold_any (s n : ByteArray) (w : World) (hs : s.size ≤ maxLen) :
    Calls Try.prog 16 #[.string s, .string n] w fun e w' => e = .returned (.bool (feB s n)) ∧ w' = w := by
  unfold maxLen at hs
  by_cases hl : s.size = n.size
  · have hl' : ((s.size : Int) != (n.size : Int)) = false := by simp [hl]
    go_enter Try.func16, Try.ntmps16
    go_wp2
    go_loop [5, 6] (fun i _ => ∃ k : Nat, k ≤ s.size ∧ i = .int .i64 k ∧ Hid (∀ j (h1 : j < s.size) (h2 : j < n.size), j < k → foldI (s[j].toNat : Int) = (n[j].toNat : Int))) (fun i _ => s.size - (intOf i).toNat)
    case atStart => exact ⟨0, Nat.zero_le _, rfl, fun j _ _ h => by omega⟩
    case round =>
      obtain ⟨k, hk, rfl, hinv⟩ := hrel
      by_cases hlt : k < s.size
      · have hln : k < n.size := by omega
        have hln' : (k : Int) < (n.size : Int) := by omega
        go_wp2
        · go_ret
          exact ⟨ret_bool (fe_false s n k hlt hln (st1 ‹_› ‹_› ‹_›)).symm, rfl⟩
        · go_round
          case rel => exact ⟨k + 1, by omega, by go_num, step_inv hinv (eq1 ‹_› ‹_› ‹_›)⟩
          case measure => simp [intOf]; omega
        · go_ret
          exact ⟨ret_bool (fe_false s n k hlt hln (st2 ‹_› ‹_›)).symm, rfl⟩
        · go_round
          case rel => exact ⟨k + 1, by omega, by go_num, step_inv hinv (eq2 ‹_› ‹_›)⟩
          case measure => simp [intOf]; omega
        · go_ret
          exact ⟨ret_bool (fe_false s n k hlt hln (st3 (by omega) ‹_›)).symm, rfl⟩
        · go_round
          case rel => exact ⟨k + 1, by omega, by go_num, step_inv hinv (eq3 (by omega) ‹_›)⟩
          case measure => simp [intOf]; omega
      · go_wp2
        go_ret
        exact ⟨ret_bool (fe_true s n hl (fun j h1 h2 => hinv j h1 h2 (by omega))).symm, rfl⟩
  · have hl' : ((s.size : Int) != (n.size : Int)) = true := by simp; omega
    go_enter Try.func16, Try.ntmps16
    go_wp2
    go_ret
    exact ⟨ret_bool (fe_len s n hl).symm, rfl⟩

/-! ### zzB1MonthName -/
def namesL : List (List UInt8) := [[106, 97, 110, 117, 97, 114, 121], [102, 101, 98, 114, 117, 97, 114, 121], [109, 97, 114, 99, 104], [97, 112, 114, 105, 108], [109, 97, 121], [106, 117, 110, 101], [106, 117, 108, 121], [97, 117, 103, 117, 115, 116], [115, 101, 112, 116, 101, 109, 98, 101, 114], [111, 99, 116, 111, 98, 101, 114], [110, 111, 118, 101, 109, 98, 101, 114], [100, 101, 99, 101, 109, 98, 101, 114]]
def nameB (k : Nat) : ByteArray := ⟨(namesL.getD k []).toArray⟩
theorem name_any (k : Nat) (hk : k < 12) (w : World) :
    Calls Try.prog 15 #[.int .i64 k] w fun e w' => e = .returned (.string (nameB k)) ∧ w' = w := by
  match k, hk with
  | 0, _ =>
    go_enter Try.func15, Try.ntmps15
    go_wp2
    go_ret
    exact ⟨rfl, rfl⟩
  | 1, _ =>
    go_enter Try.func15, Try.ntmps15
    go_wp2
    go_ret
    exact ⟨rfl, rfl⟩
  | 2, _ =>
    go_enter Try.func15, Try.ntmps15
    go_wp2
    go_ret
    exact ⟨rfl, rfl⟩
  | 3, _ =>
    go_enter Try.func15, Try.ntmps15
    go_wp2
    go_ret
    exact ⟨rfl, rfl⟩
  | 4, _ =>
    go_enter Try.func15, Try.ntmps15
    go_wp2
    go_ret
    exact ⟨rfl, rfl⟩
  | 5, _ =>
    go_enter Try.func15, Try.ntmps15
    go_wp2
    go_ret
    exact ⟨rfl, rfl⟩
  | 6, _ =>
    go_enter Try.func15, Try.ntmps15
    go_wp2
    go_ret
    exact ⟨rfl, rfl⟩
  | 7, _ =>
    go_enter Try.func15, Try.ntmps15
    go_wp2
    go_ret
    exact ⟨rfl, rfl⟩
  | 8, _ =>
    go_enter Try.func15, Try.ntmps15
    go_wp2
    go_ret
    exact ⟨rfl, rfl⟩
  | 9, _ =>
    go_enter Try.func15, Try.ntmps15
    go_wp2
    go_ret
    exact ⟨rfl, rfl⟩
  | 10, _ =>
    go_enter Try.func15, Try.ntmps15
    go_wp2
    go_ret
    exact ⟨rfl, rfl⟩
  | 11, _ =>
    go_enter Try.func15, Try.ntmps15
    go_wp2
    go_ret
    exact ⟨rfl, rfl⟩

theorem name_size (k : Nat) (hk : k < 12) : 3 ≤ (nameB k).size ∧ (nameB k).size ≤ 9 := by
  match k, hk with
  | 0, _ | 1, _ | 2, _ | 3, _ | 4, _ | 5, _ | 6, _ | 7, _ | 8, _ | 9, _ | 10, _ | 11, _ => decide +kernel
end Go.Proofs.Qxb6619631a
