import Derived.Test.Qxb6618763aLeaf
namespace Go.Proofs.Qxb6618763a
open Go.ChangeShapes Go.WideShapes Go.ChangeAt Go.RowKit
/-- The n cells from ⟨b, o⟩ on hold the integers f 0, f 1, .. -/
def RowAt (k : IntKind) (w : World) (b o n : Nat) (f : Nat → Int) : Prop :=
  b < w.heap.size ∧ ∀ i, i < n → w.cell? ⟨b, o + i, none⟩ = some (.int k (f i))
theorem RowAt.below {k : IntKind} {w w' : World} {B b o n : Nat} {f : Nat → Int} (h : RowAt k w b o n f) (hb : Below B w w') (hB : w.heap.size ≤ B) : RowAt k w' b o n f := by
  refine ⟨Nat.lt_of_lt_of_le h.1 hb.size, fun i hi => ?_⟩
  rw [hb.cell (p := ⟨b, o + i, none⟩) (Nat.lt_of_lt_of_le h.1 hB)]
  exact h.2 i hi

theorem bytes3 (a0 a1 a2 : Option Addr) (l0 c0 l1 c1 l2 c2 : Nat) (s : Int) (w : World) (h0 : l0 ≤ maxLen) (h1 : l1 ≤ maxLen) (h2 : l2 ≤ maxLen) :
    Calls Try.prog 5 #[.slice a0 l0 c0, .slice a1 l1 c1, .slice a2 l2 c2, .int .i32 s] w fun e w' => (∃ b, e = .returned (.bool b)) ∧ w' = w := by
  unfold maxLen at h0 h1 h2
  go_enter Try.func5, Try.ntmps5
  go_wp2
  all_goals go_ret
  all_goals exact ⟨⟨_, rfl⟩, rfl⟩
theorem bytes4 (a0 a1 a2 : Option Addr) (l0 c0 l1 c1 l2 c2 : Nat) (s u v t : Int) (w : World) (h0 : l0 ≤ maxLen) (h1 : l1 ≤ maxLen) (h2 : l2 ≤ maxLen) :
    Calls Try.prog 10 #[.slice a0 l0 c0, .slice a1 l1 c1, .slice a2 l2 c2, .int .i32 s, .int .i32 u, .int .i64 v, .int .i32 t] w fun e w' => (∃ b, e = .returned (.bool b)) ∧ w' = w := by
  unfold maxLen at h0 h1 h2
  go_enter Try.func10, Try.ntmps10
  go_wp2
  all_goals go_ret
  all_goals exact ⟨⟨_, rfl⟩, rfl⟩

theorem ordered_no (a0 a1 a2 : Option Addr) (l0 c0 l1 c1 l2 c2 : Nat) (w : World) (h : ¬ (0 < l0 ∧ l1 = l0 ∧ l2 = l0)) :
    Calls Try.prog 6 #[.slice a0 l0 c0, .slice a1 l1 c1, .slice a2 l2 c2] w fun e w' => e = .returned (.bool false) ∧ w' = w := by
  by_cases h0 : l0 = 0
  · subst h0
    go_enter Try.func6, Try.ntmps6
    go_wp2
    go_ret
    exact ⟨rfl, rfl⟩
  · have e0 : ((l0 : Int) == 0) = false := by simp; omega
    by_cases h1 : l1 = l0
    · have e1 : ((l1 : Int) != (l0 : Int)) = false := by simp; omega
      have e2 : ((l2 : Int) != (l0 : Int)) = true := by simp; omega
      go_enter Try.func6, Try.ntmps6
      go_wp2
      go_ret
      exact ⟨rfl, rfl⟩
    · have e1 : ((l1 : Int) != (l0 : Int)) = true := by simp; omega
      go_enter Try.func6, Try.ntmps6
      go_wp2
      go_ret
      exact ⟨rfl, rfl⟩

set_option maxHeartbeats 400000 in
theorem ordered_yes (b o n c0 : Nat) (a1 a2 : Option Addr) (c1 c2 : Nat) (f : Nat → Int) (w : World) (hn : 0 < n) (hl : n ≤ 65536) (hr : RowAt .i32 w b o n f) :
    Calls Try.prog 6 #[.slice (some ⟨b, o, none⟩) n c0, .slice a1 n c1, .slice a2 n c2] w fun e w' => (∃ r : Bool, e = .returned (.bool r) ∧ (r = true → ∀ i, 0 < i → i < n → f (i - 1) < f i)) ∧ ∃ nq, w' = w.drewN nq := by
  have e0 : ((n : Int) == 0) = false := by simp; omega
  have HR : Hid (RowAt .i32 w b o n f) := hr
  clear hr
  go_enter Try.func6, Try.ntmps6
  go_wp2
  go_loopw [8] (fun i wr => ∃ k : Nat, 0 < k ∧ k ≤ n ∧ i = .int .i64 k ∧ Hid (∀ j, 0 < j → j < k → f (j - 1) < f j) ∧ ∃ nq, wr = w.drewN nq) (fun i _ => n - (intOf i).toNat)
  case atStart => exact ⟨1, by omega, by omega, rfl, fun j h1 h2 => by omega, 0, rfl⟩
  case round =>
    obtain ⟨k, hk0, hk, rfl, hinv, nq, rfl⟩ := hrel
    by_cases hlt : k < n
    · obtain ⟨j, rfl⟩ : ∃ j, k = j + 1 := ⟨k - 1, by omega⟩
      have q0 := HR.out.2 (j + 1) hlt
      have q1 := HR.out.2 j (by omega)
      have hb : (j : Int) + 1 < (n : Int) := by omega
      have hb2 : (j : Int) < (n : Int) := by omega
      go_wp2
      go_quiet (fail)
      go_wp2
      · go_ret
        exact ⟨⟨false, rfl, fun h => by cases h⟩, _, World.drewN_drewN _ _ _⟩
      · have hnew : f j < f (j + 1) := by assumption
        go_roundw
        case rel => exact ⟨j + 1 + 1, by omega, by omega, by go_num, fun t h1 h2 => by
            by_cases e : t = j + 1
            · subst e; exact hnew
            · exact hinv t h1 (by omega), _, rfl⟩
        case measure => simp [intOf]; omega
    · go_wp2
      go_ret
      exact ⟨⟨true, rfl, fun _ i h1 h2 => hinv i h1 (by omega)⟩, nq, rfl⟩

theorem force (b o n c0 : Nat) (f : Nat → Int) (d : Int) (w : World) (hn : 0 < n) (hl : n ≤ 65536) (hr : RowAt .i32 w b o n f) (h0 : f 0 ≤ d) :
    Calls Try.prog 7 #[.slice (some ⟨b, o, none⟩) n c0, .int .i32 d] w fun e w' => (∃ j : Nat, e = .returned (.int .i64 j) ∧ j < n ∧ f j ≤ d ∧ ∀ t, j < t → t < n → d < f t) ∧ w' = w := by
  have HR : Hid (RowAt .i32 w b o n f) := hr
  clear hr
  go_enter Try.func7, Try.ntmps7
  go_wp2
  go_loop [5, 6] (fun p i => ∃ j k : Nat, j < k ∧ k ≤ n ∧ p = .int .i64 j ∧ i = .int .i64 k ∧ f j ≤ d ∧ Hid (∀ t, j < t → t < k → d < f t)) (fun _ i => n - (intOf i).toNat)
  case atStart => exact ⟨0, 1, by omega, by omega, rfl, rfl, h0, fun t h1 h2 => by omega⟩
  case round =>
    obtain ⟨j, k, hjk, hk, rfl, rfl, hj, hinv⟩ := hrel
    by_cases hlt : k < n
    · have q0 := HR.out.2 k hlt
      have hb : (k : Int) < (n : Int) := by omega
      go_wp2
      · have hnew : f k ≤ d := by assumption
        go_round
        case rel => exact ⟨k, k + 1, by omega, by omega, rfl, by go_num, hnew, fun t h1 h2 => by omega⟩
        case measure => simp [intOf]; omega
      · have hnew : d < f k := by assumption
        go_round
        case rel => exact ⟨j, k + 1, by omega, by omega, rfl, by go_num, hj, fun t h1 h2 => by
            by_cases e : t = k
            · subst e; exact hnew
            · exact hinv t h1 (by omega)⟩
        case measure => simp [intOf]; omega
    · go_wp2
      go_ret
      exact ⟨⟨j, rfl, by omega, hj, fun t h1 h2 => hinv t h1 (by omega)⟩, rfl⟩
end Go.Proofs.Qxb6618763a
