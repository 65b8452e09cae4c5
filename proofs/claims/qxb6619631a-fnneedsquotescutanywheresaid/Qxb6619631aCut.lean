import Derived.Test.Qxb6619631aQuotes
import Derived.Deep.RegionWith
namespace Go.Proofs.Qxb6619631a
open Go.ChangeShapes Go.WideShapes Go.ChangeAt Go.RowKit
theorem zz_as (s : ByteArray) (w : World) (hs : s.size ≤ maxLen) (r : Bool) (h : Hid (nq s.data.toList = r)) :
    Calls Try.prog 10 #[.string s] w fun e w' => e = .returned (.bool r) ∧ w' = w := by
  rw [← h.out]; exact zzneeds_any s w hs
theorem special_as (c : Int) (w : World) (r : Bool) (h : Hid (spI c = r)) :
    Calls Try.prog 11 #[.int .u8 c] w fun e w' => e = .returned (.bool r) ∧ w' = w := by
  rw [← h.out]; exact special_any c w

/-! ### The plain law -/
theorem any_app (a b : List UInt8) : anySp (a ++ b) = (anySp a || anySp b) := by unfold anySp; rw [List.any_append]
theorem nq_app (a b : List UInt8) (h : a ≠ []) : nq (a ++ b) = (nq a || nq (120 :: b)) := by
  cases a with
  | nil => exact absurd rfl h
  | cons c t =>
    rw [List.cons_append, nq_cons, nq_cons, nq_cons, ← List.cons_append, any_app]
    have e : ldI ((120 : UInt8).toNat : Int) = false := by decide
    have e2 : anySp (120 :: b) = anySp b := by unfold anySp; rw [List.any_cons]; have : sp 120 = false := by decide
                                               rw [this]; rfl
    rw [e, e2]
    cases ldI (c.toNat : Int) <;> cases anySp (c :: t) <;> cases anySp b <;> rfl
theorem cut_law (s : ByteArray) (k : Nat) (h1 : 1 ≤ k) (h2 : k ≤ s.size) :
    nq s.data.toList = (nq (s.extract 0 k).data.toList || nq ((⟨#[120]⟩ : ByteArray) ++ s.extract k s.size).data.toList) := by
  have e1 : (s.extract 0 k).data.toList = s.data.toList.take k := by simp
  have e2 : ((⟨#[120]⟩ : ByteArray) ++ s.extract k s.size).data.toList = 120 :: s.data.toList.drop k := by
    simp [List.take_of_length_le]
  rw [e1, e2]
  rw [← nq_app _ _ (by
    intro h
    have : (s.data.toList.take k).length = 0 := by rw [h]; rfl
    have hl : s.data.toList.length = s.size := by simp
    rw [List.length_take] at this
    omega), List.take_append_drop]
theorem cut_special (s : ByteArray) (k : Nat) (h1 : 1 ≤ k) (h2 : k ≤ s.size) (h : spI (s[k - 1].toNat : Int) = true) : nq (s.extract 0 k).data.toList = true := by
  have e1 : (s.extract 0 k).data.toList = s.data.toList.take k := by simp
  rw [e1]
  obtain ⟨j, rfl⟩ : ∃ j, k = j + 1 := ⟨k - 1, by omega⟩
  rw [take_snoc s j (by omega)]
  unfold nq
  rw [any_app]
  have : anySp [s[j]] = true := by unfold anySp; simp; exact h
  rw [this]
  simp

theorem size_x (s : ByteArray) (k : Nat) (hs : s.size ≤ 1048576) : ((⟨#[120]⟩ : ByteArray) ++ s.extract k s.size).size ≤ maxLen := by
  unfold maxLen
  rw [ByteArray.size_append, ByteArray.size_extract]
  have : (⟨#[120]⟩ : ByteArray).size = 1 := rfl
  omega
theorem size_h (s : ByteArray) (k : Nat) (hs : s.size ≤ 1048576) : (s.extract 0 k).size ≤ maxLen := by
  unfold maxLen
  rw [ByteArray.size_extract]
  omega

set_option maxHeartbeats 2000000 in
theorem cut_core (s : ByteArray) (k : Nat) (w : World) (h1 : 1 ≤ k) (h2 : k ≤ s.size) (hs : s.size ≤ 1048576) (H T S : Bool)
    (HH : Hid (nq (s.extract 0 k).data.toList = H)) (HT : Hid (nq ((⟨#[120]⟩ : ByteArray) ++ s.extract k s.size).data.toList = T)) (HS : Hid (spI (s[k - 1].toNat : Int) = S)) (HA : Hid (nq s.data.toList = (H || T))) (hSH : S = true → H = true) :
    Calls Try.prog 5 #[.string s, .int .i64 k] w fun e w' => e = .returned (.bool true) ∧ w' = w := by
  have z1 := size_h s k hs
  have z2 := size_x s k hs
  have hk : (k : Int) - 1 < (s.size : Int) := by omega
  cases H
  all_goals cases T
  all_goals cases S
  all_goals try (exact absurd (hSH rfl) Bool.false_ne_true)
  all_goals clear hSH
  all_goals go_enter Try.func5, Try.ntmps5
  all_goals go_wp2_with (first | (go_at_call 13; refine (bytesC_any _ _ _ (by unfold maxLen; omega)).mono ?_; rintro e w' ⟨⟨b, rfl⟩, rfl⟩; cases b) | (go_at_call_of 10 (Value.string s); refine (zz_as _ _ (by unfold maxLen; omega) _ HA).mono ?_; rintro e w' ⟨rfl, rfl⟩) | (go_at_call_of 10 (Value.string (s.extract 0 k)); refine (zz_as _ _ z1 _ HH).mono ?_; rintro e w' ⟨rfl, rfl⟩) | (go_at_call 10; refine (zz_as _ _ z2 _ HT).mono ?_; rintro e w' ⟨rfl, rfl⟩) | (go_at_call 11; refine (special_as _ _ _ HS).mono ?_; rintro e w' ⟨rfl, rfl⟩))
  all_goals go_ret
  all_goals exact ⟨rfl, rfl⟩

theorem cut_out (s : ByteArray) (k : Int) (w : World) (hz : s.size ≤ maxLen) (h : s.size ≤ 1048576 → k < 1 ∨ (s.size : Int) < k) :
    Calls Try.prog 5 #[.string s, .int .i64 k] w fun e w' => e = .returned (.bool true) ∧ w' = w := by
  have HB := fun w => bytesC_any s k w hz
  unfold maxLen at hz
  by_cases hs : s.size ≤ 1048576
  · rcases h hs with h1 | h1
    · clear h
      go_enter Try.func5, Try.ntmps5
      go_wp2_with (first | (go_at_call 13; refine (HB _).mono ?_; rintro e w' ⟨⟨b, rfl⟩, rfl⟩; cases b))
      all_goals go_ret
      all_goals exact ⟨rfl, rfl⟩
    · clear h
      go_enter Try.func5, Try.ntmps5
      go_wp2_with (first | (go_at_call 13; refine (HB _).mono ?_; rintro e w' ⟨⟨b, rfl⟩, rfl⟩; cases b))
      all_goals go_ret
      all_goals exact ⟨rfl, rfl⟩
  · clear h
    have hs' : 1048576 < s.size := by omega
    go_enter Try.func5, Try.ntmps5
    go_wp2_with (first | (go_at_call 13; refine (HB _).mono ?_; rintro e w' ⟨⟨b, rfl⟩, rfl⟩; cases b))
    all_goals go_ret
    all_goals exact ⟨rfl, rfl⟩

theorem cut_any (s : ByteArray) (k : Int) (w : World) (hz : s.size ≤ maxLen) :
    Calls Try.prog 5 #[.string s, .int .i64 k] w fun e w' => e = .returned (.bool true) ∧ w' = w := by
  by_cases hs : s.size ≤ 1048576 ∧ 1 ≤ k ∧ k ≤ (s.size : Int)
  · obtain ⟨h0, h1, h2⟩ := hs
    obtain ⟨m, rfl⟩ : ∃ m : Nat, k = m := ⟨k.toNat, by omega⟩
    exact cut_core s m w (by omega) (by omega) h0 _ _ _ rfl rfl rfl (cut_law s m (by omega) (by omega)) (cut_special s m (by omega) (by omega))
  · exact cut_out s k w hz (fun h => by omega)
end Go.Proofs.Qxb6619631a
