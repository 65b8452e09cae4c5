import Derived.Test.Qxb6619631aRows
import Derived.WalkKit
import Derived.ProofKit
import Derived.OpenShut
import Derived.ShutString
import Derived.Outline
namespace Go.Proofs.Qxb6619631a
open Go.ChangeShapes Go.WideShapes Go.ChangeAt Go.RowKit
def spI (c : Int) : Bool := c == 44 || c == 34 || c == 13 || c == 10
def ldI (c : Int) : Bool := c == 32 || c == 9
def sp (c : UInt8) : Bool := spI (c.toNat : Int)
def ld : List UInt8 → Bool
  | [] => false
  | c :: _ => ldI (c.toNat : Int)
def anySp (l : List UInt8) : Bool := l.any sp
def nq (l : List UInt8) : Bool := ld l || anySp l

theorem nq_cons (c : UInt8) (t : List UInt8) : nq (c :: t) = (ldI (c.toNat : Int) || anySp (c :: t)) := rfl

theorem special_any (c : Int) (w : World) :
    Calls Try.prog 11 #[.int .u8 c] w fun e w' => e = .returned (.bool (spI c)) ∧ w' = w := by
  go_enter Try.func11, Try.ntmps11
  go_wp2
  all_goals go_ret
  all_goals exact ⟨by simp [spI, *], rfl⟩
theorem lead_any (c : Int) (w : World) :
    Calls Try.prog 12 #[.int .u8 c] w fun e w' => e = .returned (.bool (ldI c)) ∧ w' = w := by
  go_enter Try.func12, Try.ntmps12
  go_wp2
  all_goals go_ret
  all_goals exact ⟨by simp [ldI, *], rfl⟩
theorem bytesC_any (s : ByteArray) (k : Int) (w : World) (hs : s.size ≤ maxLen) :
    Calls Try.prog 13 #[.string s, .int .i64 k] w fun e w' => (∃ b, e = .returned (.bool b)) ∧ w' = w := by
  unfold maxLen at hs
  go_enter Try.func13, Try.ntmps13
  go_wp2
  all_goals go_ret
  all_goals exact ⟨⟨_, rfl⟩, rfl⟩
theorem bytesI_any (s : ByteArray) (k c : Int) (w : World) (hs : s.size ≤ maxLen) :
    Calls Try.prog 9 #[.string s, .int .i64 k, .int .u8 c] w fun e w' => (∃ b, e = .returned (.bool b)) ∧ w' = w := by
  unfold maxLen at hs
  go_enter Try.func9, Try.ntmps9
  go_wp2
  all_goals go_ret
  all_goals exact ⟨⟨_, rfl⟩, rfl⟩
theorem take_snoc (s : ByteArray) (k : Nat) (h : k < s.size) : s.data.toList.take (k + 1) = s.data.toList.take k ++ [s[k]] := by
  rw [List.take_succ_eq_append_getElem (by simpa using h)]; rfl

theorem data_cons (s : ByteArray) (h : 0 < s.size) : ∃ t, s.data.toList = s[0] :: t := by
  have hl : 0 < s.data.toList.length := by simpa using h
  cases hs : s.data.toList with
  | nil => rw [hs] at hl; simp at hl
  | cons a t =>
    have e : s[0] = s.data.toList[0] := rfl
    simp only [hs] at e
    exact ⟨t, by rw [e]; rfl⟩
theorem any_snoc {l : List UInt8} {c : UInt8} (h : anySp l = false) (hc : sp c = false) : anySp (l ++ [c]) = false := by
  unfold anySp at h ⊢
  rw [List.any_append, h]; simp [hc]
theorem any_hit (s : ByteArray) (k : Nat) (h : k < s.size) (hc : sp s[k] = true) : anySp s.data.toList = true := by
  unfold anySp
  rw [List.any_eq_true]
  exact ⟨s[k], by show s.data[k] ∈ _; simp, hc⟩
theorem ret_bool {a b : Bool} (h : a = b) : Ending.returned (.bool a) = .returned (.bool b) := by rw [h]

/-- Behind the first test: no blank in front. -/
theorem needs_plain (s : ByteArray) (w : World) (hs : s.size ≤ maxLen) (h0 : (s.toList = [] ∧ s.size = 0) ∨ (∃ h : 0 < s.size, s.toList.isEmpty = false ∧ ((s[0].toNat : Int) == 32) = false ∧ ((s[0].toNat : Int) == 9) = false)) :
    Calls Try.prog 17 #[.string s] w fun e w' => e = .returned (.bool (anySp s.data.toList)) ∧ w' = w := by
  unfold maxLen at hs
  rcases h0 with ⟨h0, hz⟩ | ⟨hz, h0, h1, h2⟩
  · go_enter Try.func17, Try.ntmps17
    go_wp2
    go_loop [18] (fun i => i = .int .i64 0) (fun _ => 0)
    case atStart => rfl
    case round =>
      subst hrel
      go_wp2
      go_ret
      exact ⟨ret_bool (by rw [← ByteArray.toList_eq, h0]; rfl), rfl⟩
  · go_enter Try.func17, Try.ntmps17
    go_wp2
    go_loop [18] (fun i => ∃ k : Nat, k ≤ s.size ∧ i = .int .i64 k ∧ Hid (anySp (s.data.toList.take k) = false)) (fun i => s.size - (intOf i).toNat)
    case atStart => exact ⟨0, Nat.zero_le _, rfl, rfl⟩
    case round =>
      obtain ⟨k, hk, rfl, hinv⟩ := hrel
      by_cases hlt : k < s.size
      · cases hc : sp s[k]
        · have hc' := hc
          unfold sp spI at hc'
          simp only [Bool.or_eq_false_iff] at hc'
          obtain ⟨⟨⟨g1, g2⟩, g3⟩, g4⟩ := hc'
          go_wp2
          go_round
          case rel => exact ⟨k + 1, by omega, by go_num, by show _ = _; rw [take_snoc s k hlt]; exact any_snoc hinv hc⟩
          case measure => simp [intOf]; omega
        · have hh := any_hit s k hlt hc
          have HH : Hid (anySp s.data.toList = true) := hh
          have HC : Hid (spI (s[k].toNat : Int) = true) := hc
          clear hh hc
          go_wp2
          · go_ret
            exact ⟨ret_bool HH.out.symm, rfl⟩
          · go_ret
            exact ⟨ret_bool HH.out.symm, rfl⟩
          · go_ret
            exact ⟨ret_bool HH.out.symm, rfl⟩
          · go_ret
            exact ⟨ret_bool HH.out.symm, rfl⟩
          · have := HC.out
            simp [spI, *] at this
      · go_wp2
        go_ret
        exact ⟨ret_bool (by have := hinv.out; rw [List.take_of_length_le (by simp; omega)] at this; exact this.symm), rfl⟩

theorem needs_any (s : ByteArray) (w : World) (hs : s.size ≤ maxLen) :
    Calls Try.prog 17 #[.string s] w fun e w' => e = .returned (.bool (nq s.data.toList)) ∧ w' = w := by
  by_cases hz : s.size = 0
  · have e : s.data.toList = [] := List.eq_nil_of_length_eq_zero (by simpa using hz)
    have hn : nq s.data.toList = anySp s.data.toList := by unfold nq; rw [e]; rfl
    rw [hn]
    exact needs_plain s w hs (.inl ⟨by rw [ByteArray.toList_eq, e], hz⟩)
  · have hz' : 0 < s.size := by omega
    obtain ⟨t, ht⟩ := data_cons s hz'
    have he : s.toList.isEmpty = false := by rw [ByteArray.toList_eq, ht]; rfl
    cases hl : ldI (s[0].toNat : Int)
    · have hn : nq s.data.toList = anySp s.data.toList := by rw [ht, nq_cons, hl]; rfl
      rw [hn]
      unfold ldI at hl
      simp only [Bool.or_eq_false_iff] at hl
      exact needs_plain s w hs (.inr ⟨hz', he, hl.1, hl.2⟩)
    · have hn : nq s.data.toList = true := by rw [ht, nq_cons, hl]; rfl
      rw [hn]
      unfold ldI at hl
      unfold maxLen at hs
      by_cases h1 : ((s[0].toNat : Int) == 32) = true
      · go_enter Try.func17, Try.ntmps17
        go_wp2
        go_ret
        exact ⟨rfl, rfl⟩
      · have h1' : ((s[0].toNat : Int) == 32) = false := by simpa using h1
        have h2 : ((s[0].toNat : Int) == 9) = true := by rw [h1'] at hl; simpa using hl
        clear hl h1
        go_enter Try.func17, Try.ntmps17
        go_wp2
        go_ret
        exact ⟨rfl, rfl⟩

theorem zzneeds_any (s : ByteArray) (w : World) (hs : s.size ≤ maxLen) :
    Calls Try.prog 10 #[.string s] w fun e w' => e = .returned (.bool (nq s.data.toList)) ∧ w' = w := by
  go_enter Try.func10, Try.ntmps10
  go_wp2_with (go_at_call 17; refine (needs_any _ _ hs).mono ?_; rintro e w' ⟨rfl, rfl⟩)
  go_ret
  exact ⟨rfl, rfl⟩
end Go.Proofs.Qxb6619631a
