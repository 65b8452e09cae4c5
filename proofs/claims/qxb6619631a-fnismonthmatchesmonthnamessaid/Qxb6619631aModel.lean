import Derived.Test.Qxb6619631aFold
import Derived.Deep.RegionWith
namespace Go.Proofs.Qxb6619631a
open Go.ChangeShapes Go.WideShapes Go.ChangeAt Go.RowKit
/-- What zzB1MonthModel asks. -/
def Model (s : ByteArray) : Prop := (∃ j, j < 12 ∧ (feB s (nameB j) = true ∨ (s.size = 3 ∧ feB s ((nameB j).extract 0 3) = true))) ∨ feB s ⟨#[115, 101, 112, 116]⟩ = true
theorem fold_as (s n : ByteArray) (w : World) (hs : s.size ≤ maxLen) (r : Bool) (h : Hid (feB s n = r)) :
    Calls Try.prog 16 #[.string s, .string n] w fun e w' => e = .returned (.bool r) ∧ w' = w := by
  rw [← h.out]; exact fold_any s n w hs
set_option maxHeartbeats 1000000 in
theorem model_any (s : ByteArray) (w : World) (hs : s.size ≤ maxLen) :
    Calls Try.prog 8 #[.string s] w fun e w' => (∃ r : Bool, e = .returned (.bool r) ∧ (r = true ↔ Model s)) ∧ w' = w := by
  have FA := fun n w r h => fold_as s n w hs r h
  unfold maxLen at hs
  go_enter Try.func8, Try.ntmps8
  go_wp2
  go_loop [3, 4] (fun i _ => ∃ k : Nat, k ≤ 12 ∧ i = .int .i64 k ∧ Hid (∀ j, j < k → feB s (nameB j) = false ∧ (s.size = 3 → feB s ((nameB j).extract 0 3) = false))) (fun i _ => 12 - (intOf i).toNat)
  case atStart => exact ⟨0, Nat.zero_le _, rfl, fun j h => by omega⟩
  case round =>
    obtain ⟨k, hk, rfl, hinv⟩ := hrel
    by_cases hlt : k < 12
    · have hsz := (name_size k hlt).1
      have NA := fun w => name_any k hlt w
      generalize hnm : nameB k = N at hsz NA
      have HN : Hid (nameB k = N) := hnm
      clear hnm
      cases h1 : feB s N
      · by_cases h3 : s.size = 3
        · have h3' : ((s.size : Int) == 3) = true := by simp [h3]
          cases h2 : feB s (N.extract 0 3)
          · have H1 : Hid (feB s N = false) := h1
            have H2 : Hid (feB s (N.extract 0 3) = false) := h2
            have H3 : Hid (s.size = 3) := h3
            clear h1 h2 h3
            go_wp2_with (first | (go_at_call 15; refine (NA _).mono ?_; rintro e w' ⟨rfl, rfl⟩) | (go_at_call_of 16 (Value.string N); refine (FA _ _ _ H1).mono ?_; rintro e w' ⟨rfl, rfl⟩) | (go_at_call 16; refine (FA _ _ _ H2).mono ?_; rintro e w' ⟨rfl, rfl⟩))
            go_round
            case rel =>
              refine ⟨k + 1, by omega, by go_num, fun j hj => ?_⟩
              by_cases e : j = k
              · rw [e, HN.out]; exact ⟨H1.out, fun _ => H2.out⟩
              · exact hinv j (by omega)
            case measure => simp [intOf]; omega
          · have H1 : Hid (feB s N = false) := h1
            have H2 : Hid (feB s (N.extract 0 3) = true) := h2
            have H3 : Hid (s.size = 3) := h3
            clear h1 h2 h3
            go_wp2_with (first | (go_at_call 15; refine (NA _).mono ?_; rintro e w' ⟨rfl, rfl⟩) | (go_at_call_of 16 (Value.string N); refine (FA _ _ _ H1).mono ?_; rintro e w' ⟨rfl, rfl⟩) | (go_at_call 16; refine (FA _ _ _ H2).mono ?_; rintro e w' ⟨rfl, rfl⟩))
            go_ret
            exact ⟨⟨true, rfl, fun _ => .inl ⟨k, hlt, .inr ⟨H3.out, by rw [HN.out]; exact H2.out⟩⟩, fun _ => rfl⟩, rfl⟩
        · have h3' : ((s.size : Int) == 3) = false := by simp; omega
          have H1 : Hid (feB s N = false) := h1
          have H3 : Hid (¬ s.size = 3) := h3
          clear h1 h3
          go_wp2_with (first | (go_at_call 15; refine (NA _).mono ?_; rintro e w' ⟨rfl, rfl⟩) | (go_at_call_of 16 (Value.string N); refine (FA _ _ _ H1).mono ?_; rintro e w' ⟨rfl, rfl⟩))
          go_round
          case rel =>
            refine ⟨k + 1, by omega, by go_num, fun j hj => ?_⟩
            by_cases e : j = k
            · rw [e, HN.out]; exact ⟨H1.out, fun h => absurd h H3.out⟩
            · exact hinv j (by omega)
          case measure => simp [intOf]; omega
      · have H1 : Hid (feB s N = true) := h1
        clear h1
        go_wp2_with (first | (go_at_call 15; refine (NA _).mono ?_; rintro e w' ⟨rfl, rfl⟩) | (go_at_call_of 16 (Value.string N); refine (FA _ _ _ H1).mono ?_; rintro e w' ⟨rfl, rfl⟩))
        go_ret
        exact ⟨⟨true, rfl, fun _ => .inl ⟨k, hlt, .inl (by rw [HN.out]; exact H1.out)⟩, fun _ => rfl⟩, rfl⟩
    · go_wp2_with (first | (go_at_call 16; refine (FA _ _ _ rfl).mono ?_; rintro e w' ⟨rfl, rfl⟩))
      go_ret
      refine ⟨⟨_, rfl, fun h => .inr h, fun h => ?_⟩, rfl⟩
      rcases h with ⟨j, hj, h | ⟨h3, h⟩⟩ | h
      · rw [(hinv j (by omega)).1] at h; cases h
      · rw [(hinv j (by omega)).2 h3] at h; cases h
      · exact h
end Go.Proofs.Qxb6619631a
