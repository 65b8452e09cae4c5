import Derived.Test.Qxb6619631aInsLaw
import Derived.Deep.RegionWith
namespace Go.Proofs.Qxb6619631a
open Go.ChangeShapes Go.WideShapes Go.ChangeAt Go.RowKit
theorem zz_as (s : ByteArray) (w : World) (hs : s.size ≤ maxLen) (r : Bool) (h : Hid (nq s.data.toList = r)) :
    Calls Try.prog 10 #[.string s] w fun e w' => e = .returned (.bool r) ∧ w' = w := by
  rw [← h.out]; exact zzneeds_any s w hs
theorem special_as (c : Int) (w : World) (r : Bool) (h : Hid (spI c = r)) :
    Calls Try.prog 11 #[.int .u8 c] w fun e w' => e = .returned (.bool r) ∧ w' = w := by
  rw [← h.out]; exact special_any c w
theorem lead_as (c : Int) (w : World) (r : Bool) (h : Hid (ldI c = r)) :
    Calls Try.prog 12 #[.int .u8 c] w fun e w' => e = .returned (.bool r) ∧ w' = w := by
  rw [← h.out]; exact lead_any c w

set_option maxRecDepth 100000 in
set_option maxHeartbeats 1000000 in
theorem ins_walk (s : ByteArray) (i : Nat) (c : Int) (w : World) (h2 : i ≤ s.size) (hs : s.size ≤ 1048576) (f : Nat → Int)
    (hf1 : ∀ j (h : j < s.size), j < i → f j = (s[j].toNat : Int)) (hf2 : f i = c) (hf3 : ∀ j (h : j < s.size), i ≤ j → f (j + 1) = (s[j].toNat : Int))
    (A B S D : Bool) (HA : Hid (nq (bytesOf ((List.range (s.size + 1)).map f)).data.toList = A)) (HB : Hid (nq s.data.toList = B)) (HS : Hid (spI c = S)) (HD : Hid (ldI c = D))
    (l1 : S = true → A = true) (l2 : i = 0 → D = true → A = true) (l3 : S = false → 0 < i → A = B) (l4 : S = false → D = false → i = 0 → (!A || B) = true) :
    Calls Try.prog 4 #[.string s, .int .i64 i, .int .u8 c] w fun e w' => e = .returned (.bool true) ∧ Grown w w' := by
  have hmk := make24 (s.size + 1) (by omega) w
  rw [show ((s.size + 1 : Nat) : Int) = (s.size : Int) + 1 from rfl] at hmk
  have F1 : Hid (∀ j (h : j < s.size), j < i → f j = (s[j].toNat : Int)) := hf1
  have F2 : Hid (f i = c) := hf2
  have F3 : Hid (∀ j (h : j < s.size), i ≤ j → f (j + 1) = (s[j].toNat : Int)) := hf3
  have L1 : Hid (S = true → A = true) := l1
  have L2 : Hid (i = 0 → D = true → A = true) := l2
  have L3 : Hid (S = false → 0 < i → A = B) := l3
  have L4 : Hid (S = false → D = false → i = 0 → (!A || B) = true) := l4
  clear hf1 hf2 hf3 l1 l2 l3 l4
  have hi : (i : Int) ≤ (s.size : Int) := by omega
  go_enter Try.func4, Try.ntmps4
  go_wp2_with (first | (go_at_call 9; refine (bytesI_any _ _ _ _ (by unfold maxLen; omega)).mono ?_; rintro e w' ⟨⟨b, rfl⟩, rfl⟩; cases b))
  · go_ret
    exact ⟨rfl, Grown.refl _⟩
  go_loopw [8] (fun t wr => ∃ k : Nat, k ≤ i ∧ t = .int .i64 k ∧ Grown w' wr ∧ Part wr w'.heap.size (s.size + 1) k f) (fun t _ => i - (intOf t).toNat)
  case atStart => exact ⟨0, by omega, rfl, (Grown.refl _).alloc _ _, part_start (s.size + 1) f w'⟩
  case round =>
    obtain ⟨k, hk, rfl, hbel, hpart⟩ := hrel
    have HBel : Hid (Grown w' wr) := hbel
    have HP : Hid (Part wr w'.heap.size (s.size + 1) k f) := hpart
    clear hbel hpart hmk
    obtain ⟨⟨v, hv⟩, hf⟩ := HP.out.2.1 k (by omega)
    by_cases hlt : k < i
    · have hks : k < s.size := by omega
      have hb : (k : Int) < (s.size : Int) + 1 := by omega
      go_wp2
      go_roundw
      case rel =>
        have hp := part_step HP.out (by omega)
        rw [F1.out k hks hlt] at hp
        exact ⟨k + 1, by omega, by go_num, HBel.out.setCell (a := ⟨w'.heap.size, k, none⟩) (Nat.le_refl _) _, hp⟩
      case measure => simp [intOf]; omega
    · have ek : k = i := by omega
      subst ek
      have hb : (k : Int) < (s.size : Int) + 1 := by omega
      have hp := part_step HP.out (by omega)
      rw [F2.out] at hp
      have HP1 : Hid (Part (wr.setCell ⟨w'.heap.size, k, none⟩ (.int .u8 c)) w'.heap.size (s.size + 1) (k + 1) f) := hp
      clear hp
      have HW : Hid (Grown w' (wr.setCell ⟨w'.heap.size, k, none⟩ (.int .u8 c))) := HBel.out.setCell (a := ⟨w'.heap.size, k, none⟩) (Nat.le_refl _) _
      go_wp2
      clear hv hf
      go_loopw [9] (fun t w2 => ∃ j : Nat, k ≤ j ∧ j ≤ s.size ∧ t = .int .i64 j ∧ Grown w' w2 ∧ Part w2 w'.heap.size (s.size + 1) (j + 1) f) (fun t _ => s.size - (intOf t).toNat)
      case atStart => exact ⟨k, Nat.le_refl _, by omega, rfl, HW.out, HP1.out⟩
      case round =>
        obtain ⟨j, hkj, hj, rfl, hbel, hpart⟩ := hrel
        have HB2 : Hid (Grown w' wr) := hbel
        have HP2 : Hid (Part wr w'.heap.size (s.size + 1) (j + 1) f) := hpart
        clear hbel hpart HP HBel HP1 HW
        by_cases hlt : j < s.size
        · obtain ⟨⟨v, hv⟩, hf⟩ := HP2.out.2.1 (j + 1) (by omega)
          have hb2 : (j : Int) + 1 < (s.size : Int) + 1 := by omega
          have hb3 : (j : Int) < (s.size : Int) := by omega
          go_wp2
          go_roundw
          case rel =>
            have hp := part_step HP2.out (by omega)
            rw [F3.out j hlt hkj] at hp
            exact ⟨j + 1, by omega, by omega, by go_num, HB2.out.setCell (a := ⟨w'.heap.size, j + 1, none⟩) (Nat.le_refl _) _, hp⟩
          case measure => simp [intOf]; omega
        · have ej : j = s.size := by omega
          have hp := HP2.out
          rw [ej] at hp
          have hcv := conv_row wr _ _ f hp
          have hsz : (bytesOf ((List.range (s.size + 1)).map f)).size ≤ maxLen := by rw [bytesOf_size]; simp [maxLen]; omega
          clear ej HP2 hp
          generalize bytesOf ((List.range (s.size + 1)).map f) = T at HA hcv hsz
          cases S
          · by_cases hk0 : k = 0
            · cases D
              · have q := L4.out rfl rfl hk0
                subst hk0
                cases A
                · go_wp2_with (first | (go_at_call_of 10 (Value.string s); refine (zz_as _ _ (by unfold maxLen; omega) _ HB).mono ?_; rintro e w3 ⟨rfl, rfl⟩) | (go_at_call 10; refine (zz_as _ _ hsz _ HA).mono ?_; rintro e w3 ⟨rfl, rfl⟩) | (go_at_call 11; refine (special_as _ _ _ HS).mono ?_; rintro e w3 ⟨rfl, rfl⟩) | (go_at_call 12; refine (lead_as _ _ _ HD).mono ?_; rintro e w3 ⟨rfl, rfl⟩))
                  go_ret
                  exact ⟨rfl, HB2.out⟩
                · have qB : B = true := by simpa using q
                  subst qB
                  go_wp2_with (first | (go_at_call_of 10 (Value.string s); refine (zz_as _ _ (by unfold maxLen; omega) _ HB).mono ?_; rintro e w3 ⟨rfl, rfl⟩) | (go_at_call 10; refine (zz_as _ _ hsz _ HA).mono ?_; rintro e w3 ⟨rfl, rfl⟩) | (go_at_call 11; refine (special_as _ _ _ HS).mono ?_; rintro e w3 ⟨rfl, rfl⟩) | (go_at_call 12; refine (lead_as _ _ _ HD).mono ?_; rintro e w3 ⟨rfl, rfl⟩))
                  go_ret
                  exact ⟨rfl, HB2.out⟩
              · have q := L2.out hk0 rfl
                subst q
                subst hk0
                go_wp2_with (first | (go_at_call_of 10 (Value.string s); refine (zz_as _ _ (by unfold maxLen; omega) _ HB).mono ?_; rintro e w3 ⟨rfl, rfl⟩) | (go_at_call 10; refine (zz_as _ _ hsz _ HA).mono ?_; rintro e w3 ⟨rfl, rfl⟩) | (go_at_call 11; refine (special_as _ _ _ HS).mono ?_; rintro e w3 ⟨rfl, rfl⟩) | (go_at_call 12; refine (lead_as _ _ _ HD).mono ?_; rintro e w3 ⟨rfl, rfl⟩))
                go_ret
                exact ⟨rfl, HB2.out⟩
            · have q := L3.out rfl (by omega)
              subst q
              have hk1 : (0 : Int) < (k : Int) := by omega
              have hk2 : ((k : Int) == 0) = false := by simp; omega
              go_wp2_with (first | (go_at_call_of 10 (Value.string s); refine (zz_as _ _ (by unfold maxLen; omega) _ HB).mono ?_; rintro e w3 ⟨rfl, rfl⟩) | (go_at_call 10; refine (zz_as _ _ hsz _ HA).mono ?_; rintro e w3 ⟨rfl, rfl⟩) | (go_at_call 11; refine (special_as _ _ _ HS).mono ?_; rintro e w3 ⟨rfl, rfl⟩) | (go_at_call 12; refine (lead_as _ _ _ HD).mono ?_; rintro e w3 ⟨rfl, rfl⟩))
              go_ret
              exact ⟨by simp, HB2.out⟩
          · have q := L1.out rfl
            subst q
            go_wp2_with (first | (go_at_call_of 10 (Value.string s); refine (zz_as _ _ (by unfold maxLen; omega) _ HB).mono ?_; rintro e w3 ⟨rfl, rfl⟩) | (go_at_call 10; refine (zz_as _ _ hsz _ HA).mono ?_; rintro e w3 ⟨rfl, rfl⟩) | (go_at_call 11; refine (special_as _ _ _ HS).mono ?_; rintro e w3 ⟨rfl, rfl⟩) | (go_at_call 12; refine (lead_as _ _ _ HD).mono ?_; rintro e w3 ⟨rfl, rfl⟩))
            go_ret
            exact ⟨rfl, HB2.out⟩

theorem ins_out (s : ByteArray) (i c : Int) (w : World) (hz : s.size ≤ maxLen) (h : s.size ≤ 1048576 → i < 0 ∨ (s.size : Int) < i) :
    Calls Try.prog 4 #[.string s, .int .i64 i, .int .u8 c] w fun e w' => e = .returned (.bool true) ∧ w' = w := by
  have HB := fun w => bytesI_any s i c w hz
  unfold maxLen at hz
  by_cases hs : s.size ≤ 1048576
  · rcases h hs with h1 | h1
    · clear h
      go_enter Try.func4, Try.ntmps4
      go_wp2_with (first | (go_at_call 9; refine (HB _).mono ?_; rintro e w' ⟨⟨b, rfl⟩, rfl⟩; cases b))
      all_goals go_ret
      all_goals exact ⟨rfl, rfl⟩
    · clear h
      go_enter Try.func4, Try.ntmps4
      go_wp2_with (first | (go_at_call 9; refine (HB _).mono ?_; rintro e w' ⟨⟨b, rfl⟩, rfl⟩; cases b))
      all_goals go_ret
      all_goals exact ⟨rfl, rfl⟩
  · clear h
    have hs' : 1048576 < s.size := by omega
    go_enter Try.func4, Try.ntmps4
    go_wp2_with (first | (go_at_call 9; refine (HB _).mono ?_; rintro e w' ⟨⟨b, rfl⟩, rfl⟩; cases b))
    all_goals go_ret
    all_goals exact ⟨rfl, rfl⟩

theorem getD_at (s : ByteArray) (j : Nat) (h : j < s.size) : s.data.toList.getD j 0 = s[j] := by
  rw [List.getD_eq_getElem?_getD, List.getElem?_eq_getElem (by simpa using h)]
  rfl
theorem ins_any (s : ByteArray) (i c : Int) (w : World) (hz : s.size ≤ maxLen) (hc0 : 0 ≤ c) (hc1 : c ≤ 255) :
    Calls Try.prog 4 #[.string s, .int .i64 i, .int .u8 c] w fun e w' => e = .returned (.bool true) ∧ Grown w w' := by
  by_cases hs : s.size ≤ 1048576 ∧ 0 ≤ i ∧ i ≤ (s.size : Int)
  · obtain ⟨h0, h1, h2⟩ := hs
    obtain ⟨m, rfl⟩ : ∃ m : Nat, i = m := ⟨i.toNat, by omega⟩
    obtain ⟨b, rfl⟩ : ∃ b : UInt8, c = (b.toNat : Int) := ⟨UInt8.ofNat c.toNat, by simp; omega⟩
    have hl : s.data.toList.length = s.size := by simp
    have hm : m ≤ s.data.toList.length := by omega
    have e := ins_bytes s.data.toList m b hm
    rw [hl] at e
    refine ins_walk s m (b.toNat : Int) w (by omega) h0 (insF s.data.toList m b) ?_ (insF_at _ _ _ hm) ?_ _ _ _ _ rfl rfl rfl rfl ?_ ?_ ?_ ?_
    · intro j hj hji
      rw [insF_lo _ _ _ _ hm hji, getD_at s j hj]
    · intro j hj hji
      rw [insF_hi _ _ _ _ hm hji, getD_at s j hj]
    · intro h; rw [e]; exact law1 _ _ _ h
    · intro hm0 h; rw [e, hm0]; exact law2 _ _ h
    · intro h h3; rw [e]; exact law3 _ _ _ h h3 hm
    · intro h h3 h4; rw [e, h4]; exact law4 _ _ h h3
  · exact (ins_out s i c w hz (fun h => by omega)).mono fun e w' ⟨h1, h2⟩ => ⟨h1, by rw [h2]; exact Grown.refl _⟩
end Go.Proofs.Qxb6619631a
