import Derived.Test.Qxb6618763aPart
namespace Go.Proofs.Qxb6618763a
open Go.ChangeShapes Go.WideShapes Go.ChangeAt Go.RowKit
def Fits64 (c : Nat → Int) (n : Nat) : Prop := ∀ i, i < n → -9223372036854775808 ≤ c i ∧ c i ≤ 9223372036854775807

theorem rules_box {w : World} {cs : Array Value} {r n : Nat} {f c x : Nat → Int} (h : cs[14]? = some (.slice (some ⟨r, 0, none⟩) n n)) (hp : PartRow w r n n f c x) :
    Rules (w.alloc (.cells cs 46)) (w.alloc (.cells cs 46)).heap.size w.heap.size n f c x := by
  refine ⟨by simp, r, ?_, ?_⟩
  · rw [cell_of (heap_alloc_new w _) 14]; exact h
  · exact part_rates (hp.below ((Below.refl _ _).alloc (Nat.le_refl _) _))
set_option maxHeartbeats 400000 in
theorem graded (b0 o0 c0 b1 o1 c1 b2 o2 c2 n : Nat) (f c x : Nat → Int) (w : World) (hn : 0 < n) (hl : n ≤ 65536) (r0 : RowAt .i32 w b0 o0 n f) (r1 : RowAt .i64 w b1 o1 n c) (r2 : RowAt .i32 w b2 o2 n x) (hc : Fits64 c n) :
    Calls Try.prog 8 #[.slice (some ⟨b0, o0, none⟩) n c0, .slice (some ⟨b1, o1, none⟩) n c1, .slice (some ⟨b2, o2, none⟩) n c2] w fun e w' => ∃ g, e = .returned (.pointer (some ⟨g, 0, none⟩)) ∧ Below w.heap.size w w' ∧ Rules w' w'.heap.size g n f c x := by
  have hmk := make32 n hl w
  have R0 : Hid (RowAt .i32 w b0 o0 n f) := r0
  have R1 : Hid (RowAt .i64 w b1 o1 n c) := r1
  have R2 : Hid (RowAt .i32 w b2 o2 n x) := r2
  have HC : Hid (Fits64 c n) := hc
  clear r0 r1 r2 hc
  go_enter Try.func8, Try.ntmps8
  go_wp2
  go_loopw [8] (fun i wr => ∃ k : Nat, k ≤ n ∧ i = .int .i64 k ∧ Below w.heap.size w wr ∧ PartRow wr w.heap.size n k f c x) (fun i _ => n - (intOf i).toNat)
  case atStart => exact ⟨0, by omega, rfl, (Below.refl _ _).alloc (Nat.le_refl _) _, part_start n f c x w⟩
  case round =>
    obtain ⟨k, hk, rfl, hbel, hpart⟩ := hrel
    have HB : Hid (Below w.heap.size w wr) := hbel
    have HP : Hid (PartRow wr w.heap.size n k f c x) := hpart
    have l0 := hpart.1
    clear hbel hpart
    by_cases hlt : k < n
    · have q0 := (R0.out.below HB.out (Nat.le_refl _)).2 k hlt
      have q1 := (R1.out.below HB.out (Nat.le_refl _)).2 k hlt
      have q2 := (R2.out.below HB.out (Nat.le_refl _)).2 k hlt
      have hb : (k : Int) < (n : Int) := by omega
      obtain ⟨hc0, hc1⟩ := HC.out k hlt
      have S0 := HP.out.2.1 (k * 3) (by omega)
      have S1 := HP.out.2.1 (k * 3 + 1) (by omega)
      have S2 := HP.out.2.1 (k * 3 + 2) (by omega)
      have m0 : b0 < wr.heap.size := Nat.lt_of_lt_of_le R0.out.1 HB.out.size
      have m1 : b1 < wr.heap.size := Nat.lt_of_lt_of_le R1.out.1 HB.out.size
      have m2 : b2 < wr.heap.size := Nat.lt_of_lt_of_le R2.out.1 HB.out.size
      have d0 : ¬ w.heap.size = b0 := by have := R0.out.1; omega
      have d1 : ¬ w.heap.size = b1 := by have := R1.out.1; omega
      have d2 : ¬ w.heap.size = b2 := by have := R2.out.1; omega
      obtain ⟨S0, F0⟩ := S0
      obtain ⟨v0, V0⟩ := Option.isSome_iff_exists.1 S0
      clear S0
      obtain ⟨S1, F1⟩ := S1
      obtain ⟨v1, V1⟩ := Option.isSome_iff_exists.1 S1
      clear S1
      obtain ⟨S2, F2⟩ := S2
      obtain ⟨v2, V2⟩ := Option.isSome_iff_exists.1 S2
      clear S2
      clear hmk
      go_wp2
      go_region_held (fun w' => w'.cell? ⟨b0, o0 + k, none⟩ = some (.int .i32 (f k)) ∧ w'.cell? ⟨b1, o1 + k, none⟩ = some (.int .i64 (c k)) ∧ w'.cell? ⟨b2, o2 + k, none⟩ = some (.int .i32 (x k))) (go_keep)
        (first | (go_at_call 11; refine (graded_any (f k) (c k) (x k) wr.drew hc0 hc1).mono ?_; rintro e w2 ⟨b, rfl, hb2, hk2⟩; have HB2 : Hid (Below wr.heap.size wr w2) := undrew (B := wr.heap.size) (W := wr) (w := w2) hb2; have HK2 : Hid (BigBlk w2 wr.heap.size w2.heap.size b (c k)) := hk2; clear hb2 hk2; obtain ⟨hcc, hff⟩ := bcell HB2.out))
      go_wp2
      go_roundw
      case rel => exact ⟨k + 1, by omega, by go_num, (((HB.out.trans (HB2.out.mono (Nat.le_of_lt l0))).setCell (p := ⟨w.heap.size, k * 3, none⟩) (Nat.le_refl _) _).setCell (p := ⟨w.heap.size, k * 3 + 1, none⟩) (Nat.le_refl _) _).setCell (p := ⟨w.heap.size, k * 3 + 2, none⟩) (Nat.le_refl _) _, part_step (HP.out.below HB2.out) hlt (HK2.out.mono (by omega) (Nat.le_refl _))⟩
      case measure => simp [intOf]; omega
    · have ek : k = n := by omega
      have EK : Hid (k = n) := ek
      clear ek
      go_wp2
      go_ret
      have hp := HP.out
      rw [EK.out] at hp
      exact ⟨wr.heap.size, rfl, HB.out.alloc HB.out.size _, rules_box rfl hp⟩
end Go.Proofs.Qxb6618763a
