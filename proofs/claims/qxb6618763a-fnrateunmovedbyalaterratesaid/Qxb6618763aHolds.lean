import Derived.Test.Qxb6618763aGraded
namespace Go.Proofs.Qxb6618763a
open Go.ChangeShapes Go.WideShapes Go.ChangeAt Go.RowKit
theorem ordered_any (b o n c0 : Nat) (a1 a2 : Option Addr) (c1 c2 : Nat) (f : Nat → Int) (w : World) (hn : 0 < n) (hl : n ≤ 65536) (hr : RowAt .i32 w b o n f) :
    Calls Try.prog 6 #[.slice (some ⟨b, o, none⟩) n c0, .slice a1 n c1, .slice a2 n c2] w fun e w' => (∃ r : Bool, e = .returned (.bool r) ∧ (r = true → ∀ i, 0 < i → i < n → f (i - 1) < f i)) ∧ Below w.heap.size w w' :=
  (ordered_yes b o n c0 a1 a2 c1 c2 f w hn hl hr).mono fun e w' ⟨h1, nq, h2⟩ => ⟨h1, by rw [h2]; exact below_drewN (Below.refl _ _) nq⟩
theorem sorted_of {n : Nat} {f : Nat → Int} (h : ∀ i, 0 < i → i < n → f (i - 1) < f i) : ∀ a b, a < b → b < n → f a < f b := by
  intro a b hab
  induction b with
  | zero => omega
  | succ b ih =>
    intro hb
    have h1 := h (b + 1) (by omega) hb
    simp at h1
    by_cases e : a = b
    · subst e; exact h1
    · have := ih (by omega) (by omega); omega

/-- Where the three lists are not of one length, or empty: nothing is looked at. -/
theorem holds_no (a0 a1 a2 : Option Addr) (l0 c0 l1 c1 l2 c2 : Nat) (d : Int) (w : World) (h0 : l0 ≤ maxLen) (h1 : l1 ≤ maxLen) (h2 : l2 ≤ maxLen) (h : ¬ (0 < l0 ∧ l1 = l0 ∧ l2 = l0)) :
    Calls Try.prog 3 #[.slice a0 l0 c0, .slice a1 l1 c1, .slice a2 l2 c2, .int .i32 d] w fun e w' => e = .returned (.bool true) ∧ w' = w := by
  have B := fun w => bytes3 a0 a1 a2 l0 c0 l1 c1 l2 c2 d w h0 h1 h2
  have O := fun w => ordered_no a0 a1 a2 l0 c0 l1 c1 l2 c2 w h
  have HB := B
  clear h B
  unfold maxLen at h0 h1 h2
  go_enter Try.func3, Try.ntmps3
  go_wp2_with (first | (go_at_call 5; refine (HB _).mono ?_; rintro e w' ⟨⟨b, rfl⟩, rfl⟩; cases b) | (go_at_call 6; refine (O _).mono ?_; rintro e w' ⟨rfl, rfl⟩))
  all_goals go_ret
  all_goals exact ⟨rfl, rfl⟩

/-- More than 1 << 15 rates: likewise. -/
theorem holds_long (a0 a1 a2 : Option Addr) (l0 c0 l1 c1 l2 c2 : Nat) (d : Int) (w : World) (h0 : l0 ≤ maxLen) (h1 : l1 ≤ maxLen) (h2 : l2 ≤ maxLen) (h : 32768 < l0) :
    Calls Try.prog 3 #[.slice a0 l0 c0, .slice a1 l1 c1, .slice a2 l2 c2, .int .i32 d] w fun e w' => e = .returned (.bool true) ∧ w' = w := by
  have HB := fun w => bytes3 a0 a1 a2 l0 c0 l1 c1 l2 c2 d w h0 h1 h2
  unfold maxLen at h0 h1 h2
  go_enter Try.func3, Try.ntmps3
  go_wp2_with (first | (go_at_call 5; refine (HB _).mono ?_; rintro e w' ⟨⟨b, rfl⟩, rfl⟩; cases b))
  all_goals go_ret
  all_goals exact ⟨rfl, rfl⟩

theorem Rules.next {w w' : World} {g n : Nat} {f c x : Nat → Int} (h : Rules w w.heap.size g n f c x) (hb : Below w.heap.size w w') : Rules w' w'.heap.size g n f c x := by
  obtain ⟨h0, r, h1, h2⟩ := h.below hb
  exact ⟨Nat.lt_of_lt_of_le h0 hb.size, r, h1, h2.mono hb.size⟩
set_option maxHeartbeats 1000000 in
theorem holds_yes (b0 o0 c0 b1 o1 c1 b2 o2 c2 n : Nat) (f c x : Nat → Int) (d : Int) (w : World) (hn : 0 < n) (hl : n ≤ 32768) (r0 : RowAt .i32 w b0 o0 n f) (r1 : RowAt .i64 w b1 o1 n c) (r2 : RowAt .i32 w b2 o2 n x) (hc : Fits64 c n)
    (hf : ∀ i, i < n → -2147483648 ≤ f i ∧ f i ≤ 2147483647) :
    Calls Try.prog 3 #[.slice (some ⟨b0, o0, none⟩) n c0, .slice (some ⟨b1, o1, none⟩) n c1, .slice (some ⟨b2, o2, none⟩) n c2, .int .i32 d] w fun e w' => e = .returned (.bool true) ∧ Below w.heap.size w w' := by
  have R0 : Hid (RowAt .i32 w b0 o0 n f) := r0
  have R1 : Hid (RowAt .i64 w b1 o1 n c) := r1
  have R2 : Hid (RowAt .i32 w b2 o2 n x) := r2
  have HC : Hid (Fits64 c n) := hc
  have HF : Hid (∀ i, i < n → -2147483648 ≤ f i ∧ f i ≤ 2147483647) := hf
  clear r0 r1 r2 hc hf
  have hn' : (0 : Int) < (n : Int) := by omega
  go_enter Try.func3, Try.ntmps3
  go_wp2_with (first | (go_at_call 5; refine (bytes3 _ _ _ _ _ _ _ _ _ _ _ (by unfold maxLen; omega) (by unfold maxLen; omega) (by unfold maxLen; omega)).mono ?_; rintro e w' ⟨⟨b, rfl⟩, rfl⟩; cases b))
  · go_ret
    exact ⟨rfl, Below.refl _ _⟩
  refine (ordered_any b0 o0 n c0 _ _ _ _ f _ hn (by omega) R0.out).mono ?_
  rintro e w1 ⟨⟨r, rfl, hord⟩, hb1⟩
  cases r
  · go_wp2
    go_ret
    exact ⟨rfl, hb1⟩
  have hs := sorted_of (hord rfl)
  have B1 : Hid (Below _ _ w1) := hb1
  have HS : Hid (∀ a b, a < b → b < n → f a < f b) := hs
  have T0 : Hid (RowAt .i32 w1 b0 o0 n f) := R0.out.below hb1 (Nat.le_refl _)
  have T1 : Hid (RowAt .i64 w1 b1 o1 n c) := R1.out.below hb1 (Nat.le_refl _)
  have T2 : Hid (RowAt .i32 w1 b2 o2 n x) := R2.out.below hb1 (Nat.le_refl _)
  have q := T0.out.2 0 hn
  simp only [Nat.add_zero] at q
  clear hb1 hs hord R0 R1 R2
  by_cases hd : d < f 0
  · go_wp2
    go_ret
    exact ⟨rfl, B1.out⟩
  go_wp2_with fail
  refine (force b0 o0 n c0 f d _ hn (by omega) T0.out (by omega)).mono ?_
  rintro e wf ⟨⟨j, rfl, hj, hjd, hjt⟩, rfl⟩
  obtain ⟨cj0, cj1⟩ := HC.out j hj
  have h2 : j + 1 < n → d < f (j + 1) := fun h => hjt (j + 1) (by omega) h
  have H2 : Hid (j + 1 < n → d < f (j + 1)) := h2
  have HJ : Hid (f j ≤ d) := hjd
  have hjn : (j : Int) < (n : Int) := by omega
  clear hjt h2 hjd q
  go_wp2_with fail
  refine (graded b0 o0 c0 b1 o1 c1 b2 o2 c2 n f c x _ hn (by omega) T0.out T1.out T2.out HC.out).mono ?_
  rintro e w2 ⟨g, rfl, hb2, hrul⟩
  have B2 : Hid (Below _ _ w2) := B1.out.trans (hb2.mono B1.out.size)
  have U0 : Hid (RowAt .i32 w2 b0 o0 n f) := T0.out.below hb2 (Nat.le_refl _)
  have U1 : Hid (RowAt .i64 w2 b1 o1 n c) := T1.out.below hb2 (Nat.le_refl _)
  have U2 : Hid (RowAt .i32 w2 b2 o2 n x) := T2.out.below hb2 (Nat.le_refl _)
  have HR : Hid (Rules w2 w2.heap.size g n f c x) := hrul
  clear hb2 hrul T0 T1 T2 B1
  go_wp2_with fail
  refine (call_any g n j f c x d _ (by omega) HR.out HS.out hj HJ.out H2.out cj0 cj1).mono ?_
  rintro e w3 ⟨rfl, hb3⟩
  have B3 : Hid (Below _ _ w3) := B2.out.trans (hb3.mono B2.out.size)
  have X0 : Hid (RowAt .i32 w3 b0 o0 n f) := U0.out.below hb3 (Nat.le_refl _)
  have X1 : Hid (RowAt .i64 w3 b1 o1 n c) := U1.out.below hb3 (Nat.le_refl _)
  have X2 : Hid (RowAt .i32 w3 b2 o2 n x) := U2.out.below hb3 (Nat.le_refl _)
  have HR3 : Hid (Rules w3 w3.heap.size g n f c x) := HR.out.next hb3
  clear hb3 U0 U1 U2 B2 HR
  have q0 := X0.out.2 j hj
  have q1 := X1.out.2 j hj
  have q2 := X2.out.2 j hj
  go_wp2_with fail
  refine (call_any g n j f c x (f j) _ (by omega) HR3.out HS.out hj (Int.le_refl _) (fun h => HS.out j (j + 1) (by omega) h) cj0 cj1).mono ?_
  rintro e w4 ⟨rfl, hb4⟩
  have B4 : Hid (Below _ _ w4) := B3.out.trans (hb4.mono B3.out.size)
  have Y0 : Hid (RowAt .i32 w4 b0 o0 n f) := X0.out.below hb4 (Nat.le_refl _)
  have Y1 : Hid (RowAt .i64 w4 b1 o1 n c) := X1.out.below hb4 (Nat.le_refl _)
  have Y2 : Hid (RowAt .i32 w4 b2 o2 n x) := X2.out.below hb4 (Nat.le_refl _)
  have HR4 : Hid (Rules w4 w4.heap.size g n f c x) := HR3.out.next hb4
  clear hb4 X0 X1 X2 B3 HR3 q0 q1 q2
  have q1 := Y1.out.2 j hj
  have q2 := Y2.out.2 j hj
  by_cases hlt : j + 1 < n
  · have q3 := Y0.out.2 (j + 1) hlt
    obtain ⟨ck0, ck1⟩ := HC.out (j + 1) hlt
    obtain ⟨fk0, fk1⟩ := HF.out (j + 1) hlt
    obtain ⟨fj0, fj1⟩ := HF.out j hj
    have hjk := HS.out j (j + 1) (by omega) hlt
    have hlt' : (j : Int) + 1 < (n : Int) := by omega
    go_wp2_with fail
    refine (call_any g n j f c x (f (j + 1) - 1) _ (by omega) HR4.out HS.out hj (by omega) (fun _ => by omega) cj0 cj1).mono ?_
    rintro e w5 ⟨rfl, hb5⟩
    have B5 : Hid (Below _ _ w5) := B4.out.trans (hb5.mono B4.out.size)
    have Z0 : Hid (RowAt .i32 w5 b0 o0 n f) := Y0.out.below hb5 (Nat.le_refl _)
    have Z1 : Hid (RowAt .i64 w5 b1 o1 n c) := Y1.out.below hb5 (Nat.le_refl _)
    have Z2 : Hid (RowAt .i32 w5 b2 o2 n x) := Y2.out.below hb5 (Nat.le_refl _)
    have HR5 : Hid (Rules w5 w5.heap.size g n f c x) := HR4.out.next hb5
    clear hb5 Y0 Y1 Y2 B4 HR4 q1 q2 q3
    have q0 := Z0.out.2 (j + 1) hlt
    have q1 := Z1.out.2 j hj
    have q2 := Z2.out.2 j hj
    go_wp2_with fail
    refine (call_any g n (j + 1) f c x (f (j + 1)) _ (by omega) HR5.out HS.out hlt (Int.le_refl _) (fun h => HS.out (j + 1) (j + 1 + 1) (by omega) h) ck0 ck1).mono ?_
    rintro e w6 ⟨rfl, hb6⟩
    have B6 : Hid (Below _ _ w6) := B5.out.trans (hb6.mono B5.out.size)
    have q3 := (Z1.out.below hb6 (Nat.le_refl _)).2 (j + 1) hlt
    have q4 := (Z2.out.below hb6 (Nat.le_refl _)).2 (j + 1) hlt
    clear hb6
    go_wp2
    go_ret
    exact ⟨rfl, B6.out⟩
  · go_wp2
    go_ret
    exact ⟨rfl, B4.out⟩
end Go.Proofs.Qxb6618763a
