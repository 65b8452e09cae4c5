import Derived.Test.Qxb6618763aHolds
namespace Go.Proofs.Qxb6618763a
open Go.ChangeShapes Go.WideShapes Go.ChangeAt Go.RowKit

/-- f with one value more, at n. -/
def more (n : Nat) (f : Nat → Int) (z : Int) : Nat → Int := fun i => if i = n then z else f i
theorem more_old {n i : Nat} {f : Nat → Int} {z : Int} (h : i < n) : more n f z i = f i := by unfold more; rw [if_neg (by omega)]
theorem more_new {n : Nat} {f : Nat → Int} {z : Int} : more n f z n = z := by unfold more; rw [if_pos rfl]
theorem more_sorted {n : Nat} {f : Nat → Int} {z : Int} (hs : ∀ a b, a < b → b < n → f a < f b) (hn : 0 < n) (hz : f (n - 1) < z) : ∀ a b, a < b → b < n + 1 → more n f z a < more n f z b := by
  intro a b hab hb
  rw [more_old (by omega)]
  by_cases e : b = n
  · rw [e, more_new]
    by_cases e2 : a = n - 1
    · rw [e2]; exact hz
    · have := hs a (n - 1) (by omega) (by omega); omega
  · rw [more_old (by omega)]; exact hs a b hab (by omega)

theorem un_no (a0 a1 a2 : Option Addr) (l0 c0 l1 c1 l2 c2 : Nat) (d lf lc lx : Int) (w : World) (h0 : l0 ≤ maxLen) (h1 : l1 ≤ maxLen) (h2 : l2 ≤ maxLen) (h : ¬ (0 < l0 ∧ l1 = l0 ∧ l2 = l0)) :
    Calls Try.prog 4 #[.slice a0 l0 c0, .slice a1 l1 c1, .slice a2 l2 c2, .int .i32 d, .int .i32 lf, .int .i64 lc, .int .i32 lx] w fun e w' => e = .returned (.bool true) ∧ w' = w := by
  have HB := fun w => bytes4 a0 a1 a2 l0 c0 l1 c1 l2 c2 d lf lc lx w h0 h1 h2
  have O := fun w => ordered_no a0 a1 a2 l0 c0 l1 c1 l2 c2 w h
  clear h
  unfold maxLen at h0 h1 h2
  go_enter Try.func4, Try.ntmps4
  go_wp2_with (first | (go_at_call 10; refine (HB _).mono ?_; rintro e w' ⟨⟨b, rfl⟩, rfl⟩; cases b) | (go_at_call 6; refine (O _).mono ?_; rintro e w' ⟨rfl, rfl⟩))
  all_goals go_ret
  all_goals exact ⟨rfl, rfl⟩
theorem un_long (a0 a1 a2 : Option Addr) (l0 c0 l1 c1 l2 c2 : Nat) (d lf lc lx : Int) (w : World) (h0 : l0 ≤ maxLen) (h1 : l1 ≤ maxLen) (h2 : l2 ≤ maxLen) (h : 32768 < l0) :
    Calls Try.prog 4 #[.slice a0 l0 c0, .slice a1 l1 c1, .slice a2 l2 c2, .int .i32 d, .int .i32 lf, .int .i64 lc, .int .i32 lx] w fun e w' => e = .returned (.bool true) ∧ w' = w := by
  have HB := fun w => bytes4 a0 a1 a2 l0 c0 l1 c1 l2 c2 d lf lc lx w h0 h1 h2
  unfold maxLen at h0 h1 h2
  go_enter Try.func4, Try.ntmps4
  go_wp2_with (first | (go_at_call 10; refine (HB _).mono ?_; rintro e w' ⟨⟨b, rfl⟩, rfl⟩; cases b))
  all_goals go_ret
  all_goals exact ⟨rfl, rfl⟩

set_option maxRecDepth 100000 in
set_option maxHeartbeats 1000000 in
theorem un_yes (b0 o0 c0 b1 o1 c1 b2 o2 c2 n : Nat) (f c x : Nat → Int) (d lf lc lx : Int) (w : World) (hn : 0 < n) (hl : n ≤ 32768) (r0 : RowAt .i32 w b0 o0 n f) (r1 : RowAt .i64 w b1 o1 n c) (r2 : RowAt .i32 w b2 o2 n x) (hc : Fits64 c n)
    (hlc : -9223372036854775808 ≤ lc ∧ lc ≤ 9223372036854775807) :
    Calls Try.prog 4 #[.slice (some ⟨b0, o0, none⟩) n c0, .slice (some ⟨b1, o1, none⟩) n c1, .slice (some ⟨b2, o2, none⟩) n c2, .int .i32 d, .int .i32 lf, .int .i64 lc, .int .i32 lx] w fun e w' => e = .returned (.bool true) ∧ Below w.heap.size w w' := by
  obtain ⟨hlc0, hlc1⟩ := hlc
  have R0 : Hid (RowAt .i32 w b0 o0 n f) := r0
  have R1 : Hid (RowAt .i64 w b1 o1 n c) := r1
  have R2 : Hid (RowAt .i32 w b2 o2 n x) := r2
  have HC : Hid (Fits64 c n) := hc
  clear r0 r1 r2 hc
  have hn' : (0 : Int) < (n : Int) := by omega
  go_enter Try.func4, Try.ntmps4
  go_wp2_with (first | (go_at_call 10; refine (bytes4 _ _ _ _ _ _ _ _ _ _ _ _ _ _ (by unfold maxLen; omega) (by unfold maxLen; omega) (by unfold maxLen; omega)).mono ?_; rintro e w' ⟨⟨b, rfl⟩, rfl⟩; cases b))
  · go_ret
    exact ⟨rfl, Below.refl _ _⟩
  refine (ordered_any b0 o0 n c0 _ _ _ _ f _ hn (by omega) R0.out).mono ?_
  rintro e w1 ⟨⟨r, rfl, hord⟩, hb1⟩
  cases r
  · go_wp2
    go_ret
    exact ⟨rfl, hb1⟩
  have hs := sorted_of (hord rfl)
  have B1 : Hid (Below _ _ w1) := hb1
  have HS : Hid (∀ a b, a < b → b < n → f a < f b) := hs
  have T0 : Hid (RowAt .i32 w1 b0 o0 n f) := R0.out.below hb1 (Nat.le_refl _)
  have T1 : Hid (RowAt .i64 w1 b1 o1 n c) := R1.out.below hb1 (Nat.le_refl _)
  have T2 : Hid (RowAt .i32 w1 b2 o2 n x) := R2.out.below hb1 (Nat.le_refl _)
  have q := T0.out.2 0 hn
  have q' := T0.out.2 (n - 1) (by omega)
  simp only [Nat.add_zero] at q
  clear hb1 hs hord R0 R1 R2
  by_cases hd : d < f 0
  · go_wp2
    go_ret
    exact ⟨rfl, B1.out⟩
  by_cases hlast : lf ≤ f (n - 1)
  · go_wp2
    go_ret
    exact ⟨rfl, B1.out⟩
  go_wp2_with fail
  refine (force b0 o0 n c0 f d _ hn (by omega) T0.out (by omega)).mono ?_
  rintro e wf ⟨⟨j, rfl, hj, hjd, hjt⟩, rfl⟩
  obtain ⟨cj0, cj1⟩ := HC.out j hj
  have h2 : j + 1 < n → d < f (j + 1) := fun h => hjt (j + 1) (by omega) h
  have H2 : Hid (j + 1 < n → d < f (j + 1)) := h2
  have HJ : Hid (f j ≤ d) := hjd
  have HL : Hid (f (n - 1) < lf) := by show _ < _; omega
  have hjn : (j : Int) < (n : Int) := by omega
  clear hjt h2 hjd q q' hlast
  go_wp2_with fail
  refine (graded b0 o0 c0 b1 o1 c1 b2 o2 c2 n f c x _ hn (by omega) T0.out T1.out T2.out HC.out).mono ?_
  rintro e w2 ⟨g, rfl, hb2, hrul⟩
  have B2 : Hid (Below _ _ w2) := B1.out.trans (hb2.mono B1.out.size)
  have U0 : Hid (RowAt .i32 w2 b0 o0 n f) := T0.out.below hb2 (Nat.le_refl _)
  have U1 : Hid (RowAt .i64 w2 b1 o1 n c) := T1.out.below hb2 (Nat.le_refl _)
  have U2 : Hid (RowAt .i32 w2 b2 o2 n x) := T2.out.below hb2 (Nat.le_refl _)
  have HR : Hid (Rules w2 w2.heap.size g n f c x) := hrul
  clear hb2 hrul T0 T1 T2 B1
  have hmk := make32 (n + 1) (by omega) w2
  rw [show ((n + 1 : Nat) : Int) = (n : Int) + 1 from rfl] at hmk
  go_wp2_with fail
  go_loopw [19] (fun i wr => ∃ k : Nat, k ≤ n ∧ i = .int .i64 k ∧ Below w2.heap.size w2 wr ∧ PartRow wr w2.heap.size (n + 1) k (more n f lf) (more n c lc) (more n x lx)) (fun i _ => n - (intOf i).toNat)
  case atStart => exact ⟨0, by omega, rfl, (Below.refl _ _).alloc (Nat.le_refl _) _, part_start (n + 1) _ _ _ w2⟩
  case round =>
    obtain ⟨k, hk, rfl, hbel, hpart⟩ := hrel
    have HB : Hid (Below w2.heap.size w2 wr) := hbel
    have HP : Hid (PartRow wr w2.heap.size (n + 1) k (more n f lf) (more n c lc) (more n x lx)) := hpart
    have l0 := hpart.1
    clear hbel hpart hmk
    by_cases hlt : k < n
    · have q0 := (U0.out.below HB.out (Nat.le_refl _)).2 k hlt
      have q1 := (U1.out.below HB.out (Nat.le_refl _)).2 k hlt
      have q2 := (U2.out.below HB.out (Nat.le_refl _)).2 k hlt
      have hb : (k : Int) < (n : Int) := by omega
      have hb' : (k : Int) < (n : Int) + 1 := by omega
      obtain ⟨hc0, hc1⟩ := HC.out k hlt
      have S0 := HP.out.2.1 (k * 3) (by omega)
      have S1 := HP.out.2.1 (k * 3 + 1) (by omega)
      have S2 := HP.out.2.1 (k * 3 + 2) (by omega)
      have m0 : b0 < wr.heap.size := Nat.lt_of_lt_of_le U0.out.1 HB.out.size
      have m1 : b1 < wr.heap.size := Nat.lt_of_lt_of_le U1.out.1 HB.out.size
      have m2 : b2 < wr.heap.size := Nat.lt_of_lt_of_le U2.out.1 HB.out.size
      have d0 : ¬ w2.heap.size = b0 := by have := U0.out.1; omega
      have d1 : ¬ w2.heap.size = b1 := by have := U1.out.1; omega
      have d2 : ¬ w2.heap.size = b2 := by have := U2.out.1; omega
      obtain ⟨S0, F0⟩ := S0
      obtain ⟨v0, V0⟩ := Option.isSome_iff_exists.1 S0
      clear S0
      obtain ⟨S1, F1⟩ := S1
      obtain ⟨v1, V1⟩ := Option.isSome_iff_exists.1 S1
      clear S1
      obtain ⟨S2, F2⟩ := S2
      obtain ⟨v2, V2⟩ := Option.isSome_iff_exists.1 S2
      clear S2
      go_wp2
      go_region_held (fun w' => w'.cell? ⟨b0, o0 + k, none⟩ = some (.int .i32 (f k)) ∧ w'.cell? ⟨b1, o1 + k, none⟩ = some (.int .i64 (c k)) ∧ w'.cell? ⟨b2, o2 + k, none⟩ = some (.int .i32 (x k))) (go_keep)
        (first | (go_at_call 11; refine (graded_any (f k) (c k) (x k) wr.drew hc0 hc1).mono ?_; rintro e w3 ⟨b, rfl, hb2, hk2⟩; have HB2 : Hid (Below wr.heap.size wr w3) := undrew (B := wr.heap.size) (W := wr) (w := w3) hb2; have HK2 : Hid (BigBlk w3 wr.heap.size w3.heap.size b (c k)) := hk2; clear hb2 hk2; obtain ⟨hcc, hff⟩ := bcell HB2.out))
      go_wp2
      go_roundw
      case rel =>
        have hp := part_step (b := b) (HP.out.below HB2.out) (by omega) (by rw [more_old hlt]; exact HK2.out.mono (by omega) (Nat.le_refl _))
        rw [more_old hlt, more_old hlt] at hp
        exact ⟨k + 1, by omega, by go_num, (((HB.out.trans (HB2.out.mono (Nat.le_of_lt l0))).setCell (p := ⟨w2.heap.size, k * 3, none⟩) (Nat.le_refl _) _).setCell (p := ⟨w2.heap.size, k * 3 + 1, none⟩) (Nat.le_refl _) _).setCell (p := ⟨w2.heap.size, k * 3 + 2, none⟩) (Nat.le_refl _) _, hp⟩
      case measure => simp [intOf]; omega
    · have ek : k = n := by omega
      have HP' : Hid (PartRow wr w2.heap.size (n + 1) n (more n f lf) (more n c lc) (more n x lx)) := by have := HP.out; rw [ek] at this; exact this
      clear ek HP
      obtain ⟨S0, F0⟩ := HP'.out.2.1 (n * 3) (by omega)
      obtain ⟨v0, V0⟩ := Option.isSome_iff_exists.1 S0
      clear S0
      obtain ⟨S1, F1⟩ := HP'.out.2.1 (n * 3 + 1) (by omega)
      obtain ⟨v1, V1⟩ := Option.isSome_iff_exists.1 S1
      clear S1
      obtain ⟨S2, F2⟩ := HP'.out.2.1 (n * 3 + 2) (by omega)
      obtain ⟨v2, V2⟩ := Option.isSome_iff_exists.1 S2
      clear S2
      have hb' : (n : Int) < (n : Int) + 1 := by omega
      go_wp2_with fail
      refine (graded_any lf lc lx _ hlc0 hlc1).mono ?_
      rintro e w3 ⟨b, rfl, hb2, hk2⟩
      have HB2 : Hid (Below wr.heap.size wr w3) := hb2
      have HK2 : Hid (BigBlk w3 wr.heap.size w3.heap.size b lc) := hk2
      clear hb2 hk2
      obtain ⟨hcc, hff⟩ := bcell HB2.out
      have hp := part_step (b := b) (HP'.out.below HB2.out) (by omega) (by rw [more_new]; exact HK2.out.mono (by omega) (Nat.le_refl _))
      rw [more_new, more_new] at hp
      have HP2 : Hid (PartRow (put3 w3 w2.heap.size n b lf lx) w2.heap.size (n + 1) (n + 1) (more n f lf) (more n c lc) (more n x lx)) := hp
      have hbp : Below w2.heap.size w2 (put3 w3 w2.heap.size n b lf lx) := (((HB.out.trans (HB2.out.mono (Nat.le_of_lt l0))).setCell (p := ⟨w2.heap.size, n * 3, none⟩) (Nat.le_refl _) _).setCell (p := ⟨w2.heap.size, n * 3 + 1, none⟩) (Nat.le_refl _) _).setCell (p := ⟨w2.heap.size, n * 3 + 2, none⟩) (Nat.le_refl _) _
      have BP : Hid (Below w2.heap.size w2 (put3 w3 w2.heap.size n b lf lx)) := hbp
      clear hp hbp
      go_wp2_with fail
      have hru := rules_box (cs := #[Value.int IntKind.i32 0, Value.string { data := #[] }, Value.string { data := #[] }, Value.string { data := #[] }, Value.int IntKind.i64 0, Value.int IntKind.i64 0, Value.bool false, Value.bool false, Value.pointer none, Value.pointer none, Value.int IntKind.i64 0, Value.bool false, Value.int IntKind.i64 0, Value.bool false, Value.slice (some { block := w2.heap.size, off := 0 }) (n + 1) (n + 1)]) rfl HP2.out
      have hbw := BP.out.alloc BP.out.size (.cells #[Value.int IntKind.i32 0, Value.string { data := #[] }, Value.string { data := #[] }, Value.string { data := #[] }, Value.int IntKind.i64 0, Value.int IntKind.i64 0, Value.bool false, Value.bool false, Value.pointer none, Value.pointer none, Value.int IntKind.i64 0, Value.bool false, Value.int IntKind.i64 0, Value.bool false, Value.slice (some { block := w2.heap.size, off := 0 }) (n + 1) (n + 1)] 46)
      rw [put3_size] at hru
      unfold put3 at hru hbw
      generalize ((((w3.setCell { block := w2.heap.size, off := n * 3 } (Value.int IntKind.i32 lf)).setCell { block := w2.heap.size, off := n * 3 + 1 } (Value.pointer (some { block := b, off := 0 }))).setCell { block := w2.heap.size, off := n * 3 + 2 } (Value.int IntKind.i32 lx)).alloc (Obj.cells #[Value.int IntKind.i32 0, Value.string { data := #[] }, Value.string { data := #[] }, Value.string { data := #[] }, Value.int IntKind.i64 0, Value.int IntKind.i64 0, Value.bool false, Value.bool false, Value.pointer none, Value.pointer none, Value.int IntKind.i64 0, Value.bool false, Value.int IntKind.i64 0, Value.bool false, Value.slice (some { block := w2.heap.size, off := 0 }) (n + 1) (n + 1)] 46)) = W at hru hbw ⊢
      generalize w3.heap.size = g2 at hru ⊢
      have HR1 : Hid (Rules W W.heap.size g n f c x) := HR.out.next hbw
      have HR2 : Hid (Rules W W.heap.size g2 (n + 1) (more n f lf) (more n c lc) (more n x lx)) := hru
      have X1 : Hid (RowAt .i64 W b1 o1 n c) := U1.out.below hbw (Nat.le_refl _)
      have X2 : Hid (RowAt .i32 W b2 o2 n x) := U2.out.below hbw (Nat.le_refl _)
      have B3 : Hid (Below _ _ W) := B2.out.trans (hbw.mono B2.out.size)
      clear hru hbw hcc hff V0 V1 V2 F0 F1 F2
      refine (call_any g n j f c x d _ (by omega) HR1.out HS.out hj HJ.out H2.out cj0 cj1).mono ?_
      rintro e w4 ⟨rfl, hb4⟩
      have B4 : Hid (Below _ _ w4) := B3.out.trans (hb4.mono B3.out.size)
      have Y1 : Hid (RowAt .i64 w4 b1 o1 n c) := X1.out.below hb4 (Nat.le_refl _)
      have Y2 : Hid (RowAt .i32 w4 b2 o2 n x) := X2.out.below hb4 (Nat.le_refl _)
      have HR4 : Hid (Rules w4 w4.heap.size g2 (n + 1) (more n f lf) (more n c lc) (more n x lx)) := HR2.out.next hb4
      have MS := more_sorted HS.out hn HL.out
      have HM : Hid (∀ a b, a < b → b < n + 1 → more n f lf a < more n f lf b) := MS
      clear hb4 B3 X1 X2 HR1 HR2 MS
      by_cases hdl : d < lf
      · go_wp2_with fail
        refine (call_any g2 (n + 1) j (more n f lf) (more n c lc) (more n x lx) d _ (by omega) HR4.out HM.out (by omega) ?_ ?_ ?_ ?_).mono ?_
        · rw [more_old hj]; exact HJ.out
        · intro h
          by_cases e : j + 1 = n
          · rw [e, more_new]; exact hdl
          · rw [more_old (by omega)]; exact H2.out (by omega)
        · rw [more_old hj]; exact cj0
        · rw [more_old hj]; exact cj1
        rw [more_old hj, more_old hj]
        rintro e w5 ⟨rfl, hb5⟩
        have B5 : Hid (Below _ _ w5) := B4.out.trans (hb5.mono B4.out.size)
        have q1 := (Y1.out.below hb5 (Nat.le_refl _)).2 j hj
        have q2 := (Y2.out.below hb5 (Nat.le_refl _)).2 j hj
        clear hb5
        go_wp2
        go_ret
        exact ⟨rfl, B5.out⟩
      · go_wp2_with fail
        refine (call_any g2 (n + 1) n (more n f lf) (more n c lc) (more n x lx) d _ (by omega) HR4.out HM.out (by omega) ?_ ?_ ?_ ?_).mono ?_
        · rw [more_new]; omega
        · intro h; omega
        · rw [more_new]; exact hlc0
        · rw [more_new]; exact hlc1
        rw [more_new, more_new]
        rintro e w5 ⟨rfl, hb5⟩
        have B5 : Hid (Below _ _ w5) := B4.out.trans (hb5.mono B4.out.size)
        have q1 := (Y1.out.below hb5 (Nat.le_refl _)).2 j hj
        have q2 := (Y2.out.below hb5 (Nat.le_refl _)).2 j hj
        clear hb5
        go_wp2
        go_ret
        exact ⟨rfl, B5.out⟩
end Go.Proofs.Qxb6618763a
