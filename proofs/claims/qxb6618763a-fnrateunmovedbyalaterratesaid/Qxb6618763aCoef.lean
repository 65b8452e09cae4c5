/- Seat b6618763a: Coefficient, NewInt, New, ZZgradedRate, Compare, the closure. -/
import Derived.Test.Qxb6618763aLeaf
namespace Go.Proofs.Qxb6618763a
open Go.ChangeShapes Go.WideShapes Go.ChangeAt Go.RowKit

theorem heap_alloc_old {w : World} {o : Obj} {k : Nat} {x : Obj} (h : w.heap[k]? = some x) : (w.alloc o).heap[k]? = some x := by
  rw [Below.heap_alloc w o k (lt_of h)]; exact h
theorem heap_alloc_new (w : World) (o : Obj) : (w.alloc o).heap[w.heap.size]? = some o := by
  show (w.heap.push o)[w.heap.size]? = some o
  simp

theorem coef_zero (b : Nat) (x : Int) (w : World) (hb : w.heap[b]? = some (.cells #[.bool false, .slice none 0 0] 59)) :
    Calls Try.prog 13 #[.agg #[.pointer (some ⟨b, 0, none⟩), .int .i32 x]] w fun e w' => e = .returned (.pointer (some ⟨w.heap.size + 1, 0, none⟩)) ∧ Below w.heap.size w w' ∧ BigCell w' w'.heap.size (w.heap.size + 1) 0 := by
  have lb := lt_of hb
  have HB : Hid (w.heap[b]? = some (.cells #[.bool false, .slice none 0 0] 59)) := hb
  clear hb
  go_enter Try.func13, Try.ntmps13
  go_wp2_with (first | (go_at_call 20; refine (ensure b _ _ _ (by go_simp)).mono ?_; rintro e w' ⟨rfl, rfl⟩))
  refine (intSet_zero _ b false false _ ?_ ?_ ?_).mono ?_
  · have := heap_alloc_new (w.alloc (Obj.cells #[Value.pointer (some { block := b, off := 0 }), Value.int IntKind.i32 x] 36)) (Obj.cells #[Value.bool false, Value.slice none 0 0] 59)
    simpa using this
  · exact heap_alloc_old (heap_alloc_old HB.out)
  · omega
  rintro e w' ⟨rfl, hbel, h0, h1⟩
  go_wp2
  go_ret
  have hs := hbel.size
  simp at hs
  exact ⟨rfl, (((Below.refl w.heap.size w).alloc (Nat.le_refl _) _).alloc (by simp) _).trans (hbel.mono (by omega)), by omega, by simpa using h0, .inl ⟨rfl, h1⟩⟩

theorem coef_one (b m : Nat) (c : Int) (hc : c ≠ 0) (x : Int) (w : World) (hb : w.heap[b]? = some (.cells #[.bool (decide (c < 0)), .slice (some ⟨m, 0, none⟩) 1 1] 59)) (hm : w.heap[m]? = some (.cells #[.int .u64 (absI c)] 67)) :
    Calls Try.prog 13 #[.agg #[.pointer (some ⟨b, 0, none⟩), .int .i32 x]] w fun e w' => e = .returned (.pointer (some ⟨w.heap.size + 1, 0, none⟩)) ∧ Below w.heap.size w w' ∧ BigCell w' w'.heap.size (w.heap.size + 1) c := by
  have lb := lt_of hb
  have HB : Hid (w.heap[b]? = some (.cells #[.bool (decide (c < 0)), .slice (some ⟨m, 0, none⟩) 1 1] 59)) := hb
  have HM : Hid (w.heap[m]? = some (.cells #[.int .u64 (absI c)] 67)) := hm
  clear hb hm
  go_enter Try.func13, Try.ntmps13
  go_wp2_with (first | (go_at_call 20; refine (ensure b _ _ _ (by go_simp)).mono ?_; rintro e w' ⟨rfl, rfl⟩))
  refine (intSet_one _ b m false (decide (c < 0)) (absI c) _ ?_ ?_ ?_ ?_).mono ?_
  · have := heap_alloc_new (w.alloc (Obj.cells #[Value.pointer (some { block := b, off := 0 }), Value.int IntKind.i32 x] 36)) (Obj.cells #[Value.bool false, Value.slice none 0 0] 59)
    simpa using this
  · exact heap_alloc_old (heap_alloc_old HB.out)
  · exact heap_alloc_old (heap_alloc_old HM.out)
  · omega
  rintro e w' ⟨rfl, hbel, h0, m', h1, h2⟩
  go_wp2
  go_ret
  have hs := hbel.size
  simp at hs
  exact ⟨rfl, (((Below.refl w.heap.size w).alloc (Nat.le_refl _) _).alloc (by simp) _).trans (hbel.mono (by omega)), by omega, h0, .inr ⟨hc, m', lt_of_cell h2, h1, h2⟩⟩

theorem coef_any (b : Nat) (c x : Int) (w : World) (A B : Nat) (h : BigBlk w A B b c) :
    Calls Try.prog 13 #[.agg #[.pointer (some ⟨b, 0, none⟩), .int .i32 x]] w fun e w' => e = .returned (.pointer (some ⟨w.heap.size + 1, 0, none⟩)) ∧ Below w.heap.size w w' ∧ BigCell w' w'.heap.size (w.heap.size + 1) c := by
  obtain ⟨_, _, h⟩ := h
  rcases h with ⟨rfl, h⟩ | ⟨hne, m, _, _, hc, hm⟩
  · exact coef_zero b x w h
  · exact coef_one b m c hne x w hc hm

/-! ### NewInt, decimal.New, ZZgradedRate -/
theorem newInt_pos (c : Int) (w : World) (h0 : 0 < c) (h1 : c ≤ 9223372036854775807) :
    Calls Try.prog 29 #[.int .i64 c] w fun e w' => e = .returned (.pointer (some ⟨w.heap.size + 1, 0, none⟩)) ∧ Below w.heap.size w w' ∧ w'.heap.size = w.heap.size + 2 ∧ BigBlk w' w.heap.size w'.heap.size (w.heap.size + 1) c := by
  have hn : decide (c < 0) = false := decide_eq_false (by omega)
  have ha : absI c = c := by unfold absI; rw [if_neg (by omega)]
  have HA : Hid (absI c = c) := ha
  have HN : Hid (decide (c < 0) = false) := hn
  clear ha hn
  go_enter Try.func29, Try.ntmps29
  go_wp2
  go_ret
  refine ⟨rfl, ((Below.refl w.heap.size w).alloc (Nat.le_refl _) _).alloc (by simp) _, by simp, by omega, by simp, .inr ⟨by omega, w.heap.size, Nat.le_refl _, by simp; omega, ?_, ?_⟩⟩
  · have := heap_alloc_new (w.alloc (Obj.cells #[Value.int IntKind.u64 c] 67)) (Obj.cells #[Value.bool (decide (c < 0)), Value.slice (some ⟨w.heap.size, 0, none⟩) 1 1] 59)
    simpa using this
  · rw [HA.out]; exact heap_alloc_old (heap_alloc_new w _)
theorem wrap_u (c : Int) (h0 : c < 0) (h1 : -9223372036854775808 ≤ c) : IntKind.u64.wrap (-IntKind.u64.wrap c) = -c := by
  have e : ∀ z : Int, IntKind.u64.wrap z = z % 18446744073709551616 := fun z => by simp [IntKind.wrap, IntKind.bits, IntKind.signed]
  rw [e, e]; omega
theorem newInt_neg (c : Int) (w : World) (h0 : c < 0) (h1 : -9223372036854775808 ≤ c) :
    Calls Try.prog 29 #[.int .i64 c] w fun e w' => e = .returned (.pointer (some ⟨w.heap.size + 1, 0, none⟩)) ∧ Below w.heap.size w w' ∧ w'.heap.size = w.heap.size + 2 ∧ BigBlk w' w.heap.size w'.heap.size (w.heap.size + 1) c := by
  have ha : absI c = -c := by unfold absI; rw [if_pos (by omega)]
  have HA : Hid (absI c = -c) := ha
  have HW : Hid (IntKind.u64.wrap (-IntKind.u64.wrap c) = -c) := wrap_u c h0 h1
  clear ha
  go_enter Try.func29, Try.ntmps29
  go_wp2
  go_ret
  refine ⟨rfl, ((Below.refl w.heap.size w).alloc (Nat.le_refl _) _).alloc (by simp) _, by simp, by omega, by simp, .inr ⟨by omega, w.heap.size, Nat.le_refl _, by simp; omega, ?_, ?_⟩⟩
  · rw [decide_eq_true h0]
    have := heap_alloc_new (w.alloc (Obj.cells #[Value.int IntKind.u64 (IntKind.u64.wrap (-IntKind.u64.wrap c))] 67)) (Obj.cells #[Value.bool true, Value.slice (some ⟨w.heap.size, 0, none⟩) 1 1] 59)
    simpa using this
  · rw [HA.out, ← HW.out]; exact heap_alloc_old (heap_alloc_new w _)
theorem newInt_zero (w : World) :
    Calls Try.prog 29 #[.int .i64 0] w fun e w' => e = .returned (.pointer (some ⟨w.heap.size, 0, none⟩)) ∧ Below w.heap.size w w' ∧ w'.heap.size = w.heap.size + 1 ∧ BigBlk w' w.heap.size w'.heap.size w.heap.size 0 := by
  go_enter Try.func29, Try.ntmps29
  go_wp2
  go_ret
  exact ⟨rfl, (Below.refl w.heap.size w).alloc (Nat.le_refl _) _, by simp, Nat.le_refl _, by simp, .inl ⟨rfl, heap_alloc_new w _⟩⟩
theorem newInt_any (c : Int) (w : World) (h0 : -9223372036854775808 ≤ c) (h1 : c ≤ 9223372036854775807) :
    Calls Try.prog 29 #[.int .i64 c] w fun e w' => ∃ b, e = .returned (.pointer (some ⟨b, 0, none⟩)) ∧ Below w.heap.size w w' ∧ BigBlk w' w.heap.size w'.heap.size b c := by
  by_cases hz : c = 0
  · subst hz; exact (newInt_zero w).mono fun e w' ⟨a, b, _, d⟩ => ⟨_, a, b, d⟩
  · by_cases hn : c < 0
    · exact (newInt_neg c w hn h0).mono fun e w' ⟨a, b, _, d⟩ => ⟨_, a, b, d⟩
    · exact (newInt_pos c w (by omega) h1).mono fun e w' ⟨a, b, _, d⟩ => ⟨_, a, b, d⟩
theorem bcell {W w1 : World} (hb : Below W.heap.size W w1) : (∀ b o, b < W.heap.size → w1.cell? ⟨b, o, none⟩ = W.cell? ⟨b, o, none⟩) ∧ (∀ b o, b < W.heap.size → w1.frozen? ⟨b, o, none⟩ = W.frozen? ⟨b, o, none⟩) :=
  ⟨fun b o h => hb.cell (p := ⟨b, o, none⟩) h, fun b o h => hb.frozen (p := ⟨b, o, none⟩) h⟩
theorem new_any (c x : Int) (w : World) (h0 : -9223372036854775808 ≤ c) (h1 : c ≤ 9223372036854775807) :
    Calls Try.prog 16 #[.int .i64 c, .int .i32 x] w fun e w' => ∃ b, e = .returned (.agg #[.pointer (some ⟨b, 0, none⟩), .int .i32 x]) ∧ Below w.heap.size w w' ∧ BigBlk w' w.heap.size w'.heap.size b c := by
  go_enter Try.func16, Try.ntmps16
  go_wp2_with (go_at_call 29; refine (newInt_any c _ h0 h1).mono ?_; rintro e w' ⟨b, rfl, hb, hk⟩; obtain ⟨hc, hf⟩ := bcell hb)
  have hs := hb.size
  simp at hs
  refine bodyPost_ret (v := .agg #[.pointer (some ⟨b, 0, none⟩), .int .i32 x]) (by simp [results, Try.results16, go_sem, hc]) rfl ⟨b, rfl, ?_, ?_⟩
  · exact ((((Below.refl _ _).alloc (Nat.le_refl _) _).trans (hb.mono (by simp))).setCell (p := ⟨w.heap.size, 0, none⟩) (Nat.le_refl _) _).setCell (p := ⟨w.heap.size, 1, none⟩) (Nat.le_refl _) _
  · have h2 := hk.keep (w' := ((w'.setCell { block := w.heap.size, off := 0 } (Value.pointer (some { block := b, off := 0 }))).setCell { block := w.heap.size, off := 1 } (Value.int IntKind.i32 x))) (fun k h3 h4 => by
      simp at h3
      rw [Below.heap_setCell _ _ _ _ (by show k ≠ w.heap.size; omega), Below.heap_setCell _ _ _ _ (by show k ≠ w.heap.size; omega)])
    exact h2.mono (by simp) (by simp)

theorem graded_any (f c x : Int) (w : World) (h0 : -9223372036854775808 ≤ c) (h1 : c ≤ 9223372036854775807) :
    Calls Try.prog 11 #[.int .i32 f, .int .i64 c, .int .i32 x] w fun e w' => ∃ b, e = .returned (.agg #[.int .i32 f, .pointer (some ⟨b, 0, none⟩), .int .i32 x]) ∧ Below w.heap.size w w' ∧ BigBlk w' w.heap.size w'.heap.size b c := by
  go_enter Try.func11, Try.ntmps11
  go_wp2_with (go_at_call 16; refine (new_any c x _ h0 h1).mono ?_; rintro e w' ⟨b, rfl, hb, hk⟩; obtain ⟨hc, hf⟩ := bcell hb)
  have hs := hb.size
  simp at hs
  refine bodyPost_ret (v := .agg #[.int .i32 f, .pointer (some ⟨b, 0, none⟩), .int .i32 x]) (by simp [results, Try.results11, go_sem, hc]) rfl ⟨b, rfl, ?_, ?_⟩
  · exact (((((Below.refl _ _).alloc (Nat.le_refl _) _).trans (hb.mono (by simp))).setCell (p := ⟨w.heap.size, 0, none⟩) (Nat.le_refl _) _).setCell (p := ⟨w.heap.size, 1, none⟩) (Nat.le_refl _) _).setCell (p := ⟨w.heap.size, 2, none⟩) (Nat.le_refl _) _
  · have h2 := hk.keep (w' := (((w'.setCell { block := w.heap.size, off := 0 } (Value.int IntKind.i32 f)).setCell { block := w.heap.size, off := 1 } (Value.pointer (some { block := b, off := 0 }))).setCell { block := w.heap.size, off := 2 } (Value.int IntKind.i32 x))) (fun k h3 h4 => by
      simp at h3
      rw [Below.heap_setCell _ _ _ _ (by show k ≠ w.heap.size; omega), Below.heap_setCell _ _ _ _ (by show k ≠ w.heap.size; omega), Below.heap_setCell _ _ _ _ (by show k ≠ w.heap.size; omega)])
    exact h2.mono (by simp) (by simp)

/-! ### cmp.Compare, the closure, the search -/
def cmpI (a b : Int) : Int := if a < b then -1 else if b < a then 1 else 0
theorem compare_any (a b : Int) (w : World) :
    Calls Try.prog 19 #[.int .i32 a, .int .i32 b] w fun e w' => e = .returned (.int .i64 (cmpI a b)) ∧ w' = w := by
  go_enter Try.func19, Try.ntmps19
  go_wp2
  all_goals go_ret
  all_goals exact ⟨ret_int (by unfold cmpI; split <;> (try split) <;> omega), rfl⟩
theorem close_any (f x d : Int) (p : Option Addr) (w : World) :
    Calls Try.prog 18 #[.agg #[.int .i32 f, .pointer p, .int .i32 x], .int .i32 d] w fun e w' => e = .returned (.int .i64 (cmpI f d)) ∧ w' = w.alloc (.cells #[.int .i32 f, .pointer p, .int .i32 x] 38) := by
  go_enter Try.func18, Try.ntmps18
  go_wp2_with (go_at_call 19; refine (compare_any _ _ _).mono ?_; rintro e w' ⟨rfl, rfl⟩)
  go_ret
  exact ⟨rfl, rfl⟩
end Go.Proofs.Qxb6618763a
