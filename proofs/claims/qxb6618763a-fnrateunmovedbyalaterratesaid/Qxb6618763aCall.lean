import Derived.Test.Qxb6618763aSearch
namespace Go.Proofs.Qxb6618763a
open Go.ChangeShapes Go.WideShapes Go.ChangeAt Go.RowKit
/-- Block g holds a GradedRules whose Rates are the n rates f, c, x. -/
def Rules (w : World) (B g n : Nat) (f c x : Nat → Int) : Prop :=
  g < B ∧ ∃ r, w.cell? ⟨g, 14, none⟩ = some (.slice (some ⟨r, 0, none⟩) n n) ∧ RatesRow w B r n f c x
theorem Rules.below {w w' : World} {B g n : Nat} {f c x : Nat → Int} (h : Rules w B g n f c x) (hb : Below B w w') : Rules w' B g n f c x := by
  obtain ⟨h0, r, h1, h2⟩ := h
  exact ⟨h0, r, by rw [hb.cell (p := ⟨g, 14, none⟩) h0]; exact h1, h2.below hb⟩
theorem RatesRow.mono {w : World} {B B' r n : Nat} {f c x : Nat → Int} (h : RatesRow w B r n f c x) (hB : B ≤ B') : RatesRow w B' r n f c x := by
  refine ⟨by have := h.1; omega, fun i hi => ?_⟩
  obtain ⟨b, h0, h1, h2, h3⟩ := h.2 i hi
  exact ⟨b, h0, h1, h2, h3.mono (Nat.le_refl _) hB⟩
theorem BigBlk.lt {w : World} {A B b : Nat} {c : Int} (h : BigBlk w A B b c) : b < B := h.2.1

theorem found_it {n j i : Nat} {f : Nat → Int} {d : Int} (hj : j < n) (h1 : f j ≤ d) (h2 : j + 1 < n → d < f (j + 1)) (hs : ∀ a b, a < b → b < n → f a < f b)
    (hin : i ≤ n) (hlo : ∀ t, t < i → f t < d) (hhi : ∀ t, i ≤ t → t < n → d ≤ f t) (he : i < n ∧ f i = d) : i = j := by
  rcases Nat.lt_trichotomy i j with h | h | h
  · have := hs i j h hj; omega
  · exact h
  · have := hlo j h
    rcases Nat.lt_or_ge (j + 1) i with h4 | h4
    · have := hlo (j + 1) h4; have := h2 (by omega); omega
    · have e : i = j + 1 := by omega
      subst e; have := h2 (by omega); omega
theorem found_not {n j i : Nat} {f : Nat → Int} {d : Int} (hj : j < n) (h1 : f j ≤ d) (h2 : j + 1 < n → d < f (j + 1)) (hs : ∀ a b, a < b → b < n → f a < f b)
    (hin : i ≤ n) (hlo : ∀ t, t < i → f t < d) (hhi : ∀ t, i ≤ t → t < n → d ≤ f t) (he : ¬ (i < n ∧ f i = d)) : i = j + 1 := by
  rcases Nat.lt_trichotomy i (j + 1) with h | h | h
  · rcases Nat.lt_or_ge i j with h4 | h4
    · have := hs i j h4 hj; have := hhi i (Nat.le_refl _) (by omega); omega
    · have e : i = j := by omega
      subst e; have := hhi i (Nat.le_refl _) hj; exact absurd ⟨hj, by omega⟩ he
  · exact h
  · have := hlo (j + 1) h; have := h2 (by omega); omega

set_option maxHeartbeats 400000 in
theorem rate_any (g n j : Nat) (f c x : Nat → Int) (d : Int) (w : World) (hn : n ≤ 65536) (hr : Rules w w.heap.size g n f c x) (hs : ∀ a b, a < b → b < n → f a < f b)
    (hj : j < n) (h1 : f j ≤ d) (h2 : j + 1 < n → d < f (j + 1)) :
    Calls Try.prog 12 #[.pointer (some ⟨g, 0, none⟩), .int .i32 d] w fun e w' => ∃ b, e = .returned (.agg #[.pointer (some ⟨b, 0, none⟩), .int .i32 (x j)]) ∧ Below w.heap.size w w' ∧ BigBlk w 0 w.heap.size b (c j) := by
  obtain ⟨hg, r, hcell, hrow⟩ := hr
  have HR : Hid (RatesRow w w.heap.size r n f c x) := hrow
  have HS : Hid (∀ a b, a < b → b < n → f a < f b) := hs
  have H1 : Hid (f j ≤ d) := h1
  have H2 : Hid (j + 1 < n → d < f (j + 1)) := h2
  have hrl := hrow.1
  clear hrow hs h1 h2
  go_enter Try.func12, Try.ntmps12
  go_wp2_with (fail)
  refine (search r n f c x d _ hn ?_ HS.out).mono ?_
  · exact (HR.out.below ((Below.refl _ _).alloc (Nat.le_refl _) _)).mono (by simp)
  rintro e w' ⟨i, hin, hlo, hhi, rfl, hb⟩
  obtain ⟨hc, hf⟩ := bcell hb
  have hz := hb.size
  simp at hz
  have hbel : Below w.heap.size w w' := ((Below.refl _ _).alloc (Nat.le_refl _) _).trans (hb.mono (by simp))
  obtain ⟨b, q0, q1, q2, q3⟩ := HR.out.2 j hj
  have HB : Hid (Below w.heap.size w w') := hbel
  have HQ : Hid (BigBlk w 0 w.heap.size b (c j)) := q3
  clear hbel q3 hb
  by_cases he : i < n ∧ f i = d
  · have e := found_it hj H1.out H2.out HS.out hin hlo hhi he
    rw [decide_eq_true he]
    subst e
    clear hlo hhi he
    go_wp2
    refine bodyPost_ret (v := .agg #[.pointer (some ⟨b, 0, none⟩), .int .i32 (x i)]) (by simp [results, Try.results12, go_sem, hc]) rfl ⟨b, rfl, ?_, HQ.out⟩
    exact (HB.out.setCell (p := ⟨w.heap.size, 0, none⟩) (Nat.le_refl _) _).setCell (p := ⟨w.heap.size, 1, none⟩) (Nat.le_refl _) _
  · have e := found_not hj H1.out H2.out HS.out hin hlo hhi he
    rw [decide_eq_false he]
    subst e
    clear hlo hhi he
    go_wp2
    refine bodyPost_ret (v := .agg #[.pointer (some ⟨b, 0, none⟩), .int .i32 (x j)]) (by simp [results, Try.results12, go_sem, hc]) rfl ⟨b, rfl, ?_, HQ.out⟩
    exact (HB.out.setCell (p := ⟨w.heap.size, 0, none⟩) (Nat.le_refl _) _).setCell (p := ⟨w.heap.size, 1, none⟩) (Nat.le_refl _) _

theorem ret_two2 {k l : IntKind} {a b c d : Int} (h : a = b) (h2 : c = d) : Ending.returned (.tuple #[.int k a, .int l c]) = .returned (.tuple #[.int k b, .int l d]) := by rw [h, h2]
theorem undrew {B : Nat} {W w : World} (h : Below B W.drew w) : Below B W w := ⟨h.os, h.tape, h.output, h.size, h.block⟩
set_option maxHeartbeats 400000 in
theorem call_any (g n j : Nat) (f c x : Nat → Int) (d : Int) (w : World) (hn : n ≤ 65536) (hr : Rules w w.heap.size g n f c x) (hs : ∀ a b, a < b → b < n → f a < f b)
    (hj : j < n) (h1 : f j ≤ d) (h2 : j + 1 < n → d < f (j + 1)) (hc0 : -9223372036854775808 ≤ c j) (hc1 : c j ≤ 9223372036854775807) :
    Calls Try.prog 9 #[.pointer (some ⟨g, 0, none⟩), .int .i32 d] w fun e w' => e = .returned (.tuple #[.int .i64 (c j), .int .i32 (x j)]) ∧ Below w.heap.size w w' := by
  have HR : Hid (Rules w w.heap.size g n f c x) := hr
  have HS : Hid (∀ a b, a < b → b < n → f a < f b) := hs
  have H1 : Hid (f j ≤ d) := h1
  have H2 : Hid (j + 1 < n → d < f (j + 1)) := h2
  clear hr hs h1 h2
  go_enter Try.func9, Try.ntmps9
  go_wp2_with (go_at_call 12; refine (rate_any g n j f c x d _ hn HR.out HS.out hj H1.out H2.out).mono ?_; rintro e w1 ⟨b, rfl, hb, hk⟩)
  have hsz := hb.size
  have HK : Hid (BigBlk (w1.alloc (Obj.cells #[Value.pointer (some { block := b, off := 0 }), Value.int IntKind.i32 (x j)] 36)) 0 w.heap.size b (c j)) := (hk.below hb).below ((Below.refl _ _).alloc hsz _)
  have HB : Hid (Below w.heap.size w (w1.alloc (Obj.cells #[Value.pointer (some { block := b, off := 0 }), Value.int IntKind.i32 (x j)] 36))) := hb.alloc hsz _
  have k0 : (w1.alloc (Obj.cells #[Value.pointer (some { block := b, off := 0 }), Value.int IntKind.i32 (x j)] 36)).cell? ⟨w1.heap.size, 0, none⟩ = some (.pointer (some ⟨b, 0, none⟩)) := by go_simp
  have k1 : (w1.alloc (Obj.cells #[Value.pointer (some { block := b, off := 0 }), Value.int IntKind.i32 (x j)] 36)).cell? ⟨w1.heap.size, 1, none⟩ = some (.int .i32 (x j)) := by go_simp
  have k2 : w1.heap.size < (w1.alloc (Obj.cells #[Value.pointer (some { block := b, off := 0 }), Value.int IntKind.i32 (x j)] 36)).heap.size := by simp
  have k3 : w.heap.size ≤ (w1.alloc (Obj.cells #[Value.pointer (some { block := b, off := 0 }), Value.int IntKind.i32 (x j)] 36)).heap.size := by simp; omega
  clear hb hk hsz
  generalize w1.alloc (Obj.cells #[Value.pointer (some { block := b, off := 0 }), Value.int IntKind.i32 (x j)] 36) = W at *
  generalize w1.heap.size = s at *
  go_region_with (first
    | (go_at_call 13; refine (coef_any b (c j) (x j) W.drew 0 w.heap.size (by exact HK.out)).mono ?_; rintro e w2 ⟨rfl, hb2, hk2⟩; have HB2 : Hid (Below W.heap.size W w2) := undrew (B := W.heap.size) (W := W) (w := w2) hb2; have HK2 : Hid (BigCell w2 w2.heap.size (W.heap.size + 1) (c j)) := hk2; have kk := (bcell (undrew (B := W.heap.size) (W := W) (w := w2) hb2)).1; have kz : s < w2.heap.size := Nat.lt_of_lt_of_le k2 hb2.size; clear hb2 hk2)
    | (go_at_call 14; refine (int64_any _ (c j) _ _ HK2.out hc0 hc1).mono ?_; rintro e w3 ⟨rfl, rfl⟩)
    | (go_at_call 15; refine (expo b (x j) _).mono ?_; rintro e w3 ⟨rfl, rfl⟩))
  all_goals go_wp2
  all_goals go_ret2
  all_goals exact ⟨rfl, (HB.out.trans (HB2.out.mono k3)).alloc (HB.out.trans (HB2.out.mono k3)).size _⟩
end Go.Proofs.Qxb6618763a
