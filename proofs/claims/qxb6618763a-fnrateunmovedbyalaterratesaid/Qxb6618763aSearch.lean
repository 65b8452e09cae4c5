/- Seat b6618763a: slices.BinarySearchFunc over the rates. -/
import Derived.Test.Qxb6618763aCoef
namespace Go.Proofs.Qxb6618763a
open Go.ChangeShapes Go.WideShapes Go.ChangeAt Go.RowKit
def RatesRow (w : World) (B r n : Nat) (f c x : Nat → Int) : Prop :=
  r < B ∧ ∀ i, i < n → ∃ b, w.cell? ⟨r, i * 3, none⟩ = some (.int .i32 (f i)) ∧ w.cell? ⟨r, i * 3 + 1, none⟩ = some (.pointer (some ⟨b, 0, none⟩)) ∧ w.cell? ⟨r, i * 3 + 2, none⟩ = some (.int .i32 (x i)) ∧ BigBlk w 0 B b (c i)
theorem RatesRow.below {w w' : World} {B r n : Nat} {f c x : Nat → Int} (h : RatesRow w B r n f c x) (hb : Below B w w') : RatesRow w' B r n f c x := by
  refine ⟨h.1, fun i hi => ?_⟩
  obtain ⟨b, h0, h1, h2, h3⟩ := h.2 i hi
  exact ⟨b, by rw [hb.cell (p := ⟨r, i * 3, none⟩) h.1]; exact h0, by rw [hb.cell (p := ⟨r, i * 3 + 1, none⟩) h.1]; exact h1, by rw [hb.cell (p := ⟨r, i * 3 + 2, none⟩) h.1]; exact h2, h3.below hb⟩

theorem cmp_neg {a b : Int} (h : a < b) : cmpI a b = -1 := by unfold cmpI; rw [if_pos h]
theorem cmp_nneg {a b : Int} (h : ¬ a < b) : 0 ≤ cmpI a b := by unfold cmpI; rw [if_neg h]; split <;> omega
theorem cmp_zero {a b : Int} : (cmpI a b == 0) = decide (a = b) := by unfold cmpI; split <;> (try split) <;> simp <;> omega

theorem ret_two {k : IntKind} {a b : Int} {p q : Bool} (h : a = b) (h2 : p = q) : Ending.returned (.tuple #[.int k a, .bool p]) = .returned (.tuple #[.int k b, .bool q]) := by rw [h, h2]
set_option maxHeartbeats 400000 in
theorem search (r n : Nat) (f c x : Nat → Int) (d : Int) (w : World) (hn : n ≤ 65536) (hr : RatesRow w w.heap.size r n f c x) (hs : ∀ a b, a < b → b < n → f a < f b) :
    Calls Try.prog 17 #[.slice (some ⟨r, 0, none⟩) n n, .int .i32 d, .func (.func 18) #[] #[]] w fun e w' => ∃ i : Nat, i ≤ n ∧ (∀ t, t < i → f t < d) ∧ (∀ t, i ≤ t → t < n → d ≤ f t) ∧ e = .returned (.tuple #[.int .i64 i, .bool (decide (i < n ∧ f i = d))]) ∧ Below w.heap.size w w' := by
  have HR : Hid (RatesRow w w.heap.size r n f c x) := hr
  have HS : Hid (∀ a b, a < b → b < n → f a < f b) := hs
  clear hr hs
  go_enter Try.func17, Try.ntmps17
  go_wp2
  go_loopw [9, 10] (fun p q wr => ∃ i j : Nat, i ≤ j ∧ j ≤ n ∧ p = .int .i64 i ∧ q = .int .i64 j ∧ Below w.heap.size w wr ∧ Hid (∀ t, t < i → f t < d) ∧ Hid (∀ t, j ≤ t → t < n → d ≤ f t)) (fun p q _ => (intOf q).toNat - (intOf p).toNat)
  case atStart => exact ⟨0, n, by omega, by omega, rfl, rfl, Below.refl _ _, fun t h => by omega, fun t h h' => by omega⟩
  case round =>
    obtain ⟨i, j, hij, hjn, rfl, rfl, hb, hlo, hhi⟩ := hrel
    have HB : Hid (Below w.heap.size w wr) := hb
    clear hb
    by_cases hlt : i < j
    · obtain ⟨b, h0, h1, h2, _⟩ := (HR.out.below HB.out).2 ((i + j) / 2) (by omega)
      by_cases hc : f ((i + j) / 2) < d
      · have hneg : cmpI (f ((i + j) / 2)) d < 0 := by rw [cmp_neg hc]; omega
        go_wp2_with (go_at_call 18; refine (close_any _ _ _ _ _).mono ?_; rintro e w' ⟨rfl, rfl⟩)
        go_roundw
        case rel => exact ⟨(i + j) / 2 + 1, j, by omega, hjn, by go_num, rfl, HB.out.alloc HB.out.size _, fun t ht => by
            by_cases e : t = (i + j) / 2
            · rw [e]; exact hc
            · have := HS.out t ((i + j) / 2) (by omega) (by omega); omega, hhi⟩
        case measure => simp [intOf]; omega
      · have hneg : ¬ cmpI (f ((i + j) / 2)) d < 0 := by have := cmp_nneg hc; omega
        go_wp2_with (go_at_call 18; refine (close_any _ _ _ _ _).mono ?_; rintro e w' ⟨rfl, rfl⟩)
        go_roundw
        case rel => exact ⟨i, (i + j) / 2, by omega, by omega, rfl, by go_num, HB.out.alloc HB.out.size _, hlo, fun t h1 h2 => by
            by_cases e : t = (i + j) / 2
            · rw [e]; omega
            · have := HS.out ((i + j) / 2) t (by omega) (by omega); omega⟩
        case measure => simp [intOf]; omega
    · have hji : j = i := by omega
      have HE : Hid (j = i) := hji
      clear hji
      by_cases hin : i < n
      · obtain ⟨b, h0, h1, h2, _⟩ := (HR.out.below HB.out).2 i hin
        go_wp2_with (go_at_call 18; refine (close_any _ _ _ _ _).mono ?_; rintro e w' ⟨rfl, rfl⟩)
        go_ret2
        exact ⟨i, by omega, hlo, fun t h1 h2 => hhi t (by omega) h2, ret_two rfl (by rw [cmp_zero]; simp [hin]), HB.out.alloc HB.out.size _⟩
      · go_wp2
        go_ret2
        exact ⟨i, by omega, hlo, fun t h1 h2 => hhi t (by omega) h2, ret_two rfl (by simp [hin]), HB.out⟩
end Go.Proofs.Qxb6618763a
