/- Seat b6618763a: the leaves: big.Int's Set, Int64; decimal's ensureInitialized, Exponent. -/
import Derived.Test.Qxb6618763aRows
import Derived.WalkKit
import Derived.ProofKit
import Derived.OpenShut
import Derived.ShutString
import Derived.ChangeOld
import Derived.Below
import Derived.Outline
import Derived.Laws.IdiomCopy
import Derived.Laws.MakeOwn
import Derived.RegionTactic
import Derived.ChangeAlike
import Derived.Deep.RegionWith
import Derived.Deep.RegionHeld
import Derived.Deep.QuietTactic
import Derived.BigQuiet
import Derived.LaidEql
namespace Go.Proofs.Qxb6618763a
open Go.ChangeShapes Go.WideShapes Go.ChangeAt Go.RowKit

theorem info67 : (Try.prog.info? 67).map (fun i => (i.zero, i.size, i.bytes)) = some (some (.int .u64 0), 1, 8) := by kernel_rfl
theorem info67' : (Try.prog.info? 67).map (·.size) = some 1 := by kernel_rfl
theorem made1 : madeCells (Value.int IntKind.u64 0).cells 1 = #[.int .u64 0] := by kernel_rfl
theorem make57 (w : World) : Sem.run Try.prog (Instr.makeSlice 57 (.int .i64 1) (.int .i64 1)) w = .ok (.slice (some ⟨w.heap.size, 0, none⟩) 1 1) (w.alloc (.cells #[.int .u64 0] 67)) := by
  have h := info67
  cases hq : Try.prog.info? 67 with
  | none => simp [hq] at h
  | some i =>
    simp [hq] at h
    have := run_make (P := Try.prog) w 57 67 i (.int .u64 0) Try.underlying57 hq h.1 .i64 .i64 1 1 (by omega) (by omega) (by rw [h.2.2]; omega) (by omega)
    rw [h.2.1, show Int.toNat 1 * 1 = 1 from rfl, made1] at this
    exact this

theorem set_zero (w : World) :
    Calls Try.prog 31 #[.slice none 0 0, .slice none 0 0] w fun e w' => e = .returned (.slice none 0 0) ∧ w' = w := by
  have hcp := run_copy_none (P := Try.prog) w 57 57 3 67 none none 0 0 0 0 Try.underlying57 info67' rfl
  go_enter Try.func31, Try.ntmps31
  go_wp2
  go_ret
  exact ⟨rfl, rfl⟩
theorem set_one (m : Nat) (u : Int) (w : World) (hm : w.cell? ⟨m, 0, none⟩ = some (.int .u64 u)) (hlt : m < w.heap.size):
    Calls Try.prog 31 #[.slice none 0 0, .slice (some ⟨m, 0, none⟩) 1 1] w fun e w' => e = .returned (.slice (some ⟨w.heap.size, 0, none⟩) 1 1) ∧ w' = w.alloc (.cells #[.int .u64 u] 67) := by
  have hmk := make57 w
  have hcp := run_copy_cells (P := Try.prog) (w.alloc (.cells #[.int .u64 0] 67)) 57 57 3 67 w.heap.size 0 1 1 ⟨m, 0, none⟩ 1 1 [.int .u64 u] Try.underlying57 info67' rfl
    (by intro j v hj; match j, hj with
        | 0, hj => simp at hj; subst hj; go_simp) (by intro j hj; match j, hj with
        | 0, hj => go_simp) (by intro j hj; match j, hj with
        | 0, hj => go_simp) (by simp [Value.oneCell'])
  simp only [World.setCells] at hcp
  go_enter Try.func31, Try.ntmps31
  go_wp2
  go_ret
  exact ⟨rfl, rfl⟩

/-! ### Blocks -/
theorem cell_of {w : World} {b : Nat} {cs : Array Value} {t : TypeId} (h : w.heap[b]? = some (.cells cs t)) (j : Nat) : w.cell? ⟨b, j, none⟩ = cs[j]? := by
  simp [World.cell?, h]
theorem frozen_of {w : World} {b : Nat} {cs : Array Value} {t : TypeId} (h : w.heap[b]? = some (.cells cs t)) (j : Nat) : w.frozen? ⟨b, j, none⟩ = false := by
  simp [World.frozen?, h]
theorem lt_of {w : World} {b : Nat} {o : Obj} (h : w.heap[b]? = some o) : b < w.heap.size := by
  rcases Nat.lt_or_ge b w.heap.size with h1 | h1
  · exact h1
  · rw [Array.getElem?_eq_none h1] at h; cases h
theorem info59 : ∃ j, Try.prog.info? 59 = some j ∧ j.size ≠ 0 := by
  have h : (Try.prog.info? 59).map (·.size) = some 2 := by kernel_rfl
  cases hq : Try.prog.info? 59 with
  | none => simp [hq] at h
  | some i => simp [hq] at h; exact ⟨i, rfl, by omega⟩
theorem neq_ptr {w : World} {a b : Addr} {ca cb : Array Value} {ta tb : TypeId} (hne : a ≠ b) (ha : w.heap[a.block]? = some (.cells ca ta (0, 0))) (hb : w.heap[b.block]? = some (.cells cb tb (0, 0))) :
    (binOp .neq 34 (.pointer (some a)) (.pointer (some b))).run Try.prog w = .ok (.bool true) w := by
  obtain ⟨j, hj, hsz⟩ := info59
  have h : ∀ d : Nat, (Op.equalIn (d + 1) 34 (.pointer (some a)) (.pointer (some b))).run Try.prog w = .ok false w := fun d => by
    simp [Op.equalIn, run_underlying Try.underlying34, sizeOf, typeInfo, hj, hsz, run_sameAddr_other w hne ha hb]
  simp only [binOp]
  simp [Op.equal, Op.maxDepth, h 9999]

theorem intSet_zero (z b : Nat) (s0 sg : Bool) (w : World) (hz : w.heap[z]? = some (.cells #[.bool s0, .slice none 0 0] 59)) (hb : w.heap[b]? = some (.cells #[.bool sg, .slice none 0 0] 59)) (hbz : b < z) :
    Calls Try.prog 21 #[.pointer (some ⟨z, 0, none⟩), .pointer (some ⟨b, 0, none⟩)] w fun e w' => e = .returned (.pointer (some ⟨z, 0, none⟩)) ∧ Below z w w' ∧ w'.cell? ⟨z, 0, none⟩ = some (.bool sg) ∧ w'.cell? ⟨z, 1, none⟩ = some (.slice none 0 0) := by
  have hne : ¬ z = b := by omega
  have hq := neq_ptr (a := ⟨z, 0, none⟩) (b := ⟨b, 0, none⟩) (w := w) (by intro h; cases h; omega) hz hb
  have c0 := cell_of hz 0
  have c1 := cell_of hz 1
  have c2 := cell_of hb 0
  have c3 := cell_of hb 1
  have f0 := frozen_of hz 0
  have f1 := frozen_of hz 1
  simp at c0 c1 c2 c3
  clear hz hb
  go_enter Try.func21, Try.ntmps21
  go_wp2
  go_region_with (go_at_call 31; refine (set_zero _).mono ?_; rintro e w' ⟨rfl, rfl⟩)
  all_goals go_wp2
  all_goals go_ret
  all_goals exact ⟨rfl, (((Below.refl z w).setCell (p := ⟨z, 1, none⟩) (Nat.le_refl z) _).setCell (p := ⟨z, 0, none⟩) (Nat.le_refl z) _).drew, by go_simp, by go_simp⟩

theorem intSet_one (z b m : Nat) (s0 sg : Bool) (u : Int) (w : World) (hz : w.heap[z]? = some (.cells #[.bool s0, .slice none 0 0] 59)) (hb : w.heap[b]? = some (.cells #[.bool sg, .slice (some ⟨m, 0, none⟩) 1 1] 59)) (hm : w.heap[m]? = some (.cells #[.int .u64 u] 67)) (hbz : b < z) :
    Calls Try.prog 21 #[.pointer (some ⟨z, 0, none⟩), .pointer (some ⟨b, 0, none⟩)] w fun e w' => e = .returned (.pointer (some ⟨z, 0, none⟩)) ∧ Below z w w' ∧ w'.cell? ⟨z, 0, none⟩ = some (.bool sg) ∧ ∃ m', w'.cell? ⟨z, 1, none⟩ = some (.slice (some ⟨m', 0, none⟩) 1 1) ∧ w'.cell? ⟨m', 0, none⟩ = some (.int .u64 u) := by
  have hne : ¬ z = b := by omega
  have hq := neq_ptr (a := ⟨z, 0, none⟩) (b := ⟨b, 0, none⟩) (w := w) (by intro h; cases h; omega) hz hb
  have c0 := cell_of hz 0
  have c1 := cell_of hz 1
  have c2 := cell_of hb 0
  have c3 := cell_of hb 1
  have c4 := cell_of hm 0
  have f0 := frozen_of hz 0
  have f1 := frozen_of hz 1
  have lz := lt_of hz
  have lb := lt_of hb
  have lm := lt_of hm
  have nz : ¬ z = w.heap.size := by omega
  have nz' : ¬ w.heap.size = z := by omega
  simp at c0 c1 c2 c3 c4
  clear hz hb hm
  go_enter Try.func21, Try.ntmps21
  go_wp2
  go_region_with (go_at_call 31; refine (set_one m u _ (by go_simp) (by go_simp)).mono ?_; rintro e w' ⟨rfl, rfl⟩)
  all_goals go_wp2
  all_goals go_ret
  all_goals exact ⟨rfl, ((((Below.refl z w).setCell (p := ⟨z, 1, none⟩) (Nat.le_refl z) _).setCell (p := ⟨z, 0, none⟩) (Nat.le_refl z) _).alloc (by simp; omega) _).drew, by go_simp, w.heap.size, by go_simp, by go_simp⟩

theorem low_zero (w : World) : Calls Try.prog 28 #[.slice none 0 0] w fun e w' => e = .returned (.int .u64 0) ∧ w' = w := by
  go_enter Try.func28, Try.ntmps28
  go_wp2
  go_ret
  exact ⟨rfl, rfl⟩
theorem low_one (m : Nat) (u : Int) (w : World) (hm : w.cell? ⟨m, 0, none⟩ = some (.int .u64 u)) :
    Calls Try.prog 28 #[.slice (some ⟨m, 0, none⟩) 1 1] w fun e w' => e = .returned (.int .u64 u) ∧ w' = w := by
  go_enter Try.func28, Try.ntmps28
  go_wp2
  go_ret
  exact ⟨rfl, rfl⟩
theorem expo (b : Nat) (x : Int) (w : World) :
    Calls Try.prog 15 #[.agg #[.pointer (some ⟨b, 0, none⟩), .int .i32 x]] w fun e w' => e = .returned (.int .i32 x) ∧ w' = w.alloc (.cells #[.pointer (some ⟨b, 0, none⟩), .int .i32 x] 36) := by
  go_enter Try.func15, Try.ntmps15
  go_wp2
  go_ret
  exact ⟨rfl, rfl⟩
theorem ensure (b p o : Nat) (w : World) (h : w.cell? ⟨p, o, none⟩ = some (.pointer (some ⟨b, 0, none⟩))):
    Calls Try.prog 20 #[.pointer (some ⟨p, o, none⟩)] w fun e w' => e = .returned (.tuple #[]) ∧ w' = w := by
  go_enter Try.func20, Try.ntmps20
  go_wp2
  go_end0
  exact ⟨rfl, rfl⟩
theorem int64_zero (z : Nat) (w : World) (h0 : w.cell? ⟨z, 0, none⟩ = some (.bool false)) (h1 : w.cell? ⟨z, 1, none⟩ = some (.slice none 0 0)) :
    Calls Try.prog 14 #[.pointer (some ⟨z, 0, none⟩)] w fun e w' => e = .returned (.int .i64 0) ∧ w' = w := by
  go_enter Try.func14, Try.ntmps14
  go_wp2_with (go_at_call 28; refine (low_zero _).mono ?_; rintro e w' ⟨rfl, rfl⟩)
  go_ret
  exact ⟨rfl, rfl⟩
theorem int64_pos (z m : Nat) (c : Int) (w : World) (h0 : w.cell? ⟨z, 0, none⟩ = some (.bool false)) (h1 : w.cell? ⟨z, 1, none⟩ = some (.slice (some ⟨m, 0, none⟩) 1 1)) (h2 : w.cell? ⟨m, 0, none⟩ = some (.int .u64 c)) (hc0 : 0 < c) (hc1 : c ≤ 9223372036854775807) :
    Calls Try.prog 14 #[.pointer (some ⟨z, 0, none⟩)] w fun e w' => e = .returned (.int .i64 c) ∧ w' = w := by
  go_enter Try.func14, Try.ntmps14
  go_wp2_with (go_at_call 28; refine (low_one _ _ _ h2).mono ?_; rintro e w' ⟨rfl, rfl⟩)
  go_ret
  exact ⟨rfl, rfl⟩
theorem ret_int {k : IntKind} {a b : Int} (h : a = b) : Ending.returned (.int k a) = .returned (.int k b) := by rw [h]
theorem wrap_neg (u : Int) (h0 : 0 < u) (h1 : u ≤ 9223372036854775808) : wrap64 (-wrap64 u) = -u := by unfold wrap64; omega
theorem int64_neg (z m : Nat) (u : Int) (w : World) (h0 : w.cell? ⟨z, 0, none⟩ = some (.bool true)) (h1 : w.cell? ⟨z, 1, none⟩ = some (.slice (some ⟨m, 0, none⟩) 1 1)) (h2 : w.cell? ⟨m, 0, none⟩ = some (.int .u64 u)) (hc0 : 0 < u) (hc1 : u ≤ 9223372036854775808) :
    Calls Try.prog 14 #[.pointer (some ⟨z, 0, none⟩)] w fun e w' => e = .returned (.int .i64 (-u)) ∧ w' = w := by
  go_enter Try.func14, Try.ntmps14
  go_wp2_with (go_at_call 28; refine (low_one _ _ _ h2).mono ?_; rintro e w' ⟨rfl, rfl⟩)
  go_ret
  exact ⟨ret_int (wrap_neg u hc0 hc1), rfl⟩

/-! ### A big.Int in memory -/
def absI (c : Int) : Int := if c < 0 then -c else c
/-- Block b, from A up and below B, holds the big.Int c, as NewInt lays it. -/
def BigBlk (w : World) (A B b : Nat) (c : Int) : Prop :=
  A ≤ b ∧ b < B ∧ ((c = 0 ∧ w.heap[b]? = some (.cells #[.bool false, .slice none 0 0] 59)) ∨
    (c ≠ 0 ∧ ∃ m, A ≤ m ∧ m < B ∧ w.heap[b]? = some (.cells #[.bool (decide (c < 0)), .slice (some ⟨m, 0, none⟩) 1 1] 59) ∧ w.heap[m]? = some (.cells #[.int .u64 (absI c)] 67)))
theorem BigBlk.keep {w w' : World} {A B b : Nat} {c : Int} (h : BigBlk w A B b c) (hk : ∀ k, A ≤ k → k < B → w'.heap[k]? = w.heap[k]?) : BigBlk w' A B b c := by
  obtain ⟨ha, h0, h1⟩ := h
  refine ⟨ha, h0, ?_⟩
  rcases h1 with ⟨e, h1⟩ | ⟨e, m, hm, hm', h1, h2⟩
  · exact .inl ⟨e, by rw [hk b ha h0]; exact h1⟩
  · exact .inr ⟨e, m, hm, hm', by rw [hk b ha h0]; exact h1, by rw [hk m hm hm']; exact h2⟩
theorem BigBlk.below {w w' : World} {A B b : Nat} {c : Int} (h : BigBlk w A B b c) (hb : Below B w w') : BigBlk w' A B b c :=
  h.keep fun k _ hk => hb.block k hk
theorem BigBlk.mono {w : World} {A B A' B' b : Nat} {c : Int} (h : BigBlk w A B b c) (hA : A' ≤ A) (hB : B ≤ B') : BigBlk w A' B' b c := by
  obtain ⟨ha, h0, h1⟩ := h
  refine ⟨by omega, by omega, ?_⟩
  rcases h1 with ⟨e, h1⟩ | ⟨e, m, hm, hm', h1, h2⟩
  · exact .inl ⟨e, h1⟩
  · exact .inr ⟨e, m, by omega, by omega, h1, h2⟩
/-- The same, cell by cell. -/
def BigCell (w : World) (B z : Nat) (c : Int) : Prop :=
  z < B ∧ w.cell? ⟨z, 0, none⟩ = some (.bool (decide (c < 0))) ∧
    ((c = 0 ∧ w.cell? ⟨z, 1, none⟩ = some (.slice none 0 0)) ∨
      (c ≠ 0 ∧ ∃ m, m < B ∧ w.cell? ⟨z, 1, none⟩ = some (.slice (some ⟨m, 0, none⟩) 1 1) ∧ w.cell? ⟨m, 0, none⟩ = some (.int .u64 (absI c))))
theorem BigCell.below {w w' : World} {B z : Nat} {c : Int} (h : BigCell w B z c) (hb : Below B w w') : BigCell w' B z c := by
  obtain ⟨h0, hz, h1⟩ := h
  refine ⟨h0, by rw [hb.cell (p := ⟨z, 0, none⟩) h0]; exact hz, ?_⟩
  rcases h1 with ⟨e, h1⟩ | ⟨e, m, hm, h1, h2⟩
  · exact .inl ⟨e, by rw [hb.cell (p := ⟨z, 1, none⟩) h0]; exact h1⟩
  · exact .inr ⟨e, m, hm, by rw [hb.cell (p := ⟨z, 1, none⟩) h0]; exact h1, by rw [hb.cell (p := ⟨m, 0, none⟩) hm]; exact h2⟩

theorem lt_of_cell {w : World} {m j : Nat} {v : Value} (h : w.cell? ⟨m, j, none⟩ = some v) : m < w.heap.size := by
  rcases Nat.lt_or_ge m w.heap.size with h1 | h1
  · exact h1
  · simp [World.cell?, Array.getElem?_eq_none h1] at h

theorem int64_any (z : Nat) (c : Int) (w : World) (B : Nat) (h : BigCell w B z c) (h0 : -9223372036854775808 ≤ c) (h1 : c ≤ 9223372036854775807) :
    Calls Try.prog 14 #[.pointer (some ⟨z, 0, none⟩)] w fun e w' => e = .returned (.int .i64 c) ∧ w' = w := by
  obtain ⟨_, hz, h⟩ := h
  rcases h with ⟨rfl, h⟩ | ⟨hne, m, _, hc, hm⟩
  · exact int64_zero z w hz h
  · by_cases hn : c < 0
    · have ha : absI c = -c := by unfold absI; rw [if_pos hn]
      rw [ha] at hm
      rw [decide_eq_true hn] at hz
      have := int64_neg z m (-c) w hz hc hm (by omega) (by omega)
      rwa [Int.neg_neg] at this
    · have ha : absI c = c := by unfold absI; rw [if_neg hn]
      rw [ha] at hm
      rw [decide_eq_false hn] at hz
      exact int64_pos z m c w hz hc hm (by omega) (by omega)
end Go.Proofs.Qxb6618763a
