/-
  THE SHELL OF A PROOF OF 'Rows.FnRateUnmovedByALaterRateSaid' ('example.com/zhaomu/zhaomu/zzlaws_fund_b1.FnRateUnmovedByALaterRate'), WRITTEN BY PROGRAM (proof-skeleton.mjs, third state) off the guide's own print for that function. Not trusted: Lean checks it.
  THE WALK IS FILLED. ALL ELSE IS THE GUIDE's OWN WAY (howto/template/XProofs.lean; Derived/Test/ChunkProofs.lean for 'Below') at this function's number and types: leave it.
-/
import Derived.Test.Qxb6618763aRows
import Derived.Test.Qxb6618763aUnmoved
import Derived.WalkKit
import Derived.ProofKit
import Derived.OpenShut
import Derived.ShutString
import Derived.ChangeOld
import Derived.Below
namespace Go.Proofs.Qxb6618763a.fnRateUnmovedByALaterRate
open Go.ChangeShapes Go.WideShapes Go.ChangeAt Go.RowKit
open Go.ChangeMaps (open_string shut_string)
set_option linter.unusedVariables false

theorem own : ownKnob Try.prog.godebug = none := by kernel_rfl
theorem laidOut : laidOutB Try.prog = true := by kernel_rfl

/-- WHAT THE WALK IS TOLD OF A SLICE OF INTEGERS THAT CAME IN: it is nil; or it leads to a row of 'cap' cells, the numbers 'zs' (the first 'len' are its elements, the rest its spare room), each fitting its kind. -/
def IsRow (k : IntKind) (w : World) (a : Option Addr) (len cap : Nat) (zs : List Int) : Prop :=
  (a = none ∧ len = 0 ∧ cap = 0 ∧ zs = []) ∨
  ∃ x, a = some x ∧ len ≤ cap ∧ cap ≤ maxLen ∧ zs.length = cap ∧ (∀ i, i < zs.length → w.cell? (x.add i) = some (.int k (zs.getD i 0))) ∧ ∀ n ∈ zs, (Lit.int k n).wf = true

theorem spot_none {w : World} {x : Addr} {v : Value} (h : w.cell? x = some v) : x.spot = none := by
  unfold World.cell? at h
  cases hs : x.spot with
  | none => rfl
  | some s => rw [hs] at h; split at h <;> simp at h
theorem row_of {k : IntKind} {w : World} {a : Option Addr} {len cap : Nat} {zs : List Int} (h : IsRow k w a len cap zs) (hn : 0 < len) :
    ∃ b o, a = some ⟨b, o, none⟩ ∧ RowAt k w b o len (fun i => zs.getD i 0) ∧ ∀ i, i < len → (Lit.int k (zs.getD i 0)).wf = true := by
  rcases h with ⟨_, h, _⟩ | ⟨x, rfl, hl, hm, hz, hc, hw⟩
  · omega
  · have h0 := hc 0 (by omega)
    have e0 : x.add 0 = x := rfl
    rw [e0] at h0
    have hs := spot_none h0
    obtain ⟨b, o, s⟩ := x
    simp at hs
    subst hs
    refine ⟨b, o, rfl, ⟨lt_of_cell h0, fun i hi => ?_⟩, fun i hi => ?_⟩
    · have := hc i (by omega)
      by_cases e : i = 0
      · subst e; exact h0
      · simpa [Addr.add, e] using this
    · apply hw
      rw [List.getD_eq_getElem?_getD, List.getElem?_eq_getElem (by omega)]
      simp
theorem len_of {k : IntKind} {w : World} {a : Option Addr} {len cap : Nat} {zs : List Int} (h : IsRow k w a len cap zs) : len ≤ maxLen := by
  rcases h with ⟨_, h, _⟩ | ⟨x, rfl, hl, hm, _⟩
  · rw [h]; exact Nat.zero_le _
  · omega
theorem wf32 {n : Int} (h : (Lit.int .i32 n).wf = true) : -2147483648 ≤ n ∧ n ≤ 2147483647 := by
  simp [Lit.wf, IntKind.min, IntKind.max, IntKind.bits, IntKind.signed] at h
  omega
theorem wf64 {n : Int} (h : (Lit.int .i64 n).wf = true) : -9223372036854775808 ≤ n ∧ n ≤ 9223372036854775807 := by
  simp [Lit.wf, IntKind.min, IntKind.max, IntKind.bits, IntKind.signed] at h
  omega

/-! ### STEP 1: THE WALK -/
theorem walk (a0 : Option Addr) (len0 cap0 : Nat) (z0 : List Int) (a1 : Option Addr) (len1 cap1 : Nat) (z1 : List Int) (a2 : Option Addr) (len2 cap2 : Nat) (z2 : List Int) (a3 : Int) (a4 : Int) (a5 : Int) (a6 : Int) (w : World) (w0 : IsRow .i32 w a0 len0 cap0 z0) (w1 : IsRow .i64 w a1 len1 cap1 z1) (w2 : IsRow .i32 w a2 len2 cap2 z2) (w3 : (Lit.int .i32 a3).wf = true) (w4 : (Lit.int .i32 a4).wf = true) (w5 : (Lit.int .i64 a5).wf = true) (w6 : (Lit.int .i32 a6).wf = true) :
    Calls Try.prog 4 #[.slice a0 len0 cap0, .slice a1 len1 cap1, .slice a2 len2 cap2, .int .i32 a3, .int .i32 a4, .int .i64 a5, .int .i32 a6] w fun e w' => e = .returned (.bool true) ∧ Below w.heap.size w w' := by
  have k0 := len_of w0
  have k1 := len_of w1
  have k2 := len_of w2
  have weak : ∀ {e : Ending} {w' : World}, (e = .returned (.bool true) ∧ w' = w) → e = .returned (.bool true) ∧ Below w.heap.size w w' := fun h => ⟨h.1, by rw [h.2]; exact Below.refl _ _⟩
  by_cases hn : 0 < len0 ∧ len1 = len0 ∧ len2 = len0
  · by_cases hl : len0 ≤ 32768
    · obtain ⟨hn0, rfl, rfl⟩ := hn
      obtain ⟨b0, o0, rfl, r0, f0⟩ := row_of w0 hn0
      obtain ⟨b1, o1, rfl, r1, f1⟩ := row_of w1 hn0
      obtain ⟨b2, o2, rfl, r2, f2⟩ := row_of w2 hn0
      exact un_yes b0 o0 cap0 b1 o1 cap1 b2 o2 cap2 _ _ _ _ a3 a4 a5 a6 w hn0 hl r0 r1 r2 (fun i hi => wf64 (f1 i hi)) (wf64 w5)
    · exact (un_long a0 a1 a2 len0 cap0 len1 cap1 len2 cap2 a3 a4 a5 a6 w k0 k1 k2 (by omega)).mono fun e w' h => weak h
  · exact (un_no a0 a1 a2 len0 cap0 len1 cap1 len2 cap2 a3 a4 a5 a6 w k0 k1 k2 hn).mono fun e w' h => weak h

/-! ### THE ROW's STEP: WRITTEN OUT: LEAVE IT -/
set_option maxRecDepth 100000 in
theorem lifted (os : Os) (started : os.Started) (H : Type) (enc : TypeId × Value → H) :
    ReturnsInHanded {} Try.checked os 4 .any (Rows.fnRateUnmovedByALaterRateSpec.pre6 enc Try.prog Try.f4 Rows.fnRateUnmovedByALaterRateRow.domain false) (Rows.fnRateUnmovedByALaterRateSpec.post enc Try.prog Try.f4 false true false false) := by
  refine returnsInHanded_of_change (C := Try.checked) own started (by kernel_rfl) Try.func4
    (ChangeSpec.witness6 (enc := enc) (C := Try.checked) false ⟨#[], #[.slice none 0 0, .slice none 0 0, .slice none 0 0, .int .i32 0, .int .i32 0, .int .i64 0, .int .i32 0], []⟩ 8 (by kernel_rfl) (by kernel_rfl) (by kernel_rfl) (by kernel_rfl)) ?_
  intro W base args ds gs before hval0 hW hcnd _
  have hval : ∀ (j : Nat) t v, Try.f4.params[j]? = some t → args[j]? = some v → Value.okWide Try.prog W .any base t v := hval0
  have hW' := hW
  obtain ⟨p, q, hA0, hV, rfl, hfz, hnd⟩ := hW
  have hA : DataW.TrodAll enc Try.prog W 0 (fun _ => true) true Try.f4.params.toList args.toList ds p := hA0
  rw [Try.params4] at hA hval
  obtain ⟨v0, vs0, d0, ds0, p0, q0, hargs, rfl, rfl, h0, r0⟩ := trodAll_cons hA
  obtain ⟨v1, vs1, d1, ds1, p1, q1, rfl, rfl, rfl, h1, r1⟩ := trodAll_cons r0
  obtain ⟨v2, vs2, d2, ds2, p2, q2, rfl, rfl, rfl, h2, r2⟩ := trodAll_cons r1
  obtain ⟨v3, vs3, d3, ds3, p3, q3, rfl, rfl, rfl, h3, r3⟩ := trodAll_cons r2
  obtain ⟨v4, vs4, d4, ds4, p4, q4, rfl, rfl, rfl, h4, r4⟩ := trodAll_cons r3
  obtain ⟨v5, vs5, d5, ds5, p5, q5, rfl, rfl, rfl, h5, r5⟩ := trodAll_cons r4
  obtain ⟨v6, vs6, d6, ds6, p6, q6, rfl, rfl, rfl, h6, r6⟩ := trodAll_cons r5
  obtain ⟨rfl, rfl, rfl⟩ := trodAll_nil r6
  obtain rfl : args = #[v0, v1, v2, v3, v4, v5, v6] := by cases args; simp_all
  obtain ⟨rfl, rfl⟩ := trodVars_none hV
  obtain ⟨a0, len0, cap0, rfl⟩ := okWide_slice Try.underlying22 (hval 0 22 v0 rfl rfl)
  have k0 := h0
  have lt0 : ∀ x ∈ p0, x.block < W.heap.size := by obtain ⟨m, hm⟩ := k0; exact DataW.trod_lt m _ _ _ hm
  obtain ⟨z0, w0⟩ : ∃ zs, IsRow .i32 W a0 len0 cap0 zs := by
    obtain ⟨fuel, hf⟩ := h0
    rcases open_ints Try.underlying22 Try.underlying21 (by kernel_rfl) hf with ⟨hcs, _⟩ | ⟨x, l, c, zs, hcs, _, hl, hm, hz, _, hcell, hwz⟩
    · simp [Value.cells] at hcs
      obtain ⟨rfl, rfl, rfl⟩ := hcs
      exact ⟨[], .inl ⟨rfl, rfl, rfl, rfl⟩⟩
    · simp [Value.cells] at hcs
      obtain ⟨rfl, rfl, rfl⟩ := hcs
      exact ⟨zs, .inr ⟨_, rfl, hl, hm, by simpa using hz, hcell, hwz⟩⟩
  obtain ⟨a1, len1, cap1, rfl⟩ := okWide_slice Try.underlying23 (hval 1 23 v1 rfl rfl)
  have k1 := h1
  have lt1 : ∀ x ∈ p1, x.block < W.heap.size := by obtain ⟨m, hm⟩ := k1; exact DataW.trod_lt m _ _ _ hm
  obtain ⟨z1, w1⟩ : ∃ zs, IsRow .i64 W a1 len1 cap1 zs := by
    obtain ⟨fuel, hf⟩ := h1
    rcases open_ints Try.underlying23 Try.underlying2 (by kernel_rfl) hf with ⟨hcs, _⟩ | ⟨x, l, c, zs, hcs, _, hl, hm, hz, _, hcell, hwz⟩
    · simp [Value.cells] at hcs
      obtain ⟨rfl, rfl, rfl⟩ := hcs
      exact ⟨[], .inl ⟨rfl, rfl, rfl, rfl⟩⟩
    · simp [Value.cells] at hcs
      obtain ⟨rfl, rfl, rfl⟩ := hcs
      exact ⟨zs, .inr ⟨_, rfl, hl, hm, by simpa using hz, hcell, hwz⟩⟩
  obtain ⟨a2, len2, cap2, rfl⟩ := okWide_slice Try.underlying22 (hval 2 22 v2 rfl rfl)
  have k2 := h2
  have lt2 : ∀ x ∈ p2, x.block < W.heap.size := by obtain ⟨m, hm⟩ := k2; exact DataW.trod_lt m _ _ _ hm
  obtain ⟨z2, w2⟩ : ∃ zs, IsRow .i32 W a2 len2 cap2 zs := by
    obtain ⟨fuel, hf⟩ := h2
    rcases open_ints Try.underlying22 Try.underlying21 (by kernel_rfl) hf with ⟨hcs, _⟩ | ⟨x, l, c, zs, hcs, _, hl, hm, hz, _, hcell, hwz⟩
    · simp [Value.cells] at hcs
      obtain ⟨rfl, rfl, rfl⟩ := hcs
      exact ⟨[], .inl ⟨rfl, rfl, rfl, rfl⟩⟩
    · simp [Value.cells] at hcs
      obtain ⟨rfl, rfl, rfl⟩ := hcs
      exact ⟨zs, .inr ⟨_, rfl, hl, hm, by simpa using hz, hcell, hwz⟩⟩
  obtain ⟨a3, rfl, rfl, rfl, w3⟩ := open_int Try.underlying21 (hval 3 21 v3 rfl rfl) h3
  obtain ⟨a4, rfl, rfl, rfl, w4⟩ := open_int Try.underlying21 (hval 4 21 v4 rfl rfl) h4
  obtain ⟨a5, rfl, rfl, rfl, w5⟩ := open_int Try.underlying2 (hval 5 2 v5 rfl rfl) h5
  obtain ⟨a6, rfl, rfl, rfl, w6⟩ := open_int Try.underlying21 (hval 6 21 v6 rfl rfl) h6
  clear hA0 hval0
  refine (walk a0 len0 cap0 z0 a1 len1 cap1 z1 a2 len2 cap2 z2 a3 a4 a5 a6 W w0 w1 w2 w3 w4 w5 w6).mono fun e W' ⟨he, bel⟩ => ?_
  subst he
  exact ⟨_, rfl, _, _, _, [], _, [], hW', trodAll_mk1 (shut_bool Try.underlying4 _), (trodAll_cons_mk (Below.trod laidOut (by kernel_rfl) (of_decide_eq_true (by kernel_rfl)) k0 bel lt0) (trodAll_cons_mk (Below.trod laidOut (by kernel_rfl) (of_decide_eq_true (by kernel_rfl)) k1 bel lt1) (trodAll_cons_mk (Below.trod laidOut (by kernel_rfl) (of_decide_eq_true (by kernel_rfl)) k2 bel lt2) (trodAll_cons_mk (shut_int Try.underlying21 w3) (trodAll_cons_mk (shut_int Try.underlying21 w4) (trodAll_cons_mk (shut_int Try.underlying2 w5) (trodAll_cons_mk (shut_int Try.underlying21 w6) trodAll_mk0))))))), rfl, bel.frame _, fun h => by cases h⟩

theorem over : Rows.fnRateUnmovedByALaterRateRow.holds Try.pinned (OpenSpec.ofChange Rows.fnRateUnmovedByALaterRateSpec) :=
  OpenClaim.holds_of_wide 4 Try.f4 rfl rfl rfl rfl rfl rfl rfl ⟨rfl, rfl, rfl, rfl, rfl⟩ rfl rfl rfl rfl rfl (by kernel_rfl) Try.func4 (by kernel_rfl)
    (of_decide_eq_true (by kernel_rfl)) (by unfold Func.isWrapper; first | (rw [if_pos (by decide +kernel)]; kernel_rfl) | (rw [if_neg (by decide +kernel)]; exact ⟨rfl, rfl⟩))
    (fun os started H enc _ => lifted os started H enc)

/-- ████ THE STATEMENT ████ -/
theorem proved : Rows.FnRateUnmovedByALaterRateSaid := over
#print axioms proved
end Go.Proofs.Qxb6618763a.fnRateUnmovedByALaterRate
