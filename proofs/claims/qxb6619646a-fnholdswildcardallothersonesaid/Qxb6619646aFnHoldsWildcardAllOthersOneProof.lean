/-
  THE SHELL OF A PROOF OF 'Rows.FnHoldsWildcardAllOthersOneSaid' ('example.com/steer/steer/zzlaws_conformance_b1.FnHoldsWildcardAllOthersOne'), WRITTEN BY PROGRAM (proof-skeleton.mjs) off the guide's own print for that function. Not trusted: Lean checks it.
  ALL BUT THE CALLEES, THE PLAIN LAW AND THE WALK IS THE GUIDE's TEMPLATE (howto/template/XProofs.lean) at this function's number and types: leave it.
-/
import Derived.Test.Qxb6619646aRows
import Derived.WalkKit
import Derived.ProofKit
import Derived.OpenShut
import Derived.ShutString
namespace Go.Proofs.Qxb6619646a.fnHoldsWildcardAllOthersOne
open Go.ChangeShapes Go.WideShapes Go.ChangeAt Go.RowKit
open Go.ChangeMaps (open_string shut_string)
set_option linter.unusedVariables false      -- a walk need not use every 'w<i>' (that an integer argument fits its kind)

theorem own : ownKnob Try.prog.godebug = none := by kernel_rfl

/-! ### The callees -/
def holdsB (g v : ByteArray) : Bool := if v.toList.isEmpty then true else if v.toList == [45] then g.toList.isEmpty else g.toList == v.toList

theorem holds_any (g v : ByteArray) (w : World) :
    Calls Try.prog 9 #[.string g, .string v] w fun e w' => e = .returned (.bool (holdsB g v)) ∧ w' = w := by
  go_enter Try.func9, Try.ntmps9
  go_wp2
  all_goals go_ret
  all_goals exact ⟨by simp [holdsB, *], rfl⟩

theorem zz_any (g v : ByteArray) (w : World) :
    Calls Try.prog 6 #[.string g, .string v] w fun e w' => e = .returned (.bool (holdsB g v)) ∧ w' = w := by
  go_enter Try.func6, Try.ntmps6
  go_wp2_with (go_at_call 9; refine (holds_any _ _ _).mono ?_; rintro e w' ⟨rfl, rfl⟩)
  go_ret
  exact ⟨rfl, rfl⟩

theorem bytes_any (a b c : ByteArray) (w : World) (w0 : a.size ≤ maxLen) (w1 : b.size ≤ maxLen) (w2 : c.size ≤ maxLen) :
    Calls Try.prog 7 #[.string a, .string b, .string c] w fun e w' => (∃ b, e = .returned (.bool b)) ∧ w' = w := by
  unfold maxLen at w0 w1 w2
  go_enter Try.func7, Try.ntmps7
  go_wp2
  all_goals go_ret
  all_goals exact ⟨⟨_, rfl⟩, rfl⟩

theorem add_any (t n : Int) (w : World) (h0 : 0 ≤ t) (h1 : t ≤ 1048577) (h2 : 0 ≤ n) (h3 : n ≤ 9223372036854775807) :
    Calls Try.prog 8 #[.int .i64 t, .int .i64 n] w fun e w' => (∃ r : Int, e = .returned (.int .i64 r) ∧ 0 ≤ r ∧ r ≤ 1048577) ∧ w' = w := by
  go_enter Try.func8, Try.ntmps8
  go_wp2
  all_goals go_ret
  all_goals exact ⟨⟨_, rfl, by omega, by omega⟩, rfl⟩

/-! ### The plain law -/
theorem law_wild (a : ByteArray) : holdsB a ⟨#[]⟩ = true := by
  have e : (ByteArray.mk #[]).toList = [] := by decide +kernel
  simp [holdsB, e]
theorem law_one (a b v : ByteArray) (h : v.toList.isEmpty = false) (h1 : holdsB a v = true) (h2 : holdsB b v = true) : (a.toList == b.toList) = true := by
  unfold holdsB at h1 h2
  rw [h] at h1 h2
  by_cases hd : (v.toList == [45]) = true
  · simp [hd] at h1 h2; rw [h1, h2]; rfl
  · simp [hd] at h1 h2; rw [h1, h2]; simp

/-! ### STEP 1: THE WALK: the Go text returns true. 'Grown w w'': the world has at most new blocks (Derived/RowKit3.lean). Part the cases AHEAD of 'go_enter' where a test parts the walk; take each callee by a contract of your own. -/
theorem walk (a0 : ByteArray) (a1 : ByteArray) (a2 : ByteArray) (w0 : a0.size ≤ maxLen) (w1 : a1.size ≤ maxLen) (w2 : a2.size ≤ maxLen) (w : World) :
    Calls Try.prog 4 #[.string a0, .string a1, .string a2] w fun e w' => e = .returned (.bool true) ∧ Grown w w' := by
  unfold maxLen at w0 w1 w2
  refine Calls.mono (R := fun e w' => e = .returned (.bool true) ∧ w' = w) ?_ (by rintro e w' ⟨rfl, rfl⟩; exact ⟨rfl, Grown.refl _⟩)
  have q0 := law_wild a0
  have q1 := law_wild a1
  cases hv : a2.toList.isEmpty
  · cases h1 : holdsB a0 a2
    · go_enter Try.func4, Try.ntmps4
      go_wp2_with (first | (go_at_call 7; refine (bytes_any _ _ _ _ (by unfold maxLen; omega) (by unfold maxLen; omega) (by unfold maxLen; omega)).mono ?_; rintro e w' ⟨⟨b, rfl⟩, rfl⟩; cases b) | (go_at_call 8; refine (add_any _ _ _ (by omega) (by omega) (by omega) (by omega)).mono ?_; rintro e w' ⟨⟨r, rfl, hr0, hr1⟩, rfl⟩) | (go_at_call 6; refine (zz_any _ _ _).mono ?_; rintro e w' ⟨rfl, rfl⟩))
      all_goals go_ret
      all_goals exact ⟨rfl, rfl⟩
    · cases h2 : holdsB a1 a2
      · go_enter Try.func4, Try.ntmps4
        go_wp2_with (first | (go_at_call 7; refine (bytes_any _ _ _ _ (by unfold maxLen; omega) (by unfold maxLen; omega) (by unfold maxLen; omega)).mono ?_; rintro e w' ⟨⟨b, rfl⟩, rfl⟩; cases b) | (go_at_call 8; refine (add_any _ _ _ (by omega) (by omega) (by omega) (by omega)).mono ?_; rintro e w' ⟨⟨r, rfl, hr0, hr1⟩, rfl⟩) | (go_at_call 6; refine (zz_any _ _ _).mono ?_; rintro e w' ⟨rfl, rfl⟩))
        all_goals go_ret
        all_goals exact ⟨rfl, rfl⟩
      · have q := law_one a0 a1 a2 hv h1 h2
        go_enter Try.func4, Try.ntmps4
        go_wp2_with (first | (go_at_call 7; refine (bytes_any _ _ _ _ (by unfold maxLen; omega) (by unfold maxLen; omega) (by unfold maxLen; omega)).mono ?_; rintro e w' ⟨⟨b, rfl⟩, rfl⟩; cases b) | (go_at_call 8; refine (add_any _ _ _ (by omega) (by omega) (by omega) (by omega)).mono ?_; rintro e w' ⟨⟨r, rfl, hr0, hr1⟩, rfl⟩) | (go_at_call 6; refine (zz_any _ _ _).mono ?_; rintro e w' ⟨rfl, rfl⟩))
        all_goals go_ret
        all_goals exact ⟨rfl, rfl⟩
  · go_enter Try.func4, Try.ntmps4
    go_wp2_with (first | (go_at_call 7; refine (bytes_any _ _ _ _ (by unfold maxLen; omega) (by unfold maxLen; omega) (by unfold maxLen; omega)).mono ?_; rintro e w' ⟨⟨b, rfl⟩, rfl⟩; cases b) | (go_at_call 8; refine (add_any _ _ _ (by omega) (by omega) (by omega) (by omega)).mono ?_; rintro e w' ⟨⟨r, rfl, hr0, hr1⟩, rfl⟩) | (go_at_call 6; refine (zz_any _ _ _).mono ?_; rintro e w' ⟨rfl, rfl⟩))
    all_goals go_ret
    all_goals exact ⟨rfl, rfl⟩

/-! ### THE ROW's STEP: WRITTEN OUT: LEAVE IT -/
set_option maxRecDepth 100000 in
theorem lifted (os : Os) (started : os.Started) (H : Type) (enc : TypeId × Value → H) :
    ReturnsInHanded {} Try.checked os 4 .any (Rows.fnHoldsWildcardAllOthersOneSpec.pre6 enc Try.prog Try.f4 Rows.fnHoldsWildcardAllOthersOneRow.domain false) (Rows.fnHoldsWildcardAllOthersOneSpec.post enc Try.prog Try.f4 false true false false) := by
  refine returnsInHanded_of_change (C := Try.checked) own started (by kernel_rfl) Try.func4
    (ChangeSpec.witness6 (enc := enc) (C := Try.checked) false ⟨#[], #[.string ByteArray.empty, .string ByteArray.empty, .string ByteArray.empty], []⟩ 8 (by kernel_rfl) (by kernel_rfl) (by kernel_rfl) (by kernel_rfl)) ?_
  intro W base args ds gs before hval0 hW hcnd _
  have hval : ∀ (j : Nat) t v, Try.f4.params[j]? = some t → args[j]? = some v → Value.okWide Try.prog W .any base t v := hval0
  have hW' := hW
  obtain ⟨p, q, hA0, hV, rfl, hfz, hnd⟩ := hW
  have hA : DataW.TrodAll enc Try.prog W 0 (fun _ => true) true Try.f4.params.toList args.toList ds p := hA0
  rw [Try.params4] at hA hval
  obtain ⟨v0, vs0, d0, ds0, p0, q0, hargs, rfl, rfl, h0, r0⟩ := trodAll_cons hA
  obtain ⟨v1, vs1, d1, ds1, p1, q1, rfl, rfl, rfl, h1, r1⟩ := trodAll_cons r0
  obtain ⟨v2, vs2, d2, ds2, p2, q2, rfl, rfl, rfl, h2, r2⟩ := trodAll_cons r1
  obtain ⟨rfl, rfl, rfl⟩ := trodAll_nil r2
  obtain rfl : args = #[v0, v1, v2] := by cases args; simp_all
  obtain ⟨rfl, rfl⟩ := trodVars_none hV
  obtain ⟨a0, rfl, rfl, rfl, w0⟩ := open_string Try.underlying9 (hval 0 9 v0 rfl rfl) h0
  obtain ⟨a1, rfl, rfl, rfl, w1⟩ := open_string Try.underlying9 (hval 1 9 v1 rfl rfl) h1
  obtain ⟨a2, rfl, rfl, rfl, w2⟩ := open_string Try.underlying9 (hval 2 9 v2 rfl rfl) h2
  clear hA0 hval0
  simp only [List.append_nil] at hW'
  refine (walk a0 a1 a2 w0 w1 w2 W).mono fun e W' ⟨he, hg⟩ => ?_
  subst he
  exact ⟨_, rfl, post_of_same (pa := []) (pv := []) hW' (fun _ _ _ => (trodAll_cons_mk (shut_bool Try.underlying4 _) trodAll_mk0)) (fun sp _ => (trodAll_cons_mk (shut_string Try.underlying9 w0) (trodAll_cons_mk (shut_string Try.underlying9 w1) (trodAll_cons_mk (shut_string Try.underlying9 w2) trodAll_mk0)))) (fun _ _ => rfl) rfl
    (hg.frame _) hg.2.1 (ok_one (by kernel_rfl) rfl (okWide_bool_mk Try.underlying4 _))⟩

theorem over : Rows.fnHoldsWildcardAllOthersOneRow.holds Try.pinned (OpenSpec.ofChange Rows.fnHoldsWildcardAllOthersOneSpec) :=
  OpenClaim.holds_of_wide 4 Try.f4 rfl rfl rfl rfl rfl rfl rfl ⟨rfl, rfl, rfl, rfl, rfl⟩ rfl rfl rfl rfl rfl (by kernel_rfl) Try.func4 (by kernel_rfl)
    (of_decide_eq_true (by kernel_rfl)) (by unfold Func.isWrapper; first | (rw [if_pos (by decide +kernel)]; kernel_rfl) | (rw [if_neg (by decide +kernel)]; exact ⟨rfl, rfl⟩))
    (fun os started H enc _ => lifted os started H enc)

/-- ████ THE STATEMENT ████ -/
theorem proved : Rows.FnHoldsWildcardAllOthersOneSaid :=
  over
#print axioms proved
end Go.Proofs.Qxb6619646a.fnHoldsWildcardAllOthersOne
