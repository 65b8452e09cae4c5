/-
  THE FRAME OF THE PROOF OF 'Rows.FnNewHierarchyIsTransitiveClosureSaid', typed by hand after the shell of another seat (two arguments: a slice of strings, a slice of slices of strings). The walk: Qxb6619648aMain.lean.
-/
import Derived.Test.Qxb6619648aMain
import Derived.Deep.Strs
namespace Go.Proofs.Qxb6619648a.fnNewHierarchyIsTransitiveClosure
open Go.ChangeShapes Go.WideShapes Go.ChangeAt Go.RowKit Go.Deep

theorem own : ownKnob Try.prog.godebug = none := by kernel_rfl
theorem laidOut : laidOutB Try.prog = true := by kernel_rfl
theorem cells9 : Try.prog.cellsOf 9 = 1 := by kernel_rfl
theorem cells22 : Try.prog.cellsOf 22 = 1 := by kernel_rfl
theorem spot_none {w : World} {x : Addr} {v : Value} (h : w.cell? x = some v) : x.spot = none ∧ x.block < w.heap.size := by
  unfold World.cell? at h
  constructor
  · cases hs : x.spot with
    | none => rfl
    | some s => rw [hs] at h; split at h <;> simp at h
  · cases hb : w.heap[x.block]? with
    | none => rw [hb] at h; simp at h
    | some o => exact (Array.getElem?_eq_some_iff.1 hb).1
theorem add_at (b o i : Nat) : (⟨b, o, none⟩ : Addr).add i = ⟨b, o + i, none⟩ := by
  unfold Addr.add
  first | rfl | (split <;> simp_all)
section
variable {H : Type} {enc : TypeId × Value → H} {w : World} {base : Nat} {spare : Nat → Bool} {held : Bool}
/-- A slice of strings that came in. -/
theorem sv_of {fuel : Nat} {v : Value} {x : DataW H × List MemPlace} (h : DataW.trod enc Try.prog w base spare held fuel 22 [v] = some x) : ∃ l, SV w v l ∧ l.length ≤ 9223372036854775807 := by
  rcases open_strs Try.underlying22 Try.underlying9 cells9 h with ⟨hcs, _⟩ | ⟨a, len, cap, m, Sx, hcs, _, hl, hm, hmm, _, hc⟩
  · have e : v = .slice none 0 0 := by simpa using hcs
    subst e
    exact ⟨[], SV.nil w, by simp⟩
  · have e : v = .slice (some a) len cap := by simpa using hcs
    subst e
    have hlm : len ≤ m := by rw [hmm]; split <;> omega
    have el : ((List.range len).map Sx).length = len := by simp
    refine ⟨(List.range len).map Sx, ⟨some a, cap, by rw [el], fun h => (by cases h), fun hne => ?_⟩, by rw [el]; exact Nat.le_trans hl hm⟩
    have h0 : 0 < len := by
      rcases Nat.eq_zero_or_pos len with e | e
      · exact absurd (by rw [e]; rfl) hne
      · exact e
    have hc0 := (hc 0 (by omega)).1
    obtain ⟨hs, hb⟩ := spot_none hc0
    obtain ⟨b, o, s⟩ := a
    have hs' : s = none := by simpa [Addr.add] using hs
    subst hs'
    rw [add_at] at hb
    refine ⟨b, o, rfl, hb, fun j hj => ?_⟩
    rw [el] at hj
    have := (hc j (by omega)).1
    rw [add_at] at this
    rw [this, nth_eq (by rw [el]; exact hj)]
    simp
/-- A slice of slices of strings that came in. -/
theorem lv_of {fuel : Nat} {v : Value} {x : DataW H × List MemPlace} (h : DataW.trod enc Try.prog w base spare held fuel 23 [v] = some x) : ∃ m dv dl, LV w v m dv dl ∧ ∀ i, (dl i).length ≤ 9223372036854775807 := by
  rcases open_slice1 Try.underlying23 cells22 h with ⟨hcs, _⟩ | ⟨a, len, cap, m, n, V, D, Pl, hcs, _, hl, hm, hmm, _, hc⟩
  · have e : v = .slice none 0 0 := by simpa using hcs
    subst e
    exact ⟨0, fun _ => .slice none 0 0, fun _ => [], ⟨⟨none, 0, rfl, fun h => by omega⟩, fun _ _ => rfl, fun _ => SV.nil w⟩, fun _ => by simp⟩
  · have e : v = .slice (some a) len cap := by simpa using hcs
    subst e
    have hlm : len ≤ m := by rw [hmm]; split <;> omega
    obtain ⟨f, hf⟩ := choose_lt (α := List ByteArray) (n := len) (p := fun i l => SV w (V i) l ∧ l.length ≤ 9223372036854775807) (fun i hi => sv_of (hc i (by omega)).2)
    refine ⟨len, fun i => if i < len then V i else .slice none 0 0, fun i => if i < len then f i else [], ⟨⟨some a, cap, rfl, fun h0 => ?_⟩, fun i hi => if_neg (by omega), fun i => ?_⟩, fun i => ?_⟩
    · have hc0 := (hc 0 (by omega)).1
      obtain ⟨hs, hb⟩ := spot_none hc0
      obtain ⟨b, o, s⟩ := a
      have hs' : s = none := by simpa [Addr.add] using hs
      subst hs'
      rw [add_at] at hb
      refine ⟨b, o, rfl, hb, fun j hj => ?_⟩
      have := (hc j (by omega)).1
      rw [add_at] at this
      rw [this]
      show _ = some (if j < len then V j else _)
      rw [if_pos hj]
    · show SV w (if i < len then V i else _) (if i < len then f i else [])
      by_cases hi : i < len
      · rw [if_pos hi, if_pos hi]; exact (hf i hi).1
      · rw [if_neg hi, if_neg hi]; exact SV.nil w
    · show (if i < len then f i else []).length ≤ _
      by_cases hi : i < len
      · rw [if_pos hi]; exact (hf i hi).2
      · rw [if_neg hi]; simp
end

set_option maxRecDepth 100000 in
theorem lifted (os : Os) (started : os.Started) (H : Type) (enc : TypeId × Value → H) :
    ReturnsInHanded {} Try.checked os 3 .any (Rows.fnNewHierarchyIsTransitiveClosureSpec.pre6 enc Try.prog Try.f3 Rows.fnNewHierarchyIsTransitiveClosureRow.domain false) (Rows.fnNewHierarchyIsTransitiveClosureSpec.post enc Try.prog Try.f3 false true false false) := by
  refine returnsInHanded_of_change (C := Try.checked) own started (by kernel_rfl) Try.func3
    (ChangeSpec.witness6 (enc := enc) (C := Try.checked) false ⟨#[], #[.slice none 0 0, .slice none 0 0], []⟩ 8 (by kernel_rfl) (by kernel_rfl) (by kernel_rfl) (by kernel_rfl)) ?_
  intro W base args ds gs before hval0 hW hcnd _
  have hval : ∀ (j : Nat) t v, Try.f3.params[j]? = some t → args[j]? = some v → Value.okWide Try.prog W .any base t v := hval0
  have hW' := hW
  obtain ⟨p, q, hA0, hV, rfl, hfz, hnd⟩ := hW
  have hA : DataW.TrodAll enc Try.prog W 0 (fun _ => true) true Try.f3.params.toList args.toList ds p := hA0
  rw [Try.params3] at hA hval
  obtain ⟨v0, vs0, d0, ds0, p0, q0, hargs, rfl, rfl, h0, r0⟩ := trodAll_cons hA
  obtain ⟨v1, vs1, d1, ds1, p1, q1, rfl, rfl, rfl, h1, r1⟩ := trodAll_cons r0
  obtain ⟨rfl, rfl, rfl⟩ := trodAll_nil r1
  obtain rfl : args = #[v0, v1] := by cases args; simp_all
  obtain ⟨rfl, rfl⟩ := trodVars_none hV
  obtain ⟨a0, len0, cap0, rfl⟩ := okWide_slice Try.underlying22 (hval 0 22 v0 rfl rfl)
  have k0 := h0
  have lt0 : ∀ x ∈ p0, x.block < W.heap.size := by obtain ⟨m, hm⟩ := k0; exact DataW.trod_lt m _ _ _ hm
  obtain ⟨K, hK, hkl⟩ : ∃ l, SV W (.slice a0 len0 cap0) l ∧ l.length ≤ 9223372036854775807 := by
    obtain ⟨fuel, hf⟩ := h0
    exact sv_of hf
  obtain ⟨a1, len1, cap1, rfl⟩ := okWide_slice Try.underlying23 (hval 1 23 v1 rfl rfl)
  have k1 := h1
  have lt1 : ∀ x ∈ p1, x.block < W.heap.size := by obtain ⟨m, hm⟩ := k1; exact DataW.trod_lt m _ _ _ hm
  obtain ⟨m, dv, dl, hL, hll⟩ : ∃ m dv dl, LV W (.slice a1 len1 cap1) m dv dl ∧ ∀ i, (dl i).length ≤ 9223372036854775807 := by
    obtain ⟨fuel, hf⟩ := h1
    exact lv_of hf
  clear hA0 hval0
  refine (law_any (.slice a0 len0 cap0) (.slice a1 len1 cap1) K m dv dl W hK hL hkl hll).mono fun e W' ⟨he, bel⟩ => ?_
  subst he
  exact ⟨_, rfl, _, _, _, [], _, [], hW', trodAll_mk1 (shut_bool Try.underlying4 _), (trodAll_cons_mk (Below.trod laidOut (by kernel_rfl) (of_decide_eq_true (by kernel_rfl)) k0 bel lt0) (trodAll_cons_mk (Below.trod laidOut (by kernel_rfl) (of_decide_eq_true (by kernel_rfl)) k1 bel lt1) trodAll_mk0)), rfl, bel.frame _, fun h => by cases h⟩

theorem over : Rows.fnNewHierarchyIsTransitiveClosureRow.holds Try.pinned (OpenSpec.ofChange Rows.fnNewHierarchyIsTransitiveClosureSpec) :=
  OpenClaim.holds_of_wide 3 Try.f3 rfl rfl rfl rfl rfl rfl rfl ⟨rfl, rfl, rfl, rfl, rfl⟩ rfl rfl rfl rfl rfl (by kernel_rfl) Try.func3 (by kernel_rfl)
    (of_decide_eq_true (by kernel_rfl)) (by unfold Func.isWrapper; first | (rw [if_pos (by decide +kernel)]; kernel_rfl) | (rw [if_neg (by decide +kernel)]; exact ⟨rfl, rfl⟩))
    (fun os started H enc _ => lifted os started H enc)

/-- THE STATEMENT. -/
theorem proved : Rows.FnNewHierarchyIsTransitiveClosureSaid := over
#print axioms proved
end Go.Proofs.Qxb6619648a.fnNewHierarchyIsTransitiveClosure
