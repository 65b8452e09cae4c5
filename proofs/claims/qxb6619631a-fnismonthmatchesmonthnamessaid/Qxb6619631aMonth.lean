import Derived.Test.Qxb6619631aIsMonth
import Derived.Test.Qxb6619631aModel
namespace Go.Proofs.Qxb6619631a
open Go.ChangeShapes Go.WideShapes Go.ChangeAt Go.RowKit

/-! ### Bytes, one by one: 256 cases -/
theorem or_back : ∀ n : Nat, n < 256 → ((UInt8.ofNat (orI (n : Int)).toNat).toNat : Int) = orI (n : Int) := by decide +kernel
theorem agree : ∀ n : Nat, n < 256 → ((97 ≤ orI (n : Int) ∧ orI (n : Int) ≤ 122) ∨ (97 ≤ foldI (n : Int) ∧ foldI (n : Int) ≤ 122)) → orI (n : Int) = foldI (n : Int) := by
  unfold foldI
  decide +kernel
theorem letter_back : ∀ n : Nat, n < 256 → lettersB ((UInt8.ofNat (orI (n : Int)).toNat).toNat : Int) = true → lettersB (orI (n : Int)) = true := by decide +kernel
theorem pt (c n : UInt8) (h0 : 97 ≤ (n.toNat : Int)) (h1 : (n.toNat : Int) ≤ 122) : orI (c.toNat : Int) = (n.toNat : Int) ↔ foldI (c.toNat : Int) = (n.toNat : Int) := by
  have hc : c.toNat < 256 := c.toNat_lt
  have ha := agree c.toNat hc
  constructor
  · intro h; rw [← ha (.inl (by rw [h]; exact ⟨h0, h1⟩))]; exact h
  · intro h; rw [ha (.inr (by rw [h]; exact ⟨h0, h1⟩))]; exact h

/-! ### Lists -/
def orL (l : List UInt8) : List Int := l.map fun c => orI (c.toNat : Int)
theorem ints_inj : ∀ {a b : List UInt8}, ints a = ints b → a = b
  | [], [], _ => rfl
  | [], _ :: _, h => by simp [ints] at h
  | _ :: _, [], h => by simp [ints] at h
  | x :: a, y :: b, h => by
    simp only [ints, List.map_cons, List.cons.injEq] at h
    rw [show x = y from UInt8.toNat_inj.1 (by omega), ints_inj (a := a) (b := b) h.2]
theorem ints_low (l : List UInt8) : ints (lowL l) = orL l := by
  unfold ints lowL orL
  rw [List.map_map]
  apply List.map_congr_left
  intro c _
  exact or_back c.toNat c.toNat_lt
def Small (m : List UInt8) : Prop := ∀ n ∈ m, 97 ≤ (n.toNat : Int) ∧ (n.toNat : Int) ≤ 122
theorem or_fold : ∀ (l m : List UInt8), Small m → (orL l = ints m ↔ foldL l = ints m)
  | [], m, _ => by simp [orL, foldL]
  | c :: l, [], _ => by simp [orL, foldL, ints]
  | c :: l, n :: m, hm => by
    have ih := or_fold l m (fun x hx => hm x (List.mem_cons_of_mem _ hx))
    have hp := pt c n (hm n (List.mem_cons_self ..)).1 (hm n (List.mem_cons_self ..)).2
    simp only [orL, foldL, ints, List.map_cons, List.cons.injEq] at ih ⊢
    rw [hp, ih]
theorem small_all : ∀ m ∈ monthsL, Small m := by
  intro m hm n hn
  have h : (monthsL.all fun m => m.all fun n => 97 ≤ n.toNat && n.toNat ≤ 122) = true := by decide +kernel
  rw [List.all_eq_true] at h
  have h2 := h m hm
  rw [List.all_eq_true] at h2
  have h3 := h2 n hn
  simp only [Bool.and_eq_true, decide_eq_true_eq] at h3
  omega
theorem months_fold (l : List UInt8) : monthsB (lowL l) = true ↔ ∃ m ∈ monthsL, foldL l = ints m := by
  rw [monthsB_iff]
  constructor
  · intro h
    exact ⟨lowL l, h, (or_fold l (lowL l) (small_all _ h)).1 (ints_low l).symm⟩
  · rintro ⟨m, hm, h⟩
    have := (or_fold l m (small_all m hm)).2 h
    rw [← ints_low] at this
    rw [ints_inj this]
    exact hm

/-! ### The two lists of names are one -/
def list2 : List (List UInt8) := namesL ++ namesL.map (·.take 3) ++ [[115, 101, 112, 116]]
theorem in_two : ∀ m ∈ monthsL, m ∈ list2 := by
  have h : (monthsL.all fun m => list2.contains m) = true := by decide +kernel
  rw [List.all_eq_true] at h
  intro m hm
  have := h m hm
  simpa using this
theorem of_two : ∀ m ∈ list2, m ∈ monthsL := by
  have h : (list2.all fun m => monthsL.contains m) = true := by decide +kernel
  rw [List.all_eq_true] at h
  intro m hm
  have := h m hm
  simpa using this
theorem names_len : namesL.length = 12 := rfl
theorem name_data (j : Nat) : (nameB j).data.toList = namesL.getD j [] := by simp [nameB]
theorem name_cut (j : Nat) : ((nameB j).extract 0 3).data.toList = (namesL.getD j []).take 3 := by simp [nameB]
theorem name_mem (j : Nat) (h : j < 12) : namesL.getD j [] ∈ namesL := by
  rw [List.getD_eq_getElem?_getD, List.getElem?_eq_getElem (by rw [names_len]; exact h)]
  simp
theorem name_of {m : List UInt8} (h : m ∈ namesL) : ∃ j, j < 12 ∧ namesL.getD j [] = m := by
  obtain ⟨j, hj, e⟩ := List.mem_iff_getElem.1 h
  exact ⟨j, by rw [names_len] at hj; exact hj, by rw [List.getD_eq_getElem?_getD, List.getElem?_eq_getElem hj]; exact e⟩
theorem name_three : ∀ m ∈ namesL, (m.take 3).length = 3 := by
  intro m hm
  have h : (namesL.all fun m => (m.take 3).length == 3) = true := by decide +kernel
  rw [List.all_eq_true] at h
  simpa using h m hm
theorem months_model (s : ByteArray) : monthsB (lowL s.data.toList) = true ↔ Model s := by
  rw [months_fold]
  have fe : ∀ n : ByteArray, feB s n = true ↔ foldL s.data.toList = ints n.data.toList := fun n => by unfold feB; rw [decide_eq_true_eq]
  unfold Model
  constructor
  · rintro ⟨m, hm, h⟩
    have h2 := in_two m hm
    unfold list2 at h2
    rcases List.mem_append.1 h2 with h2 | h2
    · rcases List.mem_append.1 h2 with h2 | h2
      · obtain ⟨j, hj, e⟩ := name_of h2
        exact .inl ⟨j, hj, .inl ((fe _).2 (by rw [name_data, e]; exact h))⟩
      · obtain ⟨m', hm', rfl⟩ := List.mem_map.1 h2
        obtain ⟨j, hj, e⟩ := name_of hm'
        refine .inl ⟨j, hj, .inr ⟨?_, (fe _).2 (by rw [name_cut, e]; exact h)⟩⟩
        have hl := congrArg List.length h
        simp only [foldL, ints, List.length_map, name_three m' hm'] at hl
        simpa using hl
    · have e : m = [115, 101, 112, 116] := by simpa using h2
      subst e
      exact .inr ((fe _).2 h)
  · rintro (⟨j, hj, h | ⟨_, h⟩⟩ | h)
    · rw [fe, name_data] at h
      exact ⟨_, of_two _ (List.mem_append_left _ (List.mem_append_left _ (name_mem j hj))), h⟩
    · rw [fe, name_cut] at h
      exact ⟨_, of_two _ (List.mem_append_left _ (List.mem_append_right _ (List.mem_map_of_mem (name_mem j hj)))), h⟩
    · rw [fe] at h
      exact ⟨[115, 101, 112, 116], of_two _ (List.mem_append_right _ (by simp)), h⟩

/-! ### isMonth, and the law's own walk -/
theorem months_len : ∀ m ∈ monthsL, 3 ≤ m.length ∧ m.length ≤ 9 ∧ lettersB ((m.getD 0 0).toNat : Int) = true := by
  intro m hm
  have h : (monthsL.all fun m => 3 ≤ m.length && m.length ≤ 9 && lettersB ((m.getD 0 0).toNat : Int)) = true := by decide +kernel
  rw [List.all_eq_true] at h
  have := h m hm
  simp only [Bool.and_eq_true, decide_eq_true_eq] at this
  exact ⟨this.1.1, this.1.2, this.2⟩
theorem low_length (l : List UInt8) : (lowL l).length = l.length := by simp [lowL]
theorem ism_out (s : ByteArray) (w : World) (hs : s.size ≤ maxLen) (h : s.size < 3 ∨ 9 < s.size) :
    Calls Try.prog 14 #[.string s] w fun e w' => e = .returned (.bool false) ∧ w' = w := by
  unfold maxLen at hs
  rcases h with h | h
  · go_enter Try.func14, Try.ntmps14
    go_wp2
    go_ret
    exact ⟨rfl, rfl⟩
  · go_enter Try.func14, Try.ntmps14
    go_wp2
    go_ret
    exact ⟨rfl, rfl⟩
theorem ism_any (s : ByteArray) (w : World) (hs : s.size ≤ maxLen) :
    Calls Try.prog 14 #[.string s] w fun e w' => e = .returned (.bool (monthsB (lowL s.data.toList))) ∧ Grown w w' := by
  have hl : s.data.toList.length = s.size := by simp
  by_cases hz : 3 ≤ s.size ∧ s.size ≤ 9
  · have e : (bytesOf ((List.range s.size).map fun j => orI ((s.data.toList.getD j 0).toNat : Int))).toList = lowL s.data.toList := by
      rw [ByteArray.toList_eq, bytesOf_data, List.map_map]
      apply List.ext_getElem
      · simp [lowL]
      · intro j h1 h2
        have hj : j < s.data.toList.length := by rw [low_length] at h2; exact h2
        simp only [lowL, List.getElem_map, List.getElem_range, Function.comp, List.getD_eq_getElem?_getD, List.getElem?_eq_getElem hj, Option.getD_some]
    have hw := ism_walk s w hz.1 hz.2 (fun j => orI ((s.data.toList.getD j 0).toNat : Int)) (fun j h => by
      rw [List.getD_eq_getElem?_getD, List.getElem?_eq_getElem (by omega)]; rfl) _ rfl
    rw [e] at hw
    refine hw.mono fun r w' ⟨h1, h2⟩ => ⟨?_, h2⟩
    rw [h1]
    apply ret_bool
    cases hm : monthsB (lowL s.data.toList)
    · simp
    · obtain ⟨_, _, h3⟩ := months_len _ ((monthsB_iff _).1 hm)
      obtain ⟨t, ht⟩ := data_cons s (by omega)
      rw [ht] at h3
      have h4 := letter_back s[0].toNat s[0].toNat_lt h3
      rw [h4]; rfl
  · refine (ism_out s w hs (by omega)).mono fun r w' ⟨h1, h2⟩ => ⟨?_, by rw [h2]; exact Grown.refl _⟩
    rw [h1]
    apply ret_bool
    cases hm : monthsB (lowL s.data.toList)
    · rfl
    · obtain ⟨h3, h4, _⟩ := months_len _ ((monthsB_iff _).1 hm)
      rw [low_length] at h3 h4
      omega
theorem zzism_any (s : ByteArray) (w : World) (hs : s.size ≤ maxLen) :
    Calls Try.prog 7 #[.string s] w fun e w' => e = .returned (.bool (monthsB (lowL s.data.toList))) ∧ Grown w w' := by
  go_enter Try.func7, Try.ntmps7
  go_wp2_with (go_at_call 14; refine (ism_any _ _ hs).mono ?_; rintro e w' ⟨rfl, hg⟩)
  go_ret
  exact ⟨rfl, hg⟩
theorem bytesM_any (s : ByteArray) (w : World) (hs : s.size ≤ maxLen) :
    Calls Try.prog 6 #[.string s] w fun e w' => (∃ b, e = .returned (.bool b)) ∧ w' = w := by
  unfold maxLen at hs
  go_enter Try.func6, Try.ntmps6
  go_wp2
  all_goals go_ret
  all_goals exact ⟨⟨_, rfl⟩, rfl⟩
theorem month_any (s : ByteArray) (w : World) (hs : s.size ≤ maxLen) :
    Calls Try.prog 3 #[.string s] w fun e w' => e = .returned (.bool true) ∧ Grown w w' := by
  have HB := fun w => bytesM_any s w hs
  have HZ := fun w => zzism_any s w hs
  have HM := fun w => model_any s w hs
  have HL : Hid (monthsB (lowL s.data.toList) = true ↔ Model s) := months_model s
  generalize monthsB (lowL s.data.toList) = A at HZ HL
  unfold maxLen at hs
  go_enter Try.func3, Try.ntmps3
  go_wp2_with (first | (go_at_call 6; refine (HB _).mono ?_; rintro e w' ⟨⟨b, rfl⟩, rfl⟩; cases b) | (go_at_call 7; refine (HZ _).mono ?_; rintro e w1 ⟨rfl, hg⟩) | (go_at_call 8; refine (HM _).mono ?_; rintro e w2 ⟨⟨r, rfl, hr⟩, rfl⟩))
  · go_ret
    exact ⟨rfl, Grown.refl _⟩
  · go_ret
    exact ⟨rfl, Grown.refl _⟩
  · go_ret
    have e : A = r := Bool.eq_iff_iff.2 (HL.out.trans hr.symm)
    exact ⟨ret_bool (by rw [e]; simp), hg⟩
end Go.Proofs.Qxb6619631a
