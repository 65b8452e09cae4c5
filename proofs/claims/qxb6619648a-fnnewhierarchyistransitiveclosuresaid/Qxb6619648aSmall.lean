import Derived.Test.Qxb6619648aStrs
namespace Go.Proofs.Qxb6619648a
open Go.ChangeShapes Go.WideShapes Go.ChangeAt Go.RowKit
/-- v is a slice of m slices of strings: its i-th element is the value dv i, which reads as dl i; beyond m: nil. -/
def LV (w : World) (v : Value) (m : Nat) (dv : Nat → Value) (dl : Nat → List ByteArray) : Prop :=
  (∃ a cap, v = .slice a m cap ∧ (0 < m → ∃ b o, a = some ⟨b, o, none⟩ ∧ b < w.heap.size ∧ ∀ i, i < m → w.cell? ⟨b, o + i, none⟩ = some (dv i))) ∧
    (∀ i, m ≤ i → dv i = .slice none 0 0) ∧ ∀ i, SV w (dv i) (dl i)
theorem LV.below {w w' : World} {B : Nat} {v : Value} {m : Nat} {dv : Nat → Value} {dl : Nat → List ByteArray} (h : LV w v m dv dl) (hb : Below B w w') (hB : w.heap.size ≤ B) : LV w' v m dv dl := by
  obtain ⟨⟨a, cap, e, h1⟩, h2, h3⟩ := h
  refine ⟨⟨a, cap, e, fun hm => ?_⟩, h2, fun i => (h3 i).below hb hB⟩
  obtain ⟨b, o, ea, hlt, hc⟩ := h1 hm
  exact ⟨b, o, ea, Nat.lt_of_lt_of_le hlt hb.size, fun j hj => by rw [hb.cell (p := ⟨b, o + j, none⟩) (Nat.lt_of_lt_of_le hlt hB)]; exact hc j hj⟩

/-- A bool comes back; if it is true then p. -/
def RetB (e : Ending) (p : Prop) : Prop := ∃ r : Bool, e = .returned (.bool r) ∧ (r = true → p)
theorem listAt (v : Value) (m : Nat) (dv : Nat → Value) (dl : Nat → List ByteArray) (i : Nat) (w : World) (h : LV w v m dv dl) :
    Calls Try.prog 15 #[v, .int .i64 i] w fun e w' => e = .returned (dv i) ∧ w' = w := by
  obtain ⟨⟨a, cap, rfl, h1⟩, h2, _⟩ := h
  by_cases hi : i < m
  · obtain ⟨b, o, rfl, _, hc⟩ := h1 (by omega)
    have q := hc i hi
    have hb : (i : Int) < (m : Int) := by omega
    clear h1 h2 hc
    generalize dv i = x at q
    go_enter Try.func15, Try.ntmps15
    go_wp2
    go_ret
    exact ⟨rfl, rfl⟩
  · have e := h2 i (by omega)
    rw [e]
    have hb : ¬ (i : Int) < (m : Int) := by omega
    clear h1 h2 e
    go_enter Try.func15, Try.ntmps15
    go_wp2
    go_ret
    exact ⟨rfl, rfl⟩

theorem spend1 (s : ByteArray) (left : Int) (w : World) (h0 : -16 ≤ left) (h1 : left ≤ 1048576) :
    Calls Try.prog 17 #[.string s, .int .i64 left] w fun e w' => (∃ r : Int, e = .returned (.int .i64 r) ∧ -1 ≤ r ∧ r ≤ 1048576) ∧ w' = w := by
  go_enter Try.func17, Try.ntmps17
  go_wp2
  all_goals go_ret
  all_goals exact ⟨⟨_, rfl, by omega, by omega⟩, rfl⟩

set_option maxHeartbeats 400000 in
theorem spendS (v : Value) (l : List ByteArray) (left : Int) (w : World) (h : SV w v l) (hl : l.length ≤ 9223372036854775807) (h0 : -1 ≤ left) (h1 : left ≤ 1048576) :
    Calls Try.prog 13 #[v, .int .i64 left] w fun e w' => (∃ r : Int, e = .returned (.int .i64 r) ∧ -1 ≤ r ∧ r ≤ 1048576) ∧ w' = w := by
  obtain ⟨a, cap, rfl, _, h2⟩ := h
  by_cases hneg : left < 0 ∨ 65536 < l.length
  · rcases hneg with hneg | hneg
    · go_enter Try.func13, Try.ntmps13
      go_wp2
      go_ret
      exact ⟨⟨_, rfl, by omega, by omega⟩, rfl⟩
    · have hb : (65536 : Int) < (l.length : Int) := by omega
      go_enter Try.func13, Try.ntmps13
      go_wp2
      all_goals go_ret
      all_goals exact ⟨⟨_, rfl, by omega, by omega⟩, rfl⟩
  · have hb : ¬ (65536 : Int) < (l.length : Int) := by omega
    have hb2 : 0 ≤ left := by omega
    have H2 := h2
    clear h2 hneg
    go_enter Try.func13, Try.ntmps13
    go_wp2
    go_loop [1, 5] (fun t i => ∃ (k : Nat) (r : Int), k ≤ l.length ∧ i = .int .i64 k ∧ t = .int .i64 r ∧ 0 ≤ r ∧ r ≤ 1048576) (fun _ i => l.length - (intOf i).toNat)
    case atStart => exact ⟨0, left, Nat.zero_le _, rfl, rfl, by omega, by omega⟩
    case round =>
      obtain ⟨k, r, hk, rfl, rfl, hr0, hr1⟩ := hrel
      by_cases hlt : k < l.length
      · obtain ⟨b, o, rfl, _, hc⟩ := H2 (by intro e; rw [e] at hlt; simp at hlt)
        have q := hc k hlt
        have hb3 : (k : Int) < (l.length : Int) := by omega
        generalize nth l k = s at q
        clear hc
        go_wp2_with (go_at_call 17; refine (spend1 _ _ _ (by omega) (by omega)).mono ?_; rintro e w' ⟨⟨r2, rfl, hr2, hr3⟩, rfl⟩)
        · go_ret
          exact ⟨⟨_, rfl, by omega, by omega⟩, rfl⟩
        · go_ret
          exact ⟨⟨_, rfl, by omega, by omega⟩, rfl⟩
        · go_round
          case rel => exact ⟨k + 1, r2, by omega, by go_num, rfl, by omega, by omega⟩
          case measure => simp [intOf]; omega
      · go_wp2
        go_ret
        exact ⟨⟨_, rfl, by omega, by omega⟩, rfl⟩

set_option maxHeartbeats 400000 in
theorem spendL (v : Value) (m : Nat) (dv : Nat → Value) (dl : Nat → List ByteArray) (left : Int) (w : World) (h : LV w v m dv dl) (hl : ∀ i, (dl i).length ≤ 9223372036854775807) (h0 : -1 ≤ left) (h1 : left ≤ 1048576) :
    Calls Try.prog 14 #[v, .int .i64 left] w fun e w' => (∃ r : Int, e = .returned (.int .i64 r) ∧ -1 ≤ r ∧ r ≤ 1048576) ∧ w' = w := by
  obtain ⟨⟨a, cap, rfl, h2⟩, _, h3⟩ := h
  by_cases hneg : left < 0 ∨ 65536 < m
  · rcases hneg with hneg | hneg
    · go_enter Try.func14, Try.ntmps14
      go_wp2
      go_ret
      exact ⟨⟨_, rfl, by omega, by omega⟩, rfl⟩
    · have hb : (65536 : Int) < (m : Int) := by omega
      go_enter Try.func14, Try.ntmps14
      go_wp2
      all_goals go_ret
      all_goals exact ⟨⟨_, rfl, by omega, by omega⟩, rfl⟩
  · have hb : ¬ (65536 : Int) < (m : Int) := by omega
    have hb2 : 0 ≤ left := by omega
    have H2 := h2
    have SP := fun i r h0 h1 => spendS (dv i) (dl i) r w (h3 i) (hl i) h0 h1
    clear h2 h3 hneg
    go_enter Try.func14, Try.ntmps14
    go_wp2
    go_loop [1, 5] (fun t i => ∃ (k : Nat) (r : Int), k ≤ m ∧ i = .int .i64 k ∧ t = .int .i64 r ∧ 0 ≤ r ∧ r ≤ 1048576) (fun _ i => m - (intOf i).toNat)
    case atStart => exact ⟨0, left, Nat.zero_le _, rfl, rfl, by omega, by omega⟩
    case round =>
      obtain ⟨k, r, hk, rfl, rfl, hr0, hr1⟩ := hrel
      by_cases hlt : k < m
      · obtain ⟨b, o, rfl, _, hc⟩ := H2 (by omega)
        have q := hc k hlt
        have SP' := SP k
        have hb3 : (k : Int) < (m : Int) := by omega
        generalize dv k = s at q SP'
        clear hc SP
        go_wp2_with (go_at_call 13; refine (SP' _ (by omega) (by omega)).mono ?_; rintro e w' ⟨⟨r2, rfl, hr2, hr3⟩, rfl⟩)
        · go_ret
          exact ⟨⟨_, rfl, by omega, by omega⟩, rfl⟩
        · go_ret
          exact ⟨⟨_, rfl, by omega, by omega⟩, rfl⟩
        · go_round
          case rel => exact ⟨k + 1, r2, by omega, by go_num, rfl, by omega, by omega⟩
          case measure => simp [intOf]; omega
      · go_wp2
        go_ret
        exact ⟨⟨_, rfl, by omega, by omega⟩, rfl⟩

set_option maxHeartbeats 400000 in
theorem elems (v : Value) (m : Nat) (dv : Nat → Value) (dl : Nat → List ByteArray) (w : World) (h : LV w v m dv dl) (hm : m ≤ 256) :
    Calls Try.prog 12 #[v, .int .i64 256] w fun e w' => RetB e (∀ i, i < m → (dl i).length ≤ 256) ∧ w' = w := by
  obtain ⟨⟨a, cap, rfl, h2⟩, _, h3⟩ := h
  have H2 := h2
  have H3 := h3
  clear h2 h3
  go_enter Try.func12, Try.ntmps12
  go_wp2
  go_loop [5, 6] (fun t i => ∃ (k : Nat) (r : Int), k ≤ m ∧ i = .int .i64 k ∧ t = .int .i64 r ∧ 0 ≤ r ∧ r ≤ 256 ∧ Hid (∀ j, j < k → (dl j).length ≤ 256)) (fun _ i => m - (intOf i).toNat)
  case atStart => exact ⟨0, 0, Nat.zero_le _, rfl, rfl, by omega, by omega, fun j h => by omega⟩
  case round =>
    obtain ⟨k, r, hk, rfl, rfl, hr0, hr1, hinv⟩ := hrel
    by_cases hlt : k < m
    · obtain ⟨b, o, rfl, _, hc⟩ := H2 (by omega)
      have q := hc k hlt
      obtain ⟨a2, c2, e2, _, _⟩ := H3 k
      rw [e2] at q
      have hb3 : (k : Int) < (m : Int) := by omega
      clear hc H3 e2
      generalize hn : (dl k).length = n at q
      have HN : Hid ((dl k).length = n) := hn
      clear hn
      by_cases hle : (256 : Int) - r < (n : Int)
      · go_wp2
        go_ret
        exact ⟨⟨false, rfl, fun h => by cases h⟩, rfl⟩
      · go_wp2
        go_round
        case rel =>
          refine ⟨k + 1, r + n, by omega, by go_num, rfl, by omega, by omega, fun j hj => ?_⟩
          by_cases e : j = k
          · rw [e, HN.out]; omega
          · exact hinv j (by omega)
        case measure => simp [intOf]; omega
    · go_wp2
      go_ret
      exact ⟨⟨true, rfl, fun _ i hi => hinv i (by omega)⟩, rfl⟩

theorem small (kv v : Value) (K : List ByteArray) (m : Nat) (dv : Nat → Value) (dl : Nat → List ByteArray) (w : World) (hk : SV w kv K) (h : LV w v m dv dl) (hkl : K.length ≤ 9223372036854775807) (hl : ∀ i, (dl i).length ≤ 9223372036854775807) :
    Calls Try.prog 5 #[kv, v] w fun e w' => RetB e (K.length ≤ 256 ∧ m ≤ 256 ∧ ∀ i, i < m → (dl i).length ≤ 256) ∧ w' = w := by
  have C1 := fun hm => elems v m dv dl w h hm
  have C2 := fun r h0 h1 => spendS kv K r w hk hkl h0 h1
  have C3 := fun r h0 h1 => spendL v m dv dl r w h hl h0 h1
  obtain ⟨a, cap, rfl, _, _⟩ := hk
  obtain ⟨⟨a2, cap2, rfl, _⟩, _, _⟩ := h
  by_cases h1 : 256 < K.length
  · have hb : (256 : Int) < (K.length : Int) := by omega
    go_enter Try.func5, Try.ntmps5
    go_wp2
    go_ret
    exact ⟨⟨false, rfl, fun h => by cases h⟩, rfl⟩
  · by_cases h2 : 256 < m
    · have hb : ¬ (256 : Int) < (K.length : Int) := by omega
      have hb2 : (256 : Int) < (m : Int) := by omega
      go_enter Try.func5, Try.ntmps5
      go_wp2
      go_ret
      exact ⟨⟨false, rfl, fun h => by cases h⟩, rfl⟩
    · have hb : ¬ (256 : Int) < (K.length : Int) := by omega
      have hb2 : ¬ (256 : Int) < (m : Int) := by omega
      have C1' := C1 (by omega)
      clear C1
      go_enter Try.func5, Try.ntmps5
      go_wp2_with (first | (go_at_call 12; refine C1'.mono ?_; rintro e w' ⟨⟨r, rfl, hr⟩, rfl⟩; cases r) | (go_at_call 13; refine (C2 _ (by omega) (by omega)).mono ?_; rintro e w' ⟨⟨r2, rfl, hr2, hr3⟩, rfl⟩) | (go_at_call 14; refine (C3 _ (by omega) (by omega)).mono ?_; rintro e w' ⟨⟨r3, rfl, hr4, hr5⟩, rfl⟩))
      · go_ret
        exact ⟨⟨false, rfl, fun h => by cases h⟩, rfl⟩
      · go_ret
        exact ⟨⟨_, rfl, fun _ => ⟨by omega, by omega, hr trivial⟩⟩, rfl⟩

theorem bytes_ne {a b : ByteArray} : (a.toList == b.toList) = false ↔ a ≠ b := by
  rw [ByteArray.toList_eq, ByteArray.toList_eq]
  constructor
  · intro h e; rw [e] at h; simp at h
  · intro h
    cases hc : (a.data.toList == b.data.toList)
    · rfl
    · exact absurd (WideShapes.bytes_inj (by simpa using hc)) h
theorem bytes_eq {a b : ByteArray} : (a.toList == b.toList) = true ↔ a = b := by
  rw [ByteArray.toList_eq, ByteArray.toList_eq]
  constructor
  · intro h; exact WideShapes.bytes_inj (by simpa using h)
  · intro h; rw [h]; simp
/-- j is the place of the last k in K, or -1. -/
def LastAt (K : List ByteArray) (k : ByteArray) (j : Int) : Prop :=
  (j = -1 ∧ ∀ u, u < K.length → nth K u ≠ k) ∨ ∃ t : Nat, j = t ∧ t < K.length ∧ nth K t = k ∧ ∀ u, t < u → u < K.length → nth K u ≠ k
set_option maxHeartbeats 400000 in
theorem lastIndex (v : Value) (K : List ByteArray) (k : ByteArray) (w : World) (h : SV w v K) (hl : K.length ≤ 256) :
    Calls Try.prog 11 #[v, .string k] w fun e w' => (∃ j : Int, e = .returned (.int .i64 j) ∧ LastAt K k j) ∧ w' = w := by
  obtain ⟨a, cap, rfl, _, h2⟩ := h
  have H2 := h2
  clear h2
  go_enter Try.func11, Try.ntmps11
  go_wp2
  go_loop [5] (fun i => ∃ j : Nat, j ≤ K.length ∧ i = .int .i64 ((j : Int) - 1) ∧ Hid (∀ u, j ≤ u → u < K.length → nth K u ≠ k)) (fun i => (intOf i + 1).toNat)
  case atStart => exact ⟨K.length, Nat.le_refl _, rfl, fun u h1 h2 => by omega⟩
  case round =>
    obtain ⟨j, hj, rfl, hinv⟩ := hrel
    by_cases h0 : j = 0
    · subst h0
      go_wp2
      go_ret
      exact ⟨⟨_, rfl, .inl ⟨rfl, fun u hu => hinv u (by omega) hu⟩⟩, rfl⟩
    · obtain ⟨t, rfl⟩ : ∃ t, j = t + 1 := ⟨j - 1, by omega⟩
      obtain ⟨b, o, rfl, _, hc⟩ := H2 (by intro e; rw [e] at hj; simp at hj)
      have q := hc t (by omega)
      have hb : (t : Int) < (K.length : Int) := by omega
      generalize hx : nth K t = x at q
      have HX : Hid (nth K t = x) := hx
      clear hc hx h0
      have e1 : (((t + 1 : Nat) : Int) - 1) = (t : Int) := by omega
      rw [e1]
      cases hq : (x.toList == k.toList)
      · go_wp2
        go_round
        case rel =>
          refine ⟨t, by omega, rfl, fun u h1 h2 => ?_⟩
          by_cases e : u = t
          · rw [e, HX.out]; exact bytes_ne.1 hq
          · exact hinv u (by omega) h2
        case measure => simp [intOf]
      · go_wp2
        go_ret
        exact ⟨⟨_, rfl, .inr ⟨t, rfl, by omega, by rw [HX.out]; exact bytes_eq.1 hq, fun u h1 h2 => hinv u (by omega) h2⟩⟩, rfl⟩
end Go.Proofs.Qxb6619648a
