import Derived.Test.Qxb6619648aSmall
namespace Go.Proofs.Qxb6619648a
open Go.ChangeShapes Go.WideShapes Go.ChangeAt Go.RowKit
set_option maxRecDepth 100000 in
set_option maxHeartbeats 1000000 in
theorem bytesAll (kv v : Value) (K : List ByteArray) (m : Nat) (dv : Nat → Value) (dl : Nat → List ByteArray) (w : World) (hk : SV w kv K) (h : LV w v m dv dl) :
    Calls Try.prog 4 #[kv, v] w fun e w' => RetB e True ∧ w' = w := by
  obtain ⟨a, cap, rfl, _, h1⟩ := hk
  obtain ⟨⟨a2, cap2, rfl, h2⟩, _, h3⟩ := h
  by_cases hn : 1048576 < K.length
  · have hb : (1048576 : Int) < (K.length : Int) := by omega
    clear h1 h2 h3
    go_enter Try.func4, Try.ntmps4
    go_wp2
    go_ret
    exact ⟨⟨_, rfl, fun _ => trivial⟩, rfl⟩
  have hb : (K.length : Int) ≤ 1048576 := by omega
  have H1 := h1
  have H2 := h2
  have H3 := h3
  clear h1 h2 h3
  go_enter Try.func4, Try.ntmps4
  go_wp2
  go_loop [5, 6] (fun t i => ∃ (k : Nat) (r : Int), k ≤ K.length ∧ i = .int .i64 k ∧ t = .int .i64 r ∧ 0 ≤ r ∧ r ≤ 1048576) (fun _ i => K.length - (intOf i).toNat)
  case atStart => exact ⟨0, _, Nat.zero_le _, rfl, rfl, by omega, by omega⟩
  case round =>
    obtain ⟨k, r, hk, rfl, rfl, hr0, hr1⟩ := hrel
    by_cases hlt : k < K.length
    · obtain ⟨b, o, rfl, _, hc⟩ := H1 (by intro e; rw [e] at hlt; simp at hlt)
      have q := hc k hlt
      have hb3 : (k : Int) < (K.length : Int) := by omega
      generalize nth K k = s at q
      clear hc H2 H3
      by_cases hs : (1048576 : Int) < (s.size : Int)
      · go_wp2
        go_ret
        exact ⟨⟨_, rfl, fun _ => trivial⟩, rfl⟩
      · by_cases hs2 : (1048576 : Int) < r + (s.size : Int)
        · go_wp2
          go_ret
          exact ⟨⟨_, rfl, fun _ => trivial⟩, rfl⟩
        · go_wp2
          go_round
          case rel => exact ⟨k + 1, r + s.size, by omega, by go_num, rfl, by omega, by omega⟩
          case measure => simp [intOf]; omega
    · clear H1
      by_cases hm : (1048576 : Int) < (m : Int)
      · go_wp2
        go_ret
        exact ⟨⟨_, rfl, fun _ => trivial⟩, rfl⟩
      by_cases hm2 : (1048576 : Int) < r + (m : Int)
      · go_wp2
        go_ret
        exact ⟨⟨_, rfl, fun _ => trivial⟩, rfl⟩
      go_wp2
      go_loop [5, 7, 8] (fun t i _ => ∃ (k : Nat) (r : Int), k ≤ m ∧ i = .int .i64 k ∧ t = .int .i64 r ∧ 0 ≤ r ∧ r ≤ 1048576) (fun _ i _ => m - (intOf i).toNat)
      case atStart => exact ⟨0, _, Nat.zero_le _, rfl, rfl, by omega, by omega⟩
      case round =>
        obtain ⟨k2, r2, hk2, rfl, rfl, hr20, hr21⟩ := hrel
        by_cases hlt2 : k2 < m
        · obtain ⟨b, o, rfl, _, hc⟩ := H2 (by omega)
          have q := hc k2 hlt2
          obtain ⟨a3, c3, e3, _, h4⟩ := H3 k2
          rw [e3] at q
          have hb3 : (k2 : Int) < (m : Int) := by omega
          clear hc H3 e3 H2
          generalize dl k2 = L at q h4
          by_cases hs : (1048576 : Int) < (L.length : Int)
          · go_wp2
            go_ret
            exact ⟨⟨_, rfl, fun _ => trivial⟩, rfl⟩
          by_cases hs2 : (1048576 : Int) < r2 + (L.length : Int)
          · go_wp2
            go_ret
            exact ⟨⟨_, rfl, fun _ => trivial⟩, rfl⟩
          go_wp2
          go_loop [5, 8] (fun t i => ∃ (k3 : Nat) (r3 : Int), k3 ≤ L.length ∧ i = .int .i64 k3 ∧ t = .int .i64 r3 ∧ 0 ≤ r3 ∧ r3 ≤ 1048576) (fun _ i => L.length - (intOf i).toNat)
          case atStart => exact ⟨0, _, Nat.zero_le _, rfl, rfl, by omega, by omega⟩
          case round =>
            obtain ⟨k3, r3, hk3, rfl, rfl, hr30, hr31⟩ := hrel
            by_cases hlt3 : k3 < L.length
            · obtain ⟨b4, o4, rfl, _, hc4⟩ := h4 (by intro e; rw [e] at hlt3; simp at hlt3)
              have q4 := hc4 k3 hlt3
              have hb4 : (k3 : Int) < (L.length : Int) := by omega
              generalize nth L k3 = s at q4
              clear hc4
              by_cases hs3 : (1048576 : Int) < (s.size : Int)
              · go_wp2
                go_ret
                exact ⟨⟨_, rfl, fun _ => trivial⟩, rfl⟩
              by_cases hs4 : (1048576 : Int) < r3 + (s.size : Int)
              · go_wp2
                go_ret
                exact ⟨⟨_, rfl, fun _ => trivial⟩, rfl⟩
              go_wp2
              go_round
              case rel => exact ⟨k3 + 1, r3 + s.size, by omega, by go_num, rfl, by omega, by omega⟩
              case measure => simp [intOf]; omega
            · go_wp2
              go_round
              case rel => exact ⟨k2 + 1, r3, by omega, by go_num, rfl, by omega, by omega⟩
              case measure => simp [intOf]; omega
        · go_wp2
          go_ret
          exact ⟨⟨_, rfl, fun _ => trivial⟩, rfl⟩
end Go.Proofs.Qxb6619648a
