import Derived.Test.Qxb6619648aNodeStep
import Derived.Deep.DeepCutAuto
namespace Go.Proofs.Qxb6619648a
open Go.ChangeShapes Go.WideShapes Go.ChangeAt Go.RowKit
theorem node_any {w : World} {r : Nat} {nv : Value} {N : List ByteArray} {s : ByteArray} (h : NodesAt w r nv N) (hd : N.Nodup) (hn : N.length ≤ 1048576) :
    ∃ (u : Int) (bb : Bool), (Instr.lookup 32 (.map (some r)) (.string s) true).run Try.prog w = .ok (.tuple #[.int .i64 u, .bool bb]) w ∧ Hid (bb = true ↔ s ∈ N) := by
  by_cases hs : s ∈ N
  · obtain ⟨u, hu⟩ := node_old h hs hd
    exact ⟨u, true, hu, ⟨fun _ => hs, fun _ => rfl⟩⟩
  · exact ⟨0, false, (node_new h hs hn).1, ⟨fun e => absurd e (by simp), fun e => absurd e hs⟩⟩
theorem take_nthN {l : List ByteArray} {j : Nat} (h : j < l.length) : l.take (j + 1) = l.take j ++ [nth l j] := by
  rw [List.take_succ_eq_append_getElem h, nth_eq h]
theorem nodes_start (w : World) : NodesAt ((w.alloc (.map #[] 0)).alloc (.cells #[] 9)) w.heap.size (.slice (some ⟨w.heap.size + 1, 0, none⟩) 0 0) [] := by
  have h1 := SOwn.made (w.alloc (.map #[] 0))
  have e : (w.alloc (.map #[] 0)).heap.size = w.heap.size + 1 := by simp
  rw [e] at h1
  exact ⟨mapIs_below (mapIs_new w) ((Below.refl _ _).alloc (Nat.le_refl _) _) (by simp), h1⟩
set_option maxHeartbeats 2000000 in
theorem nodes_any (kv v : Value) (K : List ByteArray) (m : Nat) (dv : Nat → Value) (dl : Nat → List ByteArray) (w : World) (hk : SV w kv K) (h : LV w v m dv dl) (hl : K.length ≤ 256) (hd : ∀ i, (dl i).length ≤ 256) :
    Calls Try.prog 9 #[kv, v] w fun e w' => ∃ nv, e = .returned (.tuple #[nv, .map (some w.heap.size)]) ∧ NodesAt w' w.heap.size nv (nodesL K dl K.length) ∧ Below w.heap.size w w' := by
  have HL : Hid (LV w v m dv dl) := h
  have HK : Hid (SV w kv K) := hk
  obtain ⟨a, cap, rfl, _, _⟩ := hk
  have HD : Hid (∀ i, (dl i).length ≤ 256) := hd
  clear h hd
  have hmk : (Instr.makeMap 32 none).run Try.prog w = .ok (.map (some w.heap.size)) (w.alloc (.map #[] 0)) := rfl
  go_enter Try.func9, Try.ntmps9
  go_wp2
  go_loopw [7, 8] (fun nv i wr => ∃ k : Nat, k ≤ K.length ∧ i = .int .i64 k ∧ Below w.heap.size w wr ∧ NodesAt wr w.heap.size nv (nodesL K dl k)) (fun _ i _ => K.length - (intOf i).toNat)
  case atStart => exact ⟨0, Nat.zero_le _, rfl, ((Below.refl _ _).alloc (Nat.le_refl _) _).alloc (by simp) _, nodes_start w⟩
  case round =>
    obtain ⟨k, hk, rfl, hbel, hnod⟩ := hrel
    have HB : Hid (Below w.heap.size w wr) := hbel
    have HN : Hid (NodesAt wr w.heap.size u7 (nodesL K dl k)) := hnod
    clear hbel hnod hmk
    by_cases hlt : k < K.length
    · have hne : K ≠ [] := by intro e; rw [e] at hlt; simp at hlt
      obtain ⟨_, _, ea, _, hcs⟩ := HK.out
      obtain ⟨b, o, e2, hbl, hc⟩ := hcs hne
      cases ea
      cases e2
      have q0 := hc k hlt
      have q := HB.out.cell (p := ⟨b, o + k, none⟩) hbl
      rw [q0] at q
      have hb : (k : Int) < (K.length : Int) := by omega
      have hnd := nodes_nodup K dl k
      have hle := nodes_length K dl HD.out k
      have hle2 : (nodesL K dl k).length ≤ 65792 := by omega
      have hld := HD.out k
      clear hcs hc q0 hle
      generalize hs : nth K k = s at q
      have HS : Hid (nth K k = s) := hs
      have HNL : Hid (nodesL K dl (k + 1) = addAll (addN (nodesL K dl k) s) (dl k)) := by show nodesL K dl (k + 1) = _; rw [← hs]; rfl
      clear hs
      generalize nodesL K dl k = N at HN hnd hle2 HNL
      obtain ⟨u, bb, hlk, hbb⟩ := node_any (s := s) HN.out hnd (by omega)
      obtain ⟨a7, c7, e7, _, _⟩ := HN.out.2.sv
      subst e7
      go_upto_if 33 with fail
      go_cut [7] (fun s7 w' => Below w.heap.size w w' ∧ NodesAt w' w.heap.size s7 (addN N s))
      case first =>
        cases bb
        · have hsn : s ∉ N := fun e => by have := hbb.out.2 e; cases this
          obtain ⟨_, W, v', W', hup, hrun, hbW, hbW', hnew⟩ := node_new HN.out hsn (by omega)
          have q2 := hbW.cell (p := ⟨b, o + k, none⟩) hbl
          rw [q] at q2
          have H1 : Hid (Below w.heap.size wr W') := hbW'
          have H2 : Hid (NodesAt W' w.heap.size v' (N ++ [s])) := hnew
          clear hbW hbW' hnew
          go_wp2_with (at_builtin; refine wpList_run_append rfl _ _ 22 22 rfl rfl rfl hrun ?_)
          go_meet
          exact ⟨HB.out.trans H1.out, by rw [addN_new hsn]; exact H2.out⟩
        · have hsn : s ∈ N := hbb.out.1 rfl
          go_wp2_with fail
          go_meet
          exact ⟨HB.out, by rw [addN_old hsn]; exact HN.out⟩
      case rest =>
        obtain ⟨hb1, hn1⟩ := hcut
        have B1 : Hid (Below w.heap.size w wc) := hb1
        have N1 : Hid (NodesAt wc w.heap.size u7 (addN N s)) := hn1
        have LA := listAt v m dv dl k wc (HL.out.below hb1 (Nat.le_refl _))
        obtain ⟨_, _, hsv⟩ := HL.out
        have hsvk := hsv k
        clear hb1 hn1 hsv HN hlk hbb q
        generalize dv k = x at LA hsvk
        generalize dl k = L at hsvk hld HNL
        obtain ⟨a3, c3, e3, h30, h31⟩ := hsvk
        subst e3
        go_wp2_with (go_at_call 15; refine LA.mono ?_; rintro e w2 ⟨rfl, rfl⟩)
        go_loopw [7, 12] (fun nv t w' => ∃ j : Nat, j ≤ L.length ∧ t = .int .i64 j ∧ Below w.heap.size w w' ∧ NodesAt w' w.heap.size nv (addAll (addN N s) (L.take j))) (fun _ t _ => L.length - (intOf t).toNat)
        case atStart => exact ⟨0, Nat.zero_le _, rfl, B1.out, N1.out⟩
        case round =>
          obtain ⟨j, hj, rfl, hbel, hnod⟩ := hrel
          have HB2 : Hid (Below w.heap.size w wr) := hbel
          have HN2 : Hid (NodesAt wr w.heap.size u7 (addAll (addN N s) (L.take j))) := hnod
          clear hbel hnod
          by_cases hlt2 : j < L.length
          · obtain ⟨b2, o2, e4, hbl2, hc2⟩ := h31 (by intro e; rw [e] at hlt2; simp at hlt2)
            subst e4
            have p0 := hc2 j hlt2
            have p := HB2.out.cell (p := ⟨b2, o2 + j, none⟩) hbl2
            rw [p0] at p
            have hjb : (j : Int) < (L.length : Int) := by omega
            have hnd2 : (addAll (addN N s) (L.take j)).Nodup := addAll_nodup _ _ (addN_nodup hnd)
            have hle3 := addAll_length (L.take j) (addN N s)
            have hle4 := addN_length N s
            have hle5 : (addAll (addN N s) (L.take j)).length ≤ 70000 := by rw [List.length_take] at hle3; omega
            clear hc2 p0 hle3 hle4
            generalize hy : nth L j = y at p
            have HY : Hid (addAll (addN N s) (L.take (j + 1)) = addN (addAll (addN N s) (L.take j)) y) := by show _ = _; rw [take_nthN hlt2, addAll_snoc, hy]
            clear hy
            generalize addAll (addN N s) (L.take j) = M at HN2 hnd2 hle5 HY
            obtain ⟨a9, c9, e9, _, _⟩ := HN2.out.2.sv
            subst e9
            by_cases hys : y ∈ M
            · obtain ⟨u5, hlk⟩ := node_old HN2.out hys hnd2
              go_wp2_with fail
              go_roundw
              case rel => exact ⟨j + 1, by omega, by go_num, HB2.out, by rw [HY.out, addN_old hys]; exact HN2.out⟩
              case measure => simp [intOf]; omega
            · obtain ⟨hlk, W, v', W', hup, hrun, hbW, hbW', hnew⟩ := node_new HN2.out hys (by omega)
              have q2 := hbW.cell (p := ⟨b2, o2 + j, none⟩) hbl2
              rw [p] at q2
              have H1 : Hid (Below w.heap.size wr W') := hbW'
              have H2 : Hid (NodesAt W' w.heap.size v' (M ++ [y])) := hnew
              clear hbW hbW' hnew
              go_wp2_with (at_builtin; refine wpList_run_append rfl _ _ 22 22 rfl rfl rfl hrun ?_)
              go_roundw
              case rel => exact ⟨j + 1, by omega, by go_num, HB2.out.trans H1.out, by rw [HY.out, addN_new hys]; exact H2.out⟩
              case measure => simp [intOf]; omega
          · have hm := HN2.out
            rw [List.take_of_length_le (by omega), ← HNL.out] at hm
            have HM2 : Hid (NodesAt wr w.heap.size u7 (nodesL K dl (k + 1))) := hm
            clear hm
            go_wp2_with fail
            go_roundw
            case rel => exact ⟨k + 1, by omega, by go_num, HB2.out, HM2.out⟩
            case measure => simp [intOf]; omega
    · have ek : k = K.length := by omega
      have hm := HN.out
      rw [ek] at hm
      go_wp2
      go_ret2
      exact ⟨_, rfl, hm, HB.out⟩
end Go.Proofs.Qxb6619648a
