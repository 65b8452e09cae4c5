import Derived.Test.Qxb6619648aPre
import Derived.Deep.DeepCutAuto
namespace Go.Proofs.Qxb6619648a
open Go.ChangeShapes Go.WideShapes Go.ChangeAt Go.RowKit
set_option maxRecDepth 100000 in
set_option maxHeartbeats 2000000 in
theorem law_any (kv v : Value) (K : List ByteArray) (m : Nat) (dv : Nat → Value) (dl : Nat → List ByteArray) (w : World) (hk : SV w kv K) (h : LV w v m dv dl) (hkl : K.length ≤ 9223372036854775807) (hl : ∀ i, (dl i).length ≤ 9223372036854775807) :
    Calls Try.prog 3 #[kv, v] w fun e w' => e = .returned (.bool true) ∧ Below w.heap.size w w' := by
  have C4 := bytesAll kv v K m dv dl w hk h
  have C5 := small kv v K m dv dl w hk h hkl hl
  have HK : Hid (SV w kv K) := hk
  have HL : Hid (LV w v m dv dl) := h
  clear hk h hkl hl
  go_enter Try.func3, Try.ntmps3
  go_wp2_with fail
  refine C4.mono ?_
  rintro e w1 ⟨⟨b4, rfl, _⟩, rfl⟩
  cases b4
  · go_wp2
    go_ret
    exact ⟨rfl, Below.refl _ _⟩
  go_wp2_with fail
  refine C5.mono ?_
  rintro e w1 ⟨⟨b5, rfl, hb5⟩, rfl⟩
  cases b5
  · go_wp2
    go_ret
    exact ⟨rfl, Below.refl _ _⟩
  obtain ⟨hkl, hml, hdl0⟩ := hb5 rfl
  have HDL : Hid (∀ i, (dl i).length ≤ 256) := dl_all HL.out hdl0
  clear hdl0 hb5 C4 C5
  have C6 := build_any kv v K m dv dl w1 HK.out HL.out hkl
  go_wp2_with fail
  refine C6.mono ?_
  rintro e w2 ⟨mv, rfl, hb2, hbm⟩
  clear C6
  have C8 := newh_any mv K dv dl w2 hbm (fun i => (HL.out.2.2 i).below hb2 (Nat.le_refl _)) hkl HDL.out
  clear hbm
  have B2 : Hid (Below w1.heap.size w1 w2) := hb2
  clear hb2
  go_wp2_with fail
  refine C8.mono ?_
  rintro e w3 ⟨q, F, rfl, hb3, hgot⟩
  clear C8
  have C7 := implied q w3
  have B3 : Hid (Below w1.heap.size w1 w3) := B2.out.trans (hb3.mono B2.out.size)
  clear hb3 B2
  have HG3 : Hid (Got w3 q F K dv dl) := hgot
  clear hgot
  go_wp2_with fail
  refine C7.mono ?_
  rintro e w4 ⟨rfl, hb4⟩
  clear C7
  have B4 : Hid (Below w1.heap.size w1 w4) := B3.out.trans (hb4.mono B3.out.size)
  have HG4 : Hid (Got w4 q F K dv dl) := HG3.out.below hb4 (Nat.le_refl _)
  clear hb4 B3 HG3
  have C9 := nodes_any kv v K m dv dl w4 (HK.out.below B4.out (Nat.le_refl _)) (HL.out.below B4.out (Nat.le_refl _)) hkl HDL.out
  go_wp2_with fail
  refine C9.mono ?_
  rintro e w5 ⟨nv, rfl, hna, hb5⟩
  clear C9
  have B5 : Hid (Below w1.heap.size w1 w5) := B4.out.trans (hb5.mono B4.out.size)
  have HG5 : Hid (Got w5 q F K dv dl) := HG4.out.below hb5 (Nat.le_refl _)
  have HI5 : Hid (MapIs w5 w4.heap.size (idxF 0 (nodesL K dl K.length))) := hna.1
  have HN5 : Hid (SV w5 nv (nodesL K dl K.length)) := hna.2.sv
  clear hb5 hna B4 HG4
  generalize w4.heap.size = r at HI5
  have hNl : (nodesL K dl K.length).length ≤ 70000 := by have := nodes_length K dl HDL.out K.length; omega
  have C10 := closure_any kv v nv K (nodesL K dl K.length) m r dv dl w5 (HK.out.below B5.out (Nat.le_refl _)) (HL.out.below B5.out (Nat.le_refl _)) HN5.out HI5.out hkl HDL.out hNl (nodes_nodup K dl _) (fun i hi => ⟨(mem_nodes K dl _ _).2 ⟨i, hi, .inl rfl⟩, fun y hy => (mem_nodes K dl _ _).2 ⟨i, hi, .inr hy⟩⟩)
  go_wp2_with fail
  refine C10.mono ?_
  rintro e w6 ⟨rfl, hb6, M, hem, hmat⟩
  clear C10
  have B6 : Hid (Below w1.heap.size w1 w6) := B5.out.trans (hb6.mono B5.out.size)
  have HLaid : Hid (Laid w6 kv nv K dv dl q F r w5.heap.size M) := ⟨HK.out.below B6.out (Nat.le_refl _), HN5.out.below hb6 (Nat.le_refl _), mapIs_below HI5.out hb6 (mapIs_lt HI5.out), HG5.out.below hb6 (Nat.le_refl _), hem, hmat⟩
  clear hb6 hem hmat B5 HG5 HI5 HN5 HL HK
  generalize w5.heap.size = p at HLaid ⊢
  clear HDL hml
  obtain ⟨a, cap, ekv, _, _⟩ := HLaid.out.1
  subst ekv
  obtain ⟨na, ncap, env, _, _⟩ := HLaid.out.2.1
  subst env
  generalize hNN : nodesL K dl K.length = N at hNl HLaid ⊢
  go_wp2
  go_loopw [10, 11] (fun d i wr => ∃ (k c : Nat), k ≤ K.length ∧ c ≤ k ∧ d = .int .i64 c ∧ i = .int .i64 k ∧ Below w6.heap.size w6 wr ∧ CntD K k c) (fun _ i _ => K.length - (intOf i).toNat)
  case atStart => exact ⟨0, 0, Nat.zero_le _, Nat.zero_le _, rfl, rfl, Below.refl _ _, CntD_start K⟩
  case round =>
    obtain ⟨k, c, hk, hck, rfl, rfl, hbel, hcnt⟩ := hrel
    have HB : Hid (Below w6.heap.size w6 wr) := hbel
    have HC : Hid (CntD K k c) := hcnt
    clear hbel hcnt
    by_cases hlt : k < K.length
    · have hne : K ≠ [] := by intro e; rw [e] at hlt; simp at hlt
      have SVK : Hid (SV wr (.slice a K.length cap) K) := (HLaid.out.below HB.out (Nat.le_refl _)).1
      obtain ⟨_, _, ea, _, hcs⟩ := SVK.out
      obtain ⟨b, o, e2, hbl, hc⟩ := hcs hne
      cases ea
      cases e2
      have q0 := hc k hlt
      have hbk : (k : Int) < (K.length : Int) := by omega
      clear hcs hc
      generalize hs : nth K k = s at q0
      have HS : Hid (nth K k = s) := hs
      clear hs
      by_cases hL : Last K k
      · have LI := last_yes _ K k s wr SVK.out hkl hlt HS.out hL
        have HC2 : Hid (CntD K (k + 1) (c + 1)) := CntD_step HC.out hlt hL
        clear hL
        obtain ⟨rk, L, hg, hmr, hLn, hLR⟩ := HLaid.out.2.2.2.1.get hlt
        obtain ⟨_, hmq, _⟩ := (HLaid.out.below HB.out (Nat.le_refl _)).2.2.2.1
        have hlk := run_lookup2 s Try.underlying27 (zero38 wr) hmq
        rw [HS.out] at hg
        rw [hg] at hlk
        have hlk' : (Instr.lookup 27 (.map (some q)) (.string s) true).run Try.prog wr = .ok (.tuple #[.map (some rk), .bool true]) wr := hlk
        have heq := eql_map (some rk) wr
        obtain ⟨a0, ha0, e0⟩ := mem_nth (show nth K k ∈ N by rw [← hNN]; exact (mem_nodes K dl _ _).2 ⟨k, hlt, .inl rfl⟩)
        have hlaid := HLaid.out
        unfold Laid at hlaid
        rw [hNN] at hlaid
        obtain ⟨_, hsvN, hidx, _, hem, hmat⟩ := hlaid
        have hnd : N.Nodup := by rw [← hNN]; exact nodes_nodup K dl _
        have hlk3 := idx_lookup (mapIs_below hidx HB.out (mapIs_lt hidx)) hnd ha0 (e0.trans HS.out)
        have hrow := (hmat.below HB.out hmat.1).2.1 a0 ha0
        have haN : (a0 : Int) < (N.length : Int) := by omega
        have HMat : Hid (Mat w6 p N.length (Tb M N.length)) := hmat
        have HRk : Hid (MapIs w6 rk (setL L)) := hmr
        have HNd : Hid N.Nodup := hnd
        have HLN : Hid L.Nodup := hLn
        have HSN : Hid (SV w6 (.slice na N.length ncap) N) := hsvN
        have HR : Hid (∀ y, y ∈ L ↔ ∃ b, b < N.length ∧ nth N b = y ∧ Tb M N.length a0 b = true) := fun y => by
          subst hNN
          rw [hLR, ← e0]
          exact row_reach hem ha0 y
        clear hlk hg hmr hLn hLR hmq e0 hsvN hidx hem hmat hnd
        go_wp2_with (go_at_call 11; refine LI.mono ?_; rintro e w2 ⟨rfl, rfl⟩)
        clear hlk' hlk3 heq LI hrow
        go_loopw [15, 16] (fun d i w' => ∃ (j c : Nat), j ≤ N.length ∧ c ≤ j ∧ d = .int .i64 c ∧ i = .int .i64 j ∧ Below w6.heap.size w6 w' ∧ CntR N (Tb M N.length a0) j c) (fun _ i _ => N.length - (intOf i).toNat)
        case atStart => exact ⟨0, 0, Nat.zero_le _, Nat.zero_le _, rfl, rfl, HB.out, CntR_start N _⟩
        case round =>
          obtain ⟨j, c', hj, hcj, rfl, rfl, hbel, hcnt⟩ := hrel
          have HB2 : Hid (Below w6.heap.size w6 wr) := hbel
          have HC3 : Hid (CntR N (Tb M N.length a0) j c') := hcnt
          clear hbel hcnt
          by_cases hlt2 : j < N.length
          · obtain ⟨_, _, ea, _, hcs⟩ := HSN.out.below HB2.out (Nat.le_refl _)
            obtain ⟨b2, o2, e2, hbl2, hc⟩ := hcs (by intro e; rw [e] at hlt2; simp at hlt2)
            cases ea
            cases e2
            have q2 := hc j hlt2
            have hbj : (j : Int) < (N.length : Int) := by omega
            clear hcs hc
            obtain ⟨hcell, _⟩ := (HMat.out.below HB2.out HMat.out.1).2.2 a0 j ha0 hlt2
            have hmr := mapIs_below HRk.out HB2.out (mapIs_lt HRk.out)
            generalize hy : nth N j = y at q2
            have hlk := run_lookup y Try.underlying38 (zero4 wr) hmr
            cases hT : Tb M N.length a0 j with
            | false =>
              rw [hT] at hcell
              have HC4 : Hid (CntR N (Tb M N.length a0) (j + 1) c') := CntR_skip HC3.out hT
              clear hlk hmr hy hT
              go_wp2
              go_roundw
              case rel => exact ⟨j + 1, c', by omega, by omega, rfl, by go_num, HB2.out, HC4.out⟩
              case measure => simp [intOf]; omega
            | true =>
              rw [hT] at hcell
              rw [setL_get L y ((HR.out y).2 ⟨j, hlt2, hy, hT⟩)] at hlk
              have HC4 : Hid (CntR N (Tb M N.length a0) (j + 1) (c' + 1)) := CntR_step HC3.out HNd.out hlt2 hT
              clear hmr hy hT
              go_wp2
              go_roundw
              case rel => exact ⟨j + 1, c' + 1, by omega, by omega, by go_num, by go_num, HB2.out, HC4.out⟩
              case measure => simp [intOf]; omega
          · have ej : j = N.length := by omega
            have hc := HC3.out
            rw [ej] at hc
            have hce := CntR_end hc HLN.out HR.out
            have hln := len_map Try.underlying38 (mapIs_below HRk.out HB2.out (mapIs_lt HRk.out))
            rw [setL_length, ← hce] at hln
            clear hc hce
            go_wp2
            go_roundw
            case rel => exact ⟨k + 1, c + 1, by omega, by omega, by go_num, by go_num, HB2.out, HC2.out⟩
            case measure => simp [intOf]; omega
      · have LI := last_no _ K k s wr SVK.out hkl hlt HS.out hL
        have HC2 : Hid (CntD K (k + 1) c) := CntD_skip HC.out hL
        clear hL
        go_wp2_with (go_at_call 11; refine LI.mono ?_; rintro e w2 ⟨⟨jj, rfl, hj⟩, rfl⟩)
        go_roundw
        case rel => exact ⟨k + 1, c, by omega, by omega, rfl, by go_num, HB.out, HC2.out⟩
        case measure => simp [intOf]; omega
    · have ek : k = K.length := by omega
      have hc := HC.out
      rw [ek] at hc
      have hce := CntD_end hc dv
      obtain ⟨_, hmq, _, hFl, _, _⟩ := (HLaid.out.below HB.out (Nat.le_refl _)).2.2.2.1
      have hln := len_map Try.underlying27 hmq
      rw [hFl, ← hce] at hln
      have BE : Hid (Below w1.heap.size w1 wr) := B6.out.trans (HB.out.mono B6.out.size)
      clear hc hce hmq hFl
      go_wp2
      go_ret
      exact ⟨rfl, BE.out⟩
end Go.Proofs.Qxb6619648a
