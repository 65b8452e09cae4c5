import Derived.Test.Qxb6619648aWarshall
import Derived.Deep.DeepCutAuto
namespace Go.Proofs.Qxb6619648a
open Go.ChangeShapes Go.WideShapes Go.ChangeAt Go.RowKit
/-- i is the last place of its key. -/
def Last (K : List ByteArray) (i : Nat) : Prop := ∀ u, i < u → u < K.length → nth K u ≠ nth K i
def Ek (K : List ByteArray) (dl : Nat → List ByteArray) (N : List ByteArray) (k a b : Nat) : Prop := ∃ i, i < k ∧ Last K i ∧ nth N a = nth K i ∧ nth N b ∈ dl i
def EM (K : List ByteArray) (dl : Nat → List ByteArray) (N : List ByteArray) (k : Nat) (M : Nat → Nat → Bool) : Prop := ∀ a b, a < N.length → b < N.length → (M a b = true ↔ Ek K dl N k a b)
theorem take_nth {l : List ByteArray} {j : Nat} (h : j < l.length) : l.take (j + 1) = l.take j ++ [nth l j] := by
  rw [List.take_succ_eq_append_getElem h, nth_eq h]
theorem idx_lookup {w : World} {r : Nat} {N : List ByteArray} {s : ByteArray} (h : MapIs w r (idxF 0 N)) (hn : N.Nodup) {j : Nat} (hj : j < N.length) (hs : nth N j = s) :
    (Instr.lookup 32 (.map (some r)) (.string s) false).run Try.prog w = .ok (.int .i64 (j : Int)) w := by
  have hl := run_lookup s Try.underlying32 (zero3 w) h
  rw [← hs, idx_some N 0 j hn hj] at hl
  rw [← hs, hl]
  simp
theorem last_yes (v : Value) (K : List ByteArray) (i : Nat) (s : ByteArray) (w : World) (h : SV w v K) (hl : K.length ≤ 256) (hi : i < K.length) (hs : nth K i = s) (hL : Last K i) :
    Calls Try.prog 11 #[v, .string s] w fun e w' => e = .returned (.int .i64 (i : Int)) ∧ w' = w :=
  (lastIndex v K s w h hl).mono fun e w' ⟨⟨j, he, hj⟩, hw⟩ => ⟨by
    rw [he]
    rcases hj with ⟨_, h2⟩ | ⟨t, rfl, ht, h2, h3⟩
    · exact absurd hs (h2 i hi)
    · have e : t = i := by
        rcases Nat.lt_trichotomy t i with g | g | g
        · exact absurd hs (h3 i g hi)
        · exact g
        · exact absurd (by rw [h2, hs]) (hL t g ht)
      rw [e], hw⟩
theorem last_no (v : Value) (K : List ByteArray) (i : Nat) (s : ByteArray) (w : World) (h : SV w v K) (hl : K.length ≤ 256) (hi : i < K.length) (hs : nth K i = s) (hL : ¬ Last K i) :
    Calls Try.prog 11 #[v, .string s] w fun e w' => (∃ j : Int, e = .returned (.int .i64 j) ∧ (j != (i : Int)) = true) ∧ w' = w :=
  (lastIndex v K s w h hl).mono fun e w' ⟨⟨j, he, hj⟩, hw⟩ => ⟨⟨j, he, by
    rcases hj with ⟨_, h2⟩ | ⟨t, rfl, ht, h2, h3⟩
    · exact absurd hs (h2 i hi)
    · have e : t ≠ i := by
        intro e
        subst e
        apply hL
        intro u h4 h5
        rw [hs]; exact h3 u h4 h5
      simp; omega⟩, hw⟩
theorem EM_skip {K : List ByteArray} {dl : Nat → List ByteArray} {N : List ByteArray} {k : Nat} {M : Nat → Nat → Bool} (h : EM K dl N k M) (hL : ¬ Last K k) : EM K dl N (k + 1) M := fun a b ha hb => by
  rw [h a b ha hb]
  constructor
  · rintro ⟨i, hi, r⟩; exact ⟨i, by omega, r⟩
  · rintro ⟨i, hi, r⟩
    by_cases e : i = k
    · subst e; exact absurd r.1 hL
    · exact ⟨i, by omega, r⟩
/-- Inside the key k: the first j of its list are marked. -/
def EJ (K : List ByteArray) (dl : Nat → List ByteArray) (N : List ByteArray) (k j : Nat) (M : Nat → Nat → Bool) : Prop :=
  ∀ a b, a < N.length → b < N.length → (M a b = true ↔ Ek K dl N k a b ∨ (nth N a = nth K k ∧ nth N b ∈ (dl k).take j))
theorem nth_inj {N : List ByteArray} (h : N.Nodup) {a b : Nat} (ha : a < N.length) (hb : b < N.length) (e : nth N a = nth N b) : a = b := by
  rw [nth_eq ha, nth_eq hb] at e
  have hp := List.pairwise_iff_getElem.1 h
  rcases Nat.lt_trichotomy a b with g | g | g
  · exact absurd e (hp a b ha hb g)
  · exact g
  · exact absurd e.symm (hp b a hb ha g)
theorem EJ_step {K : List ByteArray} {dl : Nat → List ByteArray} {N : List ByteArray} {k j : Nat} {M : Nat → Nat → Bool} (h : EJ K dl N k j M) (hn : N.Nodup) {a0 b0 : Nat} (ha : a0 < N.length) (hb : b0 < N.length)
    (e1 : nth N a0 = nth K k) (hj : j < (dl k).length) (e2 : nth N b0 = nth (dl k) j) : EJ K dl N k (j + 1) (setM M a0 b0) := fun a b ha' hb' => by
  rw [take_nth hj]
  unfold setM
  by_cases e : a = a0 ∧ b = b0
  · obtain ⟨rfl, rfl⟩ := e
    rw [if_pos ⟨rfl, rfl⟩]
    exact ⟨fun _ => .inr ⟨e1, by rw [e2]; simp⟩, fun _ => rfl⟩
  · rw [if_neg e, h a b ha' hb']
    constructor
    · rintro (g | ⟨g1, g2⟩)
      · exact .inl g
      · exact .inr ⟨g1, by simp [g2]⟩
    · rintro (g | ⟨g1, g2⟩)
      · exact .inl g
      · rcases List.mem_append.1 g2 with g2 | g2
        · exact .inr ⟨g1, g2⟩
        · have g3 : nth N b = nth (dl k) j := by simpa using g2
          exact absurd ⟨nth_inj hn ha' ha (by rw [g1, e1]), nth_inj hn hb' hb (by rw [g3, e2])⟩ e
theorem EJ_start {K : List ByteArray} {dl : Nat → List ByteArray} {N : List ByteArray} {k : Nat} {M : Nat → Nat → Bool} (h : EM K dl N k M) : EJ K dl N k 0 M := fun a b ha hb => by
  rw [h a b ha hb]; simp
theorem EJ_end {K : List ByteArray} {dl : Nat → List ByteArray} {N : List ByteArray} {k : Nat} {M : Nat → Nat → Bool} (h : EJ K dl N k (dl k).length M) (hL : Last K k) : EM K dl N (k + 1) M := fun a b ha hb => by
  rw [h a b ha hb, List.take_of_length_le (Nat.le_refl _)]
  constructor
  · rintro (⟨i, hi, r⟩ | ⟨g1, g2⟩)
    · exact ⟨i, by omega, r⟩
    · exact ⟨k, by omega, hL, g1, g2⟩
  · rintro ⟨i, hi, r⟩
    by_cases e : i = k
    · subst e; exact .inr ⟨r.2.1, r.2.2⟩
    · exact .inl ⟨i, by omega, r⟩

set_option maxRecDepth 100000 in
set_option maxHeartbeats 4000000 in
theorem closure_any (kv v nv : Value) (K N : List ByteArray) (m r : Nat) (dv : Nat → Value) (dl : Nat → List ByteArray) (w : World) (hk : SV w kv K) (h : LV w v m dv dl) (hnv : SV w nv N) (hr : MapIs w r (idxF 0 N))
    (hl : K.length ≤ 256) (hd : ∀ i, (dl i).length ≤ 256) (hN : N.length ≤ 70000) (hnd : N.Nodup) (hin : ∀ i, i < K.length → nth K i ∈ N ∧ ∀ y ∈ dl i, y ∈ N) :
    Calls Try.prog 10 #[kv, v, nv, .map (some r)] w fun e w' => e = .returned (.slice (some ⟨w.heap.size, 0, none⟩) N.length N.length) ∧ Below w.heap.size w w' ∧ ∃ M, EM K dl N K.length M ∧ Mat w' w.heap.size N.length (Tb M N.length) := by
  have HL : Hid (LV w v m dv dl) := h
  have HK : Hid (SV w kv K) := hk
  have HR : Hid (MapIs w r (idxF 0 N)) := hr
  have HND : Hid N.Nodup := hnd
  have HIN : Hid (∀ i, i < K.length → nth K i ∈ N ∧ ∀ y ∈ dl i, y ∈ N) := hin
  have HD : Hid (∀ i, (dl i).length ≤ 256) := hd
  obtain ⟨a, cap, rfl, _, _⟩ := hk
  obtain ⟨a9, cap9, rfl, _, _⟩ := hnv
  clear h hr hnd hin hd
  have hmk := make35 N.length (by omega) w
  have hm40 := make40 N.length (by omega)
  go_enter Try.func10, Try.ntmps10
  go_wp2
  go_loopw [11] (fun i wr => ∃ k : Nat, k ≤ N.length ∧ i = .int .i64 k ∧ Below w.heap.size w wr ∧ PMat wr w.heap.size N.length k) (fun i _ => N.length - (intOf i).toNat)
  case atStart => exact ⟨0, Nat.zero_le _, rfl, (Below.refl _ _).alloc (Nat.le_refl _) _, pmat_start w _⟩
  case round =>
    obtain ⟨k, hk, rfl, hbel, hp⟩ := hrel
    have HB : Hid (Below w.heap.size w wr) := hbel
    have HP : Hid (PMat wr w.heap.size N.length k) := hp
    clear hbel hp hmk
    by_cases hlt : k < N.length
    · obtain ⟨⟨v1, hv1⟩, hf1⟩ := HP.out.2.1 k hlt
      have hsz := HP.out.1
      have hz1 : w.heap.size < wr.heap.size := by omega
      have hne : ¬ w.heap.size = wr.heap.size := by omega
      have hb : (k : Int) < (N.length : Int) := by omega
      clear hsz
      go_wp2
      go_roundw
      case rel =>
        have hp := pmat_step HP.out hlt
        rw [World.setCell_alloc_past (hn := hz1)] at hp
        exact ⟨k + 1, by omega, by go_num, (HB.out.setCell (p := ⟨w.heap.size, k, none⟩) (Nat.le_refl _) _).alloc (by simp; omega) _, hp⟩
      case measure => simp [intOf]; omega
    · have ek : k = N.length := by omega
      have hm := HP.out
      rw [ek] at hm
      have HM : Hid (Mat wr w.heap.size N.length (fun _ _ => false)) := pmat_end hm
      clear hm ek HP hm40
      have Hb0 : Hid (Below w.heap.size w wr) := HB.out
      go_wp2
      clear HB
      go_loopw [12] (fun i w1 => ∃ (k : Nat) (M : Nat → Nat → Bool), k ≤ K.length ∧ i = .int .i64 k ∧ Below w.heap.size w w1 ∧ Mat w1 w.heap.size N.length M ∧ EM K dl N k M) (fun i _ => K.length - (intOf i).toNat)
      case atStart => exact ⟨0, _, Nat.zero_le _, rfl, Hb0.out, HM.out, fun a b _ _ => ⟨fun h => (by simp at h), fun ⟨i, hi, _⟩ => by omega⟩⟩
      case round =>
        obtain ⟨k1, M, hk1, rfl, hbel, hmat, hem⟩ := hrel
        have HB : Hid (Below w.heap.size w wr) := hbel
        have HM1 : Hid (Mat wr w.heap.size N.length M) := hmat
        have HE : Hid (EM K dl N k1 M) := hem
        clear hbel hmat hem HM Hb0
        by_cases hlt1 : k1 < K.length
        · have hne : K ≠ [] := by intro e; rw [e] at hlt1; simp at hlt1
          obtain ⟨_, _, ea, _, hcs⟩ := HK.out
          obtain ⟨b, o, e2, hbl, hc⟩ := hcs hne
          cases ea
          cases e2
          have q0 := hc k1 hlt1
          have q := HB.out.cell (p := ⟨b, o + k1, none⟩) hbl
          rw [q0] at q
          have hb : (k1 : Int) < (K.length : Int) := by omega
          have SVK : Hid (SV wr (.slice (some ⟨b, o, none⟩) K.length cap) K) := HK.out.below HB.out (Nat.le_refl _)
          clear hcs hc q0
          generalize hs : nth K k1 = s at q
          have HS : Hid (nth K k1 = s) := hs
          clear hs
          by_cases hL : Last K k1
          · have LI := last_yes _ K k1 s wr SVK.out hl hlt1 HS.out hL
            have HLast : Hid (Last K k1) := hL
            have LA := listAt v m dv dl k1 wr (HL.out.below HB.out (Nat.le_refl _))
            obtain ⟨_, _, hsv⟩ := HL.out
            have hsvk := hsv k1
            obtain ⟨a0, ha0, e0⟩ := mem_nth (HIN.out k1 hlt1).1
            rw [HS.out] at e0
            have hrw : MapIs wr r (idxF 0 N) := mapIs_below HR.out HB.out (mapIs_lt HR.out)
            have hlk := idx_lookup hrw HND.out ha0 e0
            have E0 : Hid (nth N a0 = nth K k1) := by show _ = _; rw [e0, HS.out]
            have HJ0 : Hid (EJ K dl N k1 0 M) := EJ_start HE.out
            have hld := HD.out k1
            clear hsv hL hrw e0
            generalize hdv : dv k1 = x at LA hsvk
            obtain ⟨a3, c3, e3, h30, h31⟩ := hsvk
            subst e3
            clear hdv
            go_wp2_with (first | (go_at_call 11; refine LI.mono ?_; rintro e w2 ⟨rfl, rfl⟩) | (go_at_call 15; refine LA.mono ?_; rintro e w2 ⟨rfl, rfl⟩))
            go_loopw [15] (fun t w' => ∃ (j : Nat) (M : Nat → Nat → Bool), j ≤ (dl k1).length ∧ t = .int .i64 j ∧ Below w.heap.size w w' ∧ Mat w' w.heap.size N.length M ∧ EJ K dl N k1 j M) (fun t _ => (dl k1).length - (intOf t).toNat)
            case atStart => exact ⟨0, M, Nat.zero_le _, rfl, HB.out, HM1.out, HJ0.out⟩
            case round =>
              obtain ⟨j, M2, hj, rfl, hbel, hmat, hej⟩ := hrel
              have HB3 : Hid (Below w.heap.size w wr) := hbel
              have HM3 : Hid (Mat wr w.heap.size N.length M2) := hmat
              have HE3 : Hid (EJ K dl N k1 j M2) := hej
              clear hbel hmat hej
              by_cases hlt2 : j < (dl k1).length
              · obtain ⟨b2, o2, e4, hbl2, hc2⟩ := h31 (by intro e; rw [e] at hlt2; simp at hlt2)
                subst e4
                have p0 := hc2 j hlt2
                have p := HB3.out.cell (p := ⟨b2, o2 + j, none⟩) hbl2
                rw [p0] at p
                obtain ⟨b0, hb0, e5⟩ := mem_nth ((HIN.out k1 hlt1).2 _ (nth_mem hlt2))
                have HE5 : Hid (EJ K dl N k1 (j + 1) (setM M2 a0 b0)) := EJ_step HE3.out HND.out ha0 hb0 E0.out hlt2 e5
                have hrw : MapIs wr.drew r (idxF 0 N) := mapIs_below HR.out (below_drewI HB3.out) (mapIs_lt HR.out)
                have hlk2 := idx_lookup hrw HND.out hb0 e5
                have hrowp := HM3.out.2.1 a0 ha0
                obtain ⟨hcell, hfz⟩ := HM3.out.2.2 a0 b0 ha0 hb0
                have hjb : (j : Int) < ((dl k1).length : Int) := by omega
                have haN : (a0 : Int) < (N.length : Int) := by omega
                have hbN : (b0 : Int) < (N.length : Int) := by omega
                have d1 : ¬ w.heap.size + 1 + a0 = w.heap.size := by omega
                have d2 : ¬ w.heap.size + 1 + a0 = b2 := by omega
                clear hc2 p0 hrw hlk
                generalize nth (dl k1) j = y at p hlk2
                go_wp2
                go_region_held (fun w' => w'.cell? ⟨w.heap.size, a0, none⟩ = some (.slice (some ⟨w.heap.size + 1 + a0, 0, none⟩) N.length N.length) ∧ w'.cell? ⟨b2, o2 + j, none⟩ = some (.string y)) (go_keep) (fail)
                go_wp2
                go_roundw
                case rel => exact ⟨j + 1, setM M2 a0 b0, by omega, by go_num, below_drewI (HB3.out.setCell (p := ⟨w.heap.size + 1 + a0, b0, none⟩) (by show w.heap.size ≤ w.heap.size + 1 + a0; omega) _), HM3.out.set ha0 hb0, HE5.out⟩
                case measure => simp [intOf]; omega
              · have ej : j = (dl k1).length := by omega
                have he := HE3.out
                rw [ej] at he
                have HE4 : Hid (EM K dl N (k1 + 1) M2) := EJ_end he HLast.out
                clear ej he
                go_wp2
                go_roundw
                case rel => exact ⟨k1 + 1, M2, by omega, by go_num, HB3.out, HM3.out, HE4.out⟩
                case measure => simp [intOf]; omega
          · have LI := last_no _ K k1 s wr SVK.out hl hlt1 HS.out hL
            have HE2 : Hid (EM K dl N (k1 + 1) M) := EM_skip HE.out hL
            clear hL
            go_wp2_with (go_at_call 11; refine LI.mono ?_; rintro e w2 ⟨⟨jj, rfl, hj⟩, rfl⟩)
            go_roundw
            case rel => exact ⟨k1 + 1, M, by omega, by go_num, HB.out, HM1.out, HE2.out⟩
            case measure => simp [intOf]; omega
        · have ek : k1 = K.length := by omega
          have he := HE.out
          rw [ek] at he
          have HEM : Hid (EM K dl N K.length M) := he
          clear ek he HE
          go_wp2
          go_loopw [16] (fun t w' => ∃ t' : Nat, t' ≤ N.length ∧ t = .int .i64 t' ∧ Below w.heap.size w w' ∧ Mat w' w.heap.size N.length (Tb M t')) (fun t _ => N.length - (intOf t).toNat)
          case atStart => exact ⟨0, Nat.zero_le _, rfl, HB.out, HM1.out⟩
          case round =>
            obtain ⟨mm, hmm, rfl, hbel, hmat⟩ := hrel
            have HB4 : Hid (Below w.heap.size w wr) := hbel
            have HM4 : Hid (Mat wr w.heap.size N.length (Tb M mm)) := hmat
            clear hbel hmat
            by_cases hlt4 : mm < N.length
            · have HM4' : Hid (Mat wr w.heap.size N.length (mix M mm 0 0)) := HM4.out.congr fun i j _ _ => mix_start M mm i j
              go_wp2
              go_loopw [17] (fun t w' => ∃ a' : Nat, a' ≤ N.length ∧ t = .int .i64 a' ∧ Below w.heap.size w w' ∧ Mat w' w.heap.size N.length (mix M mm a' 0)) (fun t _ => N.length - (intOf t).toNat)
              case atStart => exact ⟨0, Nat.zero_le _, rfl, HB4.out, HM4'.out⟩
              case round =>
                obtain ⟨aa, haa, rfl, hbel, hmat⟩ := hrel
                have HB5 : Hid (Below w.heap.size w wr) := hbel
                have HM5 : Hid (Mat wr w.heap.size N.length (mix M mm aa 0)) := hmat
                clear hbel hmat
                by_cases hlt5 : aa < N.length
                · have p1 := HM5.out.2.1 aa hlt5
                  have p2 := (HM5.out.2.2 aa mm hlt5 hlt4).1
                  rw [mix_here] at p2
                  have hb1 : (aa : Int) < (N.length : Int) := by omega
                  have hb2 : (mm : Int) < (N.length : Int) := by omega
                  cases hT : Tb M mm aa mm
                  · rw [hT] at p2
                    have HM6 : Hid (Mat wr w.heap.size N.length (mix M mm (aa + 1) 0)) := HM5.out.congr fun i j _ _ => mix_skip M mm aa i j hT
                    go_wp2
                    go_roundw
                    case rel => exact ⟨aa + 1, by omega, by go_num, HB5.out, HM6.out⟩
                    case measure => simp [intOf]; omega
                  · rw [hT] at p2
                    have HT : Hid (Tb M mm aa mm = true) := hT
                    clear hT
                    go_wp2
                    go_loopw [18] (fun t w' => ∃ b' : Nat, b' ≤ N.length ∧ t = .int .i64 b' ∧ Below w.heap.size w w' ∧ Mat w' w.heap.size N.length (mix M mm aa b')) (fun t _ => N.length - (intOf t).toNat)
                    case atStart => exact ⟨0, Nat.zero_le _, rfl, HB5.out, HM5.out⟩
                    case round =>
                      obtain ⟨bb, hbb, rfl, hbel, hmat⟩ := hrel
                      have HB6 : Hid (Below w.heap.size w wr) := hbel
                      have HM6 : Hid (Mat wr w.heap.size N.length (mix M mm aa bb)) := hmat
                      clear hbel hmat p1 p2
                      by_cases hlt6 : bb < N.length
                      · have p1 := HM6.out.2.1 mm hlt4
                        have p2 := (HM6.out.2.2 mm bb hlt4 hlt6).1
                        rw [mix_row] at p2
                        have p3 := HM6.out.2.1 aa hlt5
                        obtain ⟨p4, p5⟩ := HM6.out.2.2 aa bb hlt5 hlt6
                        have hb3 : (bb : Int) < (N.length : Int) := by omega
                        cases hT2 : Tb M mm mm bb
                        · rw [hT2] at p2
                          have HM7 : Hid (Mat wr w.heap.size N.length (mix M mm aa (bb + 1))) := HM6.out.congr fun i j _ _ => mix_no M mm aa bb i j hT2
                          clear p4
                          go_wp2
                          go_roundw
                          case rel => exact ⟨bb + 1, by omega, by go_num, HB6.out, HM7.out⟩
                          case measure => simp [intOf]; omega
                        · rw [hT2] at p2
                          have HM7 : Hid (Mat (wr.setCell ⟨w.heap.size + 1 + aa, bb, none⟩ (.bool true)) w.heap.size N.length (mix M mm aa (bb + 1))) := (HM6.out.set hlt5 hlt6).congr fun i j _ _ => mix_yes M mm aa bb i j HT.out hT2
                          generalize mix M mm aa bb aa bb = z at p4
                          go_wp2
                          go_roundw
                          case rel => exact ⟨bb + 1, by omega, by go_num, HB6.out.setCell (p := ⟨w.heap.size + 1 + aa, bb, none⟩) (by show w.heap.size ≤ w.heap.size + 1 + aa; omega) _, HM7.out⟩
                          case measure => simp [intOf]; omega
                      · have eb : bb = N.length := by omega
                        have HM7 : Hid (Mat wr w.heap.size N.length (mix M mm (aa + 1) 0)) := HM6.out.congr fun i j _ hj => by rw [eb]; exact mix_next M mm aa N.length i j hj
                        clear eb
                        go_wp2
                        go_roundw
                        case rel => exact ⟨aa + 1, by omega, by go_num, HB6.out, HM7.out⟩
                        case measure => simp [intOf]; omega
                · have ea : aa = N.length := by omega
                  have HM6 : Hid (Mat wr w.heap.size N.length (Tb M (mm + 1))) := HM5.out.congr fun i j hi _ => by rw [ea]; exact mix_end M mm N.length i j hi
                  clear ea
                  go_wp2
                  go_roundw
                  case rel => exact ⟨mm + 1, by omega, by go_num, HB5.out, HM6.out⟩
                  case measure => simp [intOf]; omega
            · have em : mm = N.length := by omega
              have hm := HM4.out
              rw [em] at hm
              have HM5 : Hid (Mat wr w.heap.size N.length (Tb M N.length)) := hm
              clear em hm HM4
              go_wp2
              go_ret
              exact ⟨rfl, HB4.out, M, HEM.out, HM5.out⟩
end Go.Proofs.Qxb6619648a
