import Derived.Test.Qxb6619648aWork
namespace Go.Proofs.Qxb6619648a
open Go.ChangeShapes Go.WideShapes Go.ChangeAt Go.RowKit
/-- What stands in memory for a hierarchy's table: each entry a map that is the set reached. -/
def Good (w : World) (H : Nat) (D : ByteArray → List ByteArray) (F : List (ByteArray × Value)) : Prop :=
  ∀ p ∈ F, ∃ rk L, p.2 = .map (some rk) ∧ H + 2 < rk ∧ MapIs w rk (setL L) ∧ L.Nodup ∧ ∀ y, y ∈ L ↔ R D p.1 y
theorem SOwn.split {w : World} {B : Nat} {v : Value} {P : List ByteArray} {x : ByteArray} (h : SOwn w B v (P ++ [x])) :
    ∃ g cap, v = .slice (some ⟨g, 0, none⟩) (P.length + 1) cap ∧ w.cell? ⟨g, P.length, none⟩ = some (.string x) ∧ P.length + 1 ≤ cap ∧ SOwn w B (.slice (some ⟨g, 0, none⟩) P.length cap) P ∧ B ≤ g := by
  have hsv := h.sv
  rcases h.2 with ⟨_, e⟩ | ⟨g, cap, cur, rfl, hB, hg, hn, _⟩
  · simp at e
  · have e : (P ++ [x]).length = P.length + 1 := by simp
    obtain ⟨a, c, e2, _, h3⟩ := hsv
    obtain ⟨b, o, e3, _, hc⟩ := h3 (by simp)
    subst e3
    simp only [Value.slice.injEq, Option.some.injEq, Addr.mk.injEq, and_true] at e2
    obtain ⟨⟨rfl, rfl⟩, _⟩ := e2
    have h4 := hc P.length (by simp)
    have e5 : nth (P ++ [x]) P.length = x := by unfold nth; simp
    rw [e5, Nat.zero_add] at h4
    rw [e] at h
    exact ⟨g, cap, by rw [e], h4, by rw [← e]; exact hn, h.pop, hB⟩
theorem getE_some {E : List (ByteArray × Value)} (hn : (E.map (·.1)).Nodup) : ∀ i (h : i < E.length), getE E E[i].1 = some E[i].2 := by
  induction E with
  | nil => intro i h; simp at h
  | cons p E ih =>
    have hn' := List.nodup_cons.1 (show (p.1 :: E.map (·.1)).Nodup from hn)
    intro i h
    cases i with
    | zero => exact if_pos rfl
    | succ i =>
      have hi : i < E.length := by simpa using h
      show (if E[i].1 = p.1 then some p.2 else getE E E[i].1) = some E[i].2
      rw [if_neg (fun e => hn'.1 (by rw [← e]; exact List.mem_map.2 ⟨E[i], List.getElem_mem hi, rfl⟩))]
      exact ih hn'.2 i hi
/-- The outer loop's invariant. -/
def OI (w wr : World) (r : Nat) (E F : List (ByteArray × Value)) (seen : Array Nat) (D : ByteArray → List ByteArray) : Prop :=
  Below w.heap.size w wr ∧ w.heap.size + 2 < wr.heap.size ∧ wr.heap[w.heap.size]? = some (.cells #[.map none] 30) ∧ MapIs wr (w.heap.size + 1) F ∧ wr.heap[w.heap.size + 1 + 1]? = some (iterO r E.length seen) ∧ Good wr w.heap.size D F ∧
    (F.map (·.1)).Nodup ∧ (∀ p ∈ F, p.1 ∈ E.map (·.1)) ∧ ∀ i (h : i < E.length), seen.contains i = true ↔ E[i].1 ∈ F.map (·.1)
theorem OI_start (w : World) (r : Nat) (E : List (ByteArray × Value)) (D : ByteArray → List ByteArray) :
    OI w (((w.alloc (.cells #[.map none] 30)).alloc (.map #[] 0)).alloc (iterO r E.length #[])) r E [] #[] D := by
  have s1 : (w.alloc (.cells #[.map none] 30)).heap.size = w.heap.size + 1 := by simp
  have s2 : ((w.alloc (.cells #[.map none] 30)).alloc (.map #[] 0)).heap.size = w.heap.size + 1 + 1 := by simp
  have h1 : (w.alloc (.cells #[.map none] 30)).heap[w.heap.size]? = some (.cells #[.map none] 30) := (MapKept.heap_alloc w _).1
  have h2 := mapIs_new (w.alloc (.cells #[.map none] 30))
  rw [s1] at h2
  have h3 := (MapKept.heap_alloc ((w.alloc (.cells #[.map none] 30)).alloc (.map #[] 0)) (iterO r E.length #[])).1
  rw [s2] at h3
  refine ⟨(((Below.refl _ w).alloc (Nat.le_refl _) _).alloc (by simp) _).alloc (by simp; omega) _, by simp, ?_, ?_, h3, fun p hp => by simp at hp, List.nodup_nil, fun p hp => by simp at hp, fun i h => by simp⟩
  · rw [(MapKept.heap_alloc _ _).2 _ (by rw [s2]; omega), (MapKept.heap_alloc _ _).2 _ (by rw [s1]; omega)]; exact h1
  · exact mapIs_below h2 ((Below.refl _ _).alloc (Nat.le_refl _) _) (by rw [s2]; omega)
theorem mem_keys {E : List (ByteArray × Value)} {k : ByteArray} (h : k ∈ E.map (·.1)) : ∃ i, ∃ hi : i < E.length, E[i].1 = k := by
  obtain ⟨p, hp, rfl⟩ := List.mem_map.1 h
  obtain ⟨i, hi, rfl⟩ := List.mem_iff_getElem.1 hp
  exact ⟨i, hi, rfl⟩
theorem OI_len {w wr : World} {r : Nat} {E F : List (ByteArray × Value)} {seen : Array Nat} {D : ByteArray → List ByteArray} (h : OI w wr r E F seen D) (hn : (E.map (·.1)).Nodup) (hall : ∀ i, i < E.length → seen.contains i = true) : F.length = E.length := by
  obtain ⟨_, _, _, _, _, _, hfn, hfe, hseen⟩ := h
  have h1 := nodup_le (F.map (·.1)) (E.map (·.1)) hfn (fun y hy => by
    obtain ⟨p, hp, rfl⟩ := List.mem_map.1 hy
    exact hfe p hp)
  have h2 := nodup_le (E.map (·.1)) (F.map (·.1)) hn (fun y hy => by
    obtain ⟨i, hi, rfl⟩ := mem_keys hy
    exact (hseen i hi).1 (hall i hi))
  simp at h1 h2
  omega
theorem next_world {w wr w1 : World} {H it : Nat} {o o' : Obj} (hal : w1 = wr ∨ w1 = wr.drew) (hb : Below H w wr) (hH : H ≤ it) (hit : wr.heap[it]? = some o') :
    Below H w (putB w1 it o) ∧ (putB w1 it o).heap.size = wr.heap.size ∧ (∀ k, k ≠ it → (putB w1 it o).heap[k]? = wr.heap[k]?) ∧ (putB w1 it o).heap[it]? = some o := by
  rcases hal with rfl | rfl
  · exact ⟨Below.putB hb hH _, putB_size _ _ _, fun k hk => putB_other _ _ hk, putB_same hit⟩
  · exact ⟨Below.putB (below_drewI hb) hH _, putB_size _ _ _, fun k hk => putB_other _ _ hk, putB_same (w := wr.drew) hit⟩
theorem key_inj {E : List (ByteArray × Value)} (hn : (E.map (·.1)).Nodup) {i j : Nat} (hi : i < E.length) (hj : j < E.length) (e : E[i].1 = E[j].1) : i = j := by
  have hp := List.pairwise_iff_getElem.1 hn
  have hi' : i < (E.map (·.1)).length := by simpa using hi
  have hj' : j < (E.map (·.1)).length := by simpa using hj
  have e' : (E.map (·.1))[i] = (E.map (·.1))[j] := by simpa using e
  rcases Nat.lt_trichotomy i j with g | g | g
  · exact absurd e' (hp i j hi' hj' g)
  · exact g
  · exact absurd e'.symm (hp j i hj' hi' g)
theorem OI_step {w wr W1 w5 : World} {r : Nat} {E F : List (ByteArray × Value)} {seen : Array Nat} {D : ByteArray → List ByteArray} (h : OI w wr r E F seen D) (hn : (E.map (·.1)).Nodup) {i : Nat} (hi : i < E.length) (hsi : seen.contains i = false) {k : ByteArray} (hk : E[i].1 = k)
    (b1 : Below w.heap.size w W1) (s1 : W1.heap.size = wr.heap.size) (o1 : ∀ j, j ≠ w.heap.size + 1 + 1 → W1.heap[j]? = wr.heap[j]?) (i1 : W1.heap[w.heap.size + 1 + 1]? = some (iterO r E.length (seen.push i)))
    (b5 : Below wr.heap.size W1 w5) {L : List ByteArray} (m5 : MapIs w5 wr.heap.size (setL L)) (hL : L.Nodup) (hR : ∀ y, y ∈ L ↔ R D k y) :
    putE F k (.map (some wr.heap.size)) = F ++ [(k, .map (some wr.heap.size))] ∧ MapIs w5 (w.heap.size + 1) F ∧ OI w (putB w5 (w.heap.size + 1) (mapO (F ++ [(k, .map (some wr.heap.size))]))) r E (F ++ [(k, .map (some wr.heap.size))]) (seen.push i) D := by
  obtain ⟨hb, hsz, hcell, hmap, hit, hgood, hfn, hfe, hseen⟩ := h
  have hkF : k ∉ F.map (·.1) := fun e => by
    have := (hseen i hi).2 (by rw [hk]; exact e)
    rw [hsi] at this; cases this
  have hF5 : MapIs w5 (w.heap.size + 1) F := by
    unfold MapIs
    rw [b5.block _ (by omega), o1 _ (by omega)]; exact hmap
  have oth : ∀ j, j < wr.heap.size → j ≠ w.heap.size + 1 → (putB w5 (w.heap.size + 1) (mapO (F ++ [(k, .map (some wr.heap.size))]))).heap[j]? = W1.heap[j]? := fun j h1 h2 => by
    rw [putB_other _ _ h2, b5.block j h1]
  refine ⟨put_new F k _ (fun p hp e => hkF (List.mem_map.2 ⟨p, hp, e⟩)), hF5, ?_, ?_, ?_, mapIs_put hF5, ?_, ?_, ?_, ?_, ?_⟩
  · exact Below.putB (b1.trans (b5.mono (by omega))) (by omega) _
  · rw [putB_size]; have := b5.size; omega
  · rw [oth _ (by omega) (by omega), o1 _ (by omega)]; exact hcell
  · rw [oth _ (by omega) (by omega)]; exact i1
  · intro p hp
    rcases List.mem_append.1 hp with hp | hp
    · obtain ⟨rk, L', e1, h1, h2, h3, h4⟩ := hgood p hp
      have hlt := mapIs_lt h2
      exact ⟨rk, L', e1, h1, by unfold MapIs; rw [oth rk hlt (by omega), o1 rk (by omega)]; exact h2, h3, h4⟩
    · have e : p = (k, .map (some wr.heap.size)) := by simpa using hp
      subst e
      exact ⟨wr.heap.size, L, rfl, by omega, mapIs_other m5 _ (by omega), hL, hR⟩
  · rw [List.map_append, List.nodup_append]
    exact ⟨hfn, by simp, by intro a ha b hb; simp at hb; subst hb; intro e; exact hkF (e ▸ ha)⟩
  · intro p hp
    rcases List.mem_append.1 hp with hp | hp
    · exact hfe p hp
    · have e : p = (k, .map (some wr.heap.size)) := by simpa using hp
      subst e
      exact List.mem_map.2 ⟨E[i], List.getElem_mem hi, hk⟩
  · intro j hj
    rw [contains_push, List.map_append, List.mem_append, ← hseen j hj]
    by_cases e : j = i
    · subst e; simp [hk]
    · have e2 : (j == i) = false := by simpa using e
      rw [e2, Bool.or_false]
      constructor
      · exact fun h => .inl h
      · rintro (h | h)
        · exact h
        · exact absurd (key_inj hn hj hi (by rw [hk]; simpa using h)) e
theorem len_map {t e r : TypeId} {w : World} {l : List (ByteArray × Value)} (ht : Try.prog.underlying t = some (.map 9 e)) (hm : MapIs w r l) : (Builtin.len_ #[t] 3 #[.map (some r)]).run Try.prog w = .ok (.int .i64 (l.length : Int)) w := by
  simp [Builtin.len_, run_underlying ht, MapKept.run_getObj_map hm, ents_length, goInt]
set_option maxRecDepth 100000 in
set_option maxHeartbeats 2000000 in
theorem newh_some (r : Nat) (E : List (ByteArray × Value)) (D : ByteArray → List ByteArray) (U : List ByteArray) (w : World) (hm : MapIs w r E) (hn : (E.map (·.1)).Nodup) (hd : ∀ k, SV w ((getE E k).getD (.slice none 0 0)) (D k))
    (hl : ∀ k, (D k).length ≤ 256) (hu : ∀ k y, y ∈ D k → y ∈ U) (hul : U.length ≤ 70000) :
    Calls Try.prog 8 #[.map (some r)] w fun e w' => ∃ q F, e = .returned (.agg #[.map (some q)]) ∧ Below w.heap.size w w' ∧ MapIs w' q F ∧ Good w' w.heap.size D F ∧ F.length = E.length ∧ (F.map (·.1)).Nodup ∧ ∀ p ∈ F, p.1 ∈ E.map (·.1) := by
  have HM : Hid (MapIs w r E) := hm
  have hrl := mapIs_lt hm
  clear hm
  have hmA : MapIs (w.alloc (.cells #[.map none] 30)) r E := mapIs_below HM.out ((Below.refl _ _).alloc (Nat.le_refl _) _) hrl
  have hln := len_map Try.underlying25 hmA
  have hmk := mk_map Try.underlying27 (E.length : Int) (w.alloc (.cells #[.map none] 30))
  have hmB : MapIs ((w.alloc (.cells #[.map none] 30)).alloc (.map #[] 0)) r E := mapIs_below hmA ((Below.refl _ _).alloc (Nat.le_refl _) _) (mapIs_lt hmA)
  have hrg := run_range hmB
  clear hmA hmB
  go_enter Try.func8, Try.ntmps8
  go_wp2
  go_loopw [4] (fun _ wr => ∃ F seen, OI w wr r E F seen D) (fun _ wr => E.length - mapSize wr (w.heap.size + 1))
  case atStart => exact ⟨[], #[], OI_start w r E D⟩
  case round =>
    obtain ⟨F, seen, hoi⟩ := hrel
    have HO : Hid (OI w wr r E F seen D) := hoi
    obtain ⟨hb, hsz, hcell, hmap, hit, hgood, hfn, hfe, hseen⟩ := hoi
    have hmr : MapIs wr r E := mapIs_below HM.out hb hrl
    rcases run_next 0 hmr hit with ⟨hall, hnx⟩ | ⟨i, hi, hsi, w1, hal, hnx⟩
    · have hc0 : wr.cell? ⟨w.heap.size, 0, none⟩ = some (.map none) := by simp [World.cell?, hcell]
      have hf0 : wr.frozen? ⟨w.heap.size, 0, none⟩ = false := by simp [World.frozen?, hcell]
      have hlen : F.length = E.length := OI_len HO.out hn hall
      have HLn : Hid (F.length = E.length) := hlen
      clear hb hsz hcell hmap hit hgood hfn hfe hseen hmr hall hlen hln hmk hrg hd hl hu
      go_wp2
      refine bodyPost_ret (v := .agg #[.map (some (w.heap.size + 1))]) (by simp [results, Try.results8, go_sem, hc0]) rfl ⟨w.heap.size + 1, F, rfl, ?_, ?_, ?_, HLn.out, ?_, ?_⟩
      · exact HO.out.1.setCell (p := ⟨w.heap.size, 0, none⟩) (Nat.le_refl _) _
      · unfold MapIs; rw [Below.heap_setCell _ _ _ _ (by show w.heap.size + 1 ≠ w.heap.size; omega)]; exact HO.out.2.2.2.1
      · intro p hp
        obtain ⟨rk, L, e1, h1, h2, h3, h4⟩ := HO.out.2.2.2.2.2.1 p hp
        exact ⟨rk, L, e1, h1, by unfold MapIs; rw [Below.heap_setCell _ _ _ _ (by show rk ≠ w.heap.size; omega)]; exact h2, h3, h4⟩
      · exact HO.out.2.2.2.2.2.2.1
      · exact HO.out.2.2.2.2.2.2.2.1
    · obtain ⟨b1, s1, o1, i1⟩ := next_world (o := iterO r E.length (seen.push i)) hal hb (by omega) hit
      generalize putB w1 (w.heap.size + 1 + 1) (iterO r E.length (seen.push i)) = W1 at b1 s1 o1 i1 hnx
      have hmW1 : MapIs W1 r E := mapIs_below HM.out b1 hrl
      have hent := run_entry hi hmW1 i1
      have hg := getE_some hn i hi
      have hdk := hd E[i].1
      rw [hg] at hdk
      have hdk' : SV w E[i].2 (D E[i].1) := hdk
      generalize hkk : E[i].1 = k at hnx hent hg hdk'
      generalize hxx : E[i].2 = x at hnx hent hg hdk'
      obtain ⟨rb, hrb⟩ : ∃ rb, wr.heap.size = rb := ⟨_, rfl⟩
      have HST : Hid (∀ w5 L, Below rb W1 w5 → MapIs w5 rb (setL L) → L.Nodup → (∀ y, y ∈ L ↔ R D k y) → putE F k (.map (some rb)) = F ++ [(k, .map (some rb))] ∧ MapIs w5 (w.heap.size + 1) F ∧ OI w (putB w5 (w.heap.size + 1) (mapO (F ++ [(k, .map (some rb))]))) r E (F ++ [(k, .map (some rb))]) (seen.push i) D) := by
        intro w5 L b5 m5 hL hR
        have h1 := OI_step (w5 := w5) (L := L) HO.out hn hi hsi hkk b1 s1 o1 i1 (by rw [hrb]; exact b5) (by rw [hrb]; exact m5) hL hR
        rw [hrb] at h1
        exact h1
      rw [hrb] at s1
      have hm38 : (Instr.makeMap 38 none).run Try.prog W1 = .ok (.map (some W1.heap.size)) (W1.alloc (.map #[] 0)) := rfl
      have hlk := hl k
      have CL := clone_any x (D k) (W1.alloc (.map #[] 0)) ((hdk'.below b1 (Nat.le_refl _)).below ((Below.refl _ _).alloc (Nat.le_refl _) _) (Nat.le_refl _)) (by omega)
      rw [s1] at hm38
      have HD : Hid (∀ k, SV w ((getE E k).getD (.slice none 0 0)) (D k)) := hd
      have HLn : Hid (∀ k, (D k).length ≤ 256) := hl
      have HU : Hid (∀ k y, y ∈ D k → y ∈ U) := hu
      have B1 : Hid (Below w.heap.size w W1) := b1
      have S1 : Hid (W1.heap.size = rb) := s1
      have hkF : k ∉ F.map (·.1) := fun e => by
        have := (hseen i hi).2 (by rw [hkk]; exact e)
        rw [hsi] at this; cases this
      have HMS : Hid (mapSize wr (w.heap.size + 1) = F.length) := mapSize_of hmap
      have HNx : Hid (F.length < E.length) := by
        have h1 := nodup_le (k :: F.map (·.1)) (E.map (·.1)) (List.nodup_cons.2 ⟨hkF, hfn⟩) (fun y hy => by
          rcases List.mem_cons.1 hy with rfl | hy
          · exact List.mem_map.2 ⟨E[i], List.getElem_mem hi, hkk⟩
          · obtain ⟨p, hp, rfl⟩ := List.mem_map.1 hy
            exact hfe p hp)
        simp at h1
        exact h1
      clear hkF hrb hdk hdk' hg hb hsz hcell hmap hit hgood hfn hfe hseen hmr hsi hln hmk hrg hmW1 o1 i1 b1 s1 hd hl hu hkk hxx hal
      go_wp2_with fail
      refine CL.mono ?_
      rintro e w3 ⟨pv, rfl, hown, hbel⟩
      have sA : (W1.alloc (.map #[] 0)).heap.size = rb + 1 := by simp; exact S1.out
      rw [sA] at hown hbel
      have b3 : Hid (Below rb W1 w3) := ((Below.refl rb W1).alloc (by rw [S1.out]; exact Nat.le_refl _) (.map #[] 0)).trans (hbel.mono (by omega))
      have m3 : Hid (MapIs w3 rb (setL [])) := by
        have h1 := mapIs_new W1
        rw [S1.out] at h1
        exact mapIs_below h1 hbel (by omega)
      have o3 : Hid (SOwn w3 (rb + 1) pv (D k)) := hown
      clear hown hbel sA CL hm38 hent hnx
      go_wp2_with fail
      go_loopw [7] (fun p w' => ∃ L P, Below rb W1 w' ∧ MapIs w' rb (setL L) ∧ SOwn w' (rb + 1) p P ∧ Work D k L P ∧ P.length + (U.length - L.length) * 257 ≤ U.length * 257 + 256) (fun p w' => (U.length - mapSize w' rb) * 257 + sliceLen p)
      case atStart => exact ⟨[], D k, b3.out, m3.out, o3.out, work_start D k, by simp; omega⟩
      case round =>
        obtain ⟨L, P, hbel, hmp, hown, hwork, hbd⟩ := hrel
        have HB : Hid (Below rb W1 wr) := hbel
        have HMp : Hid (MapIs wr rb (setL L)) := hmp
        have HOw : Hid (SOwn wr (rb + 1) u7 P) := hown
        have HW : Hid (Work D k L P) := hwork
        have hLU : L.length ≤ U.length := nodup_le L U hwork.1 (fun y hy => (hwork.2.1 y hy) (· ∈ U) (fun z hz => HU.out k z hz) (fun x _ z hz => HU.out x z hz))
        have HSz : Hid (mapSize wr rb = L.length) := by show _ = _; rw [mapSize_of hmp, setL_length]
        have hrbs : rb < wr.heap.size := mapIs_lt hmp
        have HBd : Hid (P.length + (U.length - L.length) * 257 ≤ U.length * 257 + 256) := hbd
        clear hbel hmp hown hwork hbd b3 m3 o3
        rcases List.eq_nil_or_concat P with e | ⟨P', y, e⟩
        · subst e
          obtain ⟨a, cap, e7, _, _⟩ := HOw.out.sv
          subst e7
          obtain ⟨hpe, hmF, hoi'⟩ := HST.out wr L HB.out HMp.out HW.out.1 (work_end HW.out)
          have hup := run_update k (.map (some rb)) Try.underlying27 hmF
          rw [hpe] at hup
          have HO' : Hid (OI w (putB wr (w.heap.size + 1) (mapO (F ++ [(k, .map (some rb))]))) r E (F ++ [(k, .map (some rb))]) (seen.push i) D) := hoi'
          have HS' : Hid (mapSize (putB wr (w.heap.size + 1) (mapO (F ++ [(k, .map (some rb))]))) (w.heap.size + 1) = F.length + 1) := by
            show _ = _
            rw [mapSize_of (mapIs_put (l' := F ++ [(k, Value.map (some rb))]) hmF)]; simp
          clear hpe hmF hoi'
          go_wp2
          go_roundw
          case rel => exact ⟨_, _, HO'.out⟩
          case measure => rw [HS'.out, HMS.out]; have := HNx.out; omega
        · rw [List.concat_eq_append] at e
          subst e
          obtain ⟨g, cap, e7, hyc, hcap, hpop, hBg⟩ := HOw.out.split
          subst e7
          have hP : (P' ++ [y]).length = P'.length + 1 := by simp
          have hbd2 := HBd.out
          rw [hP] at hbd2
          have HWk := HW
          have HSL : Hid (sliceLen (.slice (some ⟨g, 0, none⟩) (P'.length + 1) cap) = P'.length + 1) := rfl
          have HLy := HLn.out y
          generalize hnn : P'.length = n at hyc hcap hpop hbd2 HSL ⊢
          have HN : Hid (P'.length = n) := hnn
          have HPop : Hid (SOwn wr (rb + 1) (.slice (some ⟨g, 0, none⟩) n cap) P') := hpop
          have i0 : (0 : Int) < (n : Int) + 1 := by omega
          have i1 : (n : Int) < (n : Int) + 1 := by omega
          have i2 : (n : Int) ≤ (cap : Int) := by omega
          clear hP hpop hnn HOw HBd HSL
          by_cases hyL : y ∈ L
          · have hlk := run_lookup y Try.underlying38 (zero4 wr) HMp.out
            rw [setL_get L y hyL] at hlk
            have HW2 : Hid (Work D k L P') := work_old HW.out hyL
            go_wp2
            go_roundw
            case rel => exact ⟨L, P', HB.out, HMp.out, HPop.out, HW2.out, by rw [HN.out]; omega⟩
            case measure => show (U.length - mapSize wr rb) * 257 + n < (U.length - mapSize wr rb) * 257 + (n + 1); omega
          · have hlk := run_lookup y Try.underlying38 (zero4 wr) HMp.out
            rw [setL_none L y hyL] at hlk
            have hup := run_update y (.bool true) Try.underlying38 HMp.out
            rw [setL_put L y hyL] at hup
            have hM2 : MapIs (putB wr rb (mapO (setL (L ++ [y])))) rb (setL (L ++ [y])) := mapIs_put HMp.out
            have hO2 : SOwn (putB wr rb (mapO (setL (L ++ [y])))) (rb + 1) (.slice (some ⟨g, 0, none⟩) n cap) P' := HPop.out.keep fun j hj _ => putB_other wr _ (by omega)
            have hB2 : Below rb W1 (putB wr rb (mapO (setL (L ++ [y])))) := Below.putB HB.out (Nat.le_refl _) _
            have hS2 := putB_size wr rb (mapO (setL (L ++ [y])))
            generalize putB wr rb (mapO (setL (L ++ [y]))) = W2 at hup hM2 hO2 hB2 hS2
            have hBw : Below w.heap.size w W2 := B1.out.trans (hB2.mono (by have := B1.out.size; rw [S1.out] at this; exact this))
            have hlk2 := run_lookup y Try.underlying25 (zero22 W2) (mapIs_below HM.out hBw hrl)
            have hz := (HD.out y).below hBw (Nat.le_refl _)
            generalize (getE E y).getD (.slice none 0 0) = z at hlk2 hz
            obtain ⟨v', W3, hrun, ho, hg⟩ := app_ok hO2 hz (by rw [HN.out]; omega) (by omega)
            have hB3 : Below (rb + 1) W2 W3 := grown_below hg (by omega) hO2.own
            have X1 : Hid (Below rb W1 W3) := hB2.trans (hB3.mono (by omega))
            have X2 : Hid (MapIs W3 rb (setL (L ++ [y]))) := mapIs_below hM2 hB3 (by omega)
            have X3 : Hid (SOwn W3 (rb + 1) v' (P' ++ D y)) := ho
            have X4 : Hid (Work D k (L ++ [y]) (P' ++ D y)) := work_new HW.out hyL
            have X5 : Hid (L.length + 1 ≤ U.length) := by
              have h1 := nodup_le (L ++ [y]) U X4.out.1 (fun x hx => (X4.out.2.1 x hx) (· ∈ U) (fun z hz => HU.out k z hz) (fun x _ z hz => HU.out x z hz))
              simp at h1
              exact h1
            clear hM2 hO2 hB2 hS2 hBw hz ho hg hB3
            go_wp2_with (at_builtin; refine wpList_run_append rfl _ _ 22 22 rfl rfl rfl hrun ?_)
            go_roundw
            case rel => exact ⟨L ++ [y], P' ++ D y, X1.out, X2.out, X3.out, X4.out, by have := X5.out; rw [List.length_append, List.length_append, HN.out]; show n + (D y).length + (U.length - (L.length + 1)) * 257 ≤ _; omega⟩
            case measure =>
              have e1 : mapSize W3 rb = L.length + 1 := by rw [mapSize_of X2.out, setL_length]; simp
              have e2 : sliceLen v' = n + (D y).length := by
                obtain ⟨a, c, e, _, _⟩ := X3.out.sv
                subst e
                show (P' ++ D y).length = _
                rw [List.length_append, HN.out]
              rw [e1, e2, HSz.out]
              have := X5.out
              show _ < (U.length - L.length) * 257 + (n + 1)
              omega
end Go.Proofs.Qxb6619648a
