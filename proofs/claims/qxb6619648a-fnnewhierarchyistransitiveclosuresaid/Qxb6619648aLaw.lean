import Derived.Test.Qxb6619648aNewH
import Derived.Test.Qxb6619648aClosure
import Derived.Test.Qxb6619648aNodes
namespace Go.Proofs.Qxb6619648a
open Go.ChangeShapes Go.WideShapes Go.ChangeAt Go.RowKit
/-! ### The map that zzBuildMap lays, plainly -/
/-- What key k lists: the list against its last place among the first n keys. -/
def DL (K : List ByteArray) (dl : Nat → List ByteArray) : Nat → ByteArray → List ByteArray
  | 0, _ => []
  | n + 1, k => if k = nth K n then dl n else DL K dl n k
theorem getE_put (k : ByteArray) (v : Value) (x : ByteArray) : ∀ l, getE (putE l k v) x = if x = k then some v else getE l x
  | [] => rfl
  | p :: l => by
    unfold putE
    by_cases hk : k = p.1
    · rw [if_pos hk]
      show (if x = k then some v else getE l x) = _
      by_cases hx : x = k
      · rw [if_pos hx, if_pos hx]
      · rw [if_neg hx, if_neg hx]
        show _ = (if x = p.1 then _ else _)
        rw [if_neg (by rw [← hk]; exact hx)]
    · rw [if_neg hk]
      show (if x = p.1 then some p.2 else getE (putE l k v) x) = if x = k then some v else (if x = p.1 then some p.2 else getE l x)
      rw [getE_put k v x l]
      by_cases hx : x = p.1
      · rw [if_pos hx, if_neg (by rw [hx]; exact Ne.symm hk), if_pos hx]
      · rw [if_neg hx, if_neg hx]
theorem sv_bm (K : List ByteArray) {w : World} {dv : Nat → Value} {dl : Nat → List ByteArray} (h : ∀ i, SV w (dv i) (dl i)) (k : ByteArray) : ∀ n, SV w ((getE (bmE K dv n) k).getD (.slice none 0 0)) (DL K dl n k)
  | 0 => SV.nil w
  | n + 1 => by
    show SV w ((getE (putE (bmE K dv n) (nth K n) (dv n)) k).getD _) (if k = nth K n then dl n else DL K dl n k)
    rw [getE_put]
    by_cases hk : k = nth K n
    · rw [if_pos hk, if_pos hk]; exact h n
    · rw [if_neg hk, if_neg hk]; exact sv_bm K h k n
theorem keys_put (k : ByteArray) (v : Value) (x : ByteArray) : ∀ l : List (ByteArray × Value), x ∈ (putE l k v).map (·.1) ↔ x ∈ l.map (·.1) ∨ x = k
  | [] => by simp [putE]
  | p :: l => by
    unfold putE
    by_cases hk : k = p.1
    · rw [if_pos hk]
      simp only [List.map_cons, List.mem_cons, ← hk]
      constructor
      · exact fun h => .inl h
      · rintro (h | h)
        · exact h
        · exact .inl h
    · rw [if_neg hk]
      simp only [List.map_cons, List.mem_cons]
      rw [keys_put k v x l, or_assoc]
theorem keys_nodup (k : ByteArray) (v : Value) : ∀ l : List (ByteArray × Value), (l.map (·.1)).Nodup → ((putE l k v).map (·.1)).Nodup
  | [], _ => by simp [putE]
  | p :: l, h => by
    have h' := List.nodup_cons.1 (show (p.1 :: l.map (·.1)).Nodup from h)
    unfold putE
    by_cases hk : k = p.1
    · rw [if_pos hk]
      show (k :: l.map (·.1)).Nodup
      rw [hk]; exact List.nodup_cons.2 h'
    · rw [if_neg hk]
      show (p.1 :: (putE l k v).map (·.1)).Nodup
      refine List.nodup_cons.2 ⟨fun e => ?_, keys_nodup k v l h'.2⟩
      rcases (keys_put k v p.1 l).1 e with e | e
      · exact h'.1 e
      · exact hk e.symm
theorem bm_nodup (K : List ByteArray) (dv : Nat → Value) : ∀ n, ((bmE K dv n).map (·.1)).Nodup
  | 0 => List.nodup_nil
  | n + 1 => keys_nodup _ _ _ (bm_nodup K dv n)
theorem bm_mem (K : List ByteArray) (dv : Nat → Value) (x : ByteArray) : ∀ n, x ∈ (bmE K dv n).map (·.1) ↔ ∃ i, i < n ∧ nth K i = x
  | 0 => by simp [bmE]
  | n + 1 => by
    show x ∈ (putE (bmE K dv n) (nth K n) (dv n)).map (·.1) ↔ _
    rw [keys_put, bm_mem K dv x n]
    constructor
    · rintro (⟨i, hi, h⟩ | h)
      · exact ⟨i, by omega, h⟩
      · exact ⟨n, by omega, h.symm⟩
    · rintro ⟨i, hi, h⟩
      by_cases e : i = n
      · subst e; exact .inr h.symm
      · exact .inl ⟨i, by omega, h⟩
theorem DL_last (K : List ByteArray) (dl : Nat → List ByteArray) (i : Nat) : ∀ n, i < n → (∀ u, i < u → u < n → nth K u ≠ nth K i) → DL K dl n (nth K i) = dl i
  | n + 1, hi, h => by
    show (if nth K i = nth K n then dl n else _) = _
    by_cases e : i = n
    · subst e; rw [if_pos rfl]
    · rw [if_neg (fun e' => h n (by omega) (by omega) e'.symm)]
      exact DL_last K dl i n (by omega) (fun u h1 h2 => h u h1 (by omega))
theorem DL_in (K : List ByteArray) (dl : Nat → List ByteArray) (k y : ByteArray) : ∀ n, y ∈ DL K dl n k → ∃ i, i < n ∧ nth K i = k ∧ y ∈ dl i
  | 0, h => by simp [DL] at h
  | n + 1, h => by
    have h' : y ∈ (if k = nth K n then dl n else DL K dl n k) := h
    by_cases e : k = nth K n
    · rw [if_pos e] at h'; exact ⟨n, by omega, e.symm, h'⟩
    · rw [if_neg e] at h'
      obtain ⟨i, hi, r⟩ := DL_in K dl k y n h'
      exact ⟨i, by omega, r⟩
theorem DL_len (K : List ByteArray) (dl : Nat → List ByteArray) (hd : ∀ i, (dl i).length ≤ 256) (k : ByteArray) : ∀ n, (DL K dl n k).length ≤ 256
  | 0 => by simp [DL]
  | n + 1 => by
    show (if k = nth K n then dl n else DL K dl n k).length ≤ 256
    by_cases e : k = nth K n
    · rw [if_pos e]; exact hd n
    · rw [if_neg e]; exact DL_len K dl hd k n
theorem has_last (K : List ByteArray) (k : ByteArray) : ∀ n, (∃ i, i < n ∧ nth K i = k) → ∃ t, t < n ∧ nth K t = k ∧ ∀ u, t < u → u < n → nth K u ≠ k
  | 0, ⟨i, hi, _⟩ => by omega
  | n + 1, ⟨i, hi, h⟩ => by
    by_cases e : nth K n = k
    · exact ⟨n, by omega, e, fun u h1 h2 => by omega⟩
    · obtain ⟨t, h1, h2, h3⟩ := has_last K k n ⟨i, by
        have : i ≠ n := fun e' => e (e' ▸ h)
        omega, h⟩
      refine ⟨t, by omega, h2, fun u h4 h5 => ?_⟩
      by_cases e' : u = n
      · rw [e']; exact e
      · exact h3 u h4 (by omega)
/-- The direct implications. -/
def Dk (K : List ByteArray) (dl : Nat → List ByteArray) : ByteArray → List ByteArray := DL K dl K.length
theorem Dk_last {K : List ByteArray} {dl : Nat → List ByteArray} {i : Nat} (hi : i < K.length) (h : Last K i) : Dk K dl (nth K i) = dl i := DL_last K dl i K.length hi h
theorem Dk_nodes {K : List ByteArray} {dl : Nat → List ByteArray} {k y : ByteArray} (h : y ∈ Dk K dl k) : y ∈ nodesL K dl K.length := by
  obtain ⟨i, hi, _, hy⟩ := DL_in K dl k y _ h
  exact (mem_nodes K dl y _).2 ⟨i, hi, .inr hy⟩
theorem key_last {K : List ByteArray} {k : ByteArray} (h : ∃ i, i < K.length ∧ nth K i = k) : ∃ t, t < K.length ∧ nth K t = k ∧ Last K t := by
  obtain ⟨t, h1, h2, h3⟩ := has_last K k _ h
  exact ⟨t, h1, h2, fun u h4 h5 => by rw [h2]; exact h3 u h4 h5⟩

/-! ### Warshall's matrix is reachability -/
theorem R_trans {D : ByteArray → List ByteArray} {k x y : ByteArray} (h : R D k x) (h2 : R D x y) : R D k y :=
  h2 (R D k) (fun _ hz => R_more h hz) (fun _ hx _ hz => R_more hx hz)
theorem EM_Dk {K : List ByteArray} {dl : Nat → List ByteArray} {N : List ByteArray} {M : Nat → Nat → Bool} (h : EM K dl N K.length M) {a b : Nat} (ha : a < N.length) (hb : b < N.length) : M a b = true ↔ nth N b ∈ Dk K dl (nth N a) := by
  rw [h a b ha hb]
  constructor
  · rintro ⟨i, hi, hL, e, hm⟩
    rw [e, Dk_last hi hL]; exact hm
  · intro hm
    obtain ⟨i, hi, e, _⟩ := DL_in K dl _ _ _ hm
    obtain ⟨t, ht, e2, hL⟩ := key_last ⟨i, hi, e⟩
    rw [← e2, Dk_last ht hL] at hm
    exact ⟨t, ht, hL, e2.symm, hm⟩
theorem Tb_sound {K : List ByteArray} {dl : Nat → List ByteArray} {N : List ByteArray} {M : Nat → Nat → Bool} (h : EM K dl N K.length M) : ∀ t, t ≤ N.length → ∀ a b, a < N.length → b < N.length → Tb M t a b = true → R (Dk K dl) (nth N a) (nth N b)
  | 0, _, a, b, ha, hb, e => R_one ((EM_Dk h ha hb).1 e)
  | t + 1, ht, a, b, ha, hb, e => by
    rw [Tb_succ] at e
    simp only [Bool.or_eq_true, Bool.and_eq_true] at e
    rcases e with e | ⟨e1, e2⟩
    · exact Tb_sound h t (by omega) a b ha hb e
    · exact R_trans (Tb_sound h t (by omega) a t ha (by omega) e1) (Tb_sound h t (by omega) t b (by omega) hb e2)
theorem Tb_full {K : List ByteArray} {dl : Nat → List ByteArray} {M : Nat → Nat → Bool} (h : EM K dl (nodesL K dl K.length) K.length M) {a : Nat} (ha : a < (nodesL K dl K.length).length) {y : ByteArray} (hr : R (Dk K dl) (nth (nodesL K dl K.length) a) y) :
    ∃ b, b < (nodesL K dl K.length).length ∧ nth (nodesL K dl K.length) b = y ∧ Tb M (nodesL K dl K.length).length a b = true := by
  refine hr (fun y => ∃ b, b < (nodesL K dl K.length).length ∧ nth (nodesL K dl K.length) b = y ∧ Tb M (nodesL K dl K.length).length a b = true) (fun z hz => ?_) (fun x ⟨m, hm, e, hT⟩ z hz => ?_)
  · obtain ⟨b, hb, e⟩ := mem_nth (Dk_nodes hz)
    exact ⟨b, hb, e, Tb_mono _ _ _ _ ((EM_Dk h ha hb).2 (by rw [e]; exact hz))⟩
  · obtain ⟨b, hb, e2⟩ := mem_nth (Dk_nodes hz)
    exact ⟨b, hb, e2, Tb_trans _ _ _ _ m hm hT (Tb_mono _ _ _ _ ((EM_Dk h hm hb).2 (by rw [e2, e]; exact hz)))⟩

/-! ### What the law's loops count -/
def CntD (K : List ByteArray) (k d : Nat) : Prop := ∃ C : List ByteArray, C.Nodup ∧ C.length = d ∧ ∀ x, x ∈ C ↔ ∃ i, i < k ∧ Last K i ∧ nth K i = x
theorem CntD_start (K : List ByteArray) : CntD K 0 0 := ⟨[], List.nodup_nil, rfl, fun x => by simp⟩
theorem CntD_skip {K : List ByteArray} {k d : Nat} (h : CntD K k d) (hL : ¬ Last K k) : CntD K (k + 1) d := by
  obtain ⟨C, h1, h2, h3⟩ := h
  refine ⟨C, h1, h2, fun x => ?_⟩
  rw [h3]
  constructor
  · rintro ⟨i, hi, r⟩; exact ⟨i, by omega, r⟩
  · rintro ⟨i, hi, hl, e⟩
    refine ⟨i, ?_, hl, e⟩
    have : i ≠ k := fun e => hL (e ▸ hl)
    omega
theorem CntD_step {K : List ByteArray} {k d : Nat} (h : CntD K k d) (hk : k < K.length) (hL : Last K k) : CntD K (k + 1) (d + 1) := by
  obtain ⟨C, h1, h2, h3⟩ := h
  have hnew : nth K k ∉ C := fun e => by
    obtain ⟨i, hi, hl, e2⟩ := (h3 _).1 e
    exact hl k hi hk e2.symm
  refine ⟨C ++ [nth K k], ?_, by simp [h2], fun x => ?_⟩
  · rw [List.nodup_append]
    exact ⟨h1, by simp, by intro a ha b hb; simp at hb; subst hb; intro e; exact hnew (e ▸ ha)⟩
  · rw [List.mem_append, h3]
    constructor
    · rintro (⟨i, hi, r⟩ | h)
      · exact ⟨i, by omega, r⟩
      · exact ⟨k, by omega, hL, by have : x = nth K k := by simpa using h
                                   exact this.symm⟩
    · rintro ⟨i, hi, hl, e⟩
      by_cases e2 : i = k
      · subst e2; exact .inr (by rw [e]; simp)
      · exact .inl ⟨i, by omega, hl, e⟩
theorem CntD_end {K : List ByteArray} {d : Nat} (h : CntD K K.length d) (dv : Nat → Value) : d = (bmE K dv K.length).length := by
  obtain ⟨C, h1, h2, h3⟩ := h
  have a := nodup_le C ((bmE K dv K.length).map (·.1)) h1 (fun y hy => by
    obtain ⟨i, hi, _, e⟩ := (h3 y).1 hy
    exact (bm_mem K dv y _).2 ⟨i, hi, e⟩)
  have b := nodup_le ((bmE K dv K.length).map (·.1)) C (bm_nodup K dv _) (fun y hy => by
    obtain ⟨t, ht, e, hL⟩ := key_last ((bm_mem K dv y _).1 hy)
    exact (h3 y).2 ⟨t, ht, hL, e⟩)
  simp at a b
  omega
def CntR (N : List ByteArray) (T : Nat → Bool) (j c : Nat) : Prop := ∃ C : List ByteArray, C.Nodup ∧ C.length = c ∧ ∀ x, x ∈ C ↔ ∃ i, i < j ∧ T i = true ∧ nth N i = x
theorem CntR_start (N : List ByteArray) (T : Nat → Bool) : CntR N T 0 0 := ⟨[], List.nodup_nil, rfl, fun x => by simp⟩
theorem CntR_skip {N : List ByteArray} {T : Nat → Bool} {j c : Nat} (h : CntR N T j c) (hT : T j = false) : CntR N T (j + 1) c := by
  obtain ⟨C, h1, h2, h3⟩ := h
  refine ⟨C, h1, h2, fun x => ?_⟩
  rw [h3]
  constructor
  · rintro ⟨i, hi, r⟩; exact ⟨i, by omega, r⟩
  · rintro ⟨i, hi, hl, e⟩
    refine ⟨i, ?_, hl, e⟩
    have : i ≠ j := fun e => by rw [e, hT] at hl; cases hl
    omega
theorem CntR_step {N : List ByteArray} {T : Nat → Bool} {j c : Nat} (h : CntR N T j c) (hn : N.Nodup) (hj : j < N.length) (hT : T j = true) : CntR N T (j + 1) (c + 1) := by
  obtain ⟨C, h1, h2, h3⟩ := h
  have hnew : nth N j ∉ C := fun e => by
    obtain ⟨i, hi, _, e2⟩ := (h3 _).1 e
    have := nth_inj hn (by omega) hj e2
    omega
  refine ⟨C ++ [nth N j], ?_, by simp [h2], fun x => ?_⟩
  · rw [List.nodup_append]
    exact ⟨h1, by simp, by intro a ha b hb; simp at hb; subst hb; intro e; exact hnew (e ▸ ha)⟩
  · rw [List.mem_append, h3]
    constructor
    · rintro (⟨i, hi, r⟩ | h)
      · exact ⟨i, by omega, r⟩
      · exact ⟨j, by omega, hT, by have : x = nth N j := by simpa using h
                                   exact this.symm⟩
    · rintro ⟨i, hi, hl, e⟩
      by_cases e2 : i = j
      · subst e2; exact .inr (by rw [e]; simp)
      · exact .inl ⟨i, by omega, hl, e⟩
theorem CntR_end {N : List ByteArray} {T : Nat → Bool} {c : Nat} (h : CntR N T N.length c) {L : List ByteArray} (hL : L.Nodup) (hm : ∀ y, y ∈ L ↔ ∃ b, b < N.length ∧ nth N b = y ∧ T b = true) : c = L.length := by
  obtain ⟨C, h1, h2, h3⟩ := h
  have a := nodup_le C L h1 (fun y hy => by
    obtain ⟨i, hi, hT, e⟩ := (h3 y).1 hy
    exact (hm y).2 ⟨i, hi, e, hT⟩)
  have b := nodup_le L C hL (fun y hy => by
    obtain ⟨i, hi, e, hT⟩ := (hm y).1 hy
    exact (h3 y).2 ⟨i, hi, hT, e⟩)
  omega
/-- A row of the matrix holds what is reached. -/
theorem row_reach {K : List ByteArray} {dl : Nat → List ByteArray} {M : Nat → Nat → Bool} (h : EM K dl (nodesL K dl K.length) K.length M) {a : Nat} (ha : a < (nodesL K dl K.length).length) (y : ByteArray) :
    R (Dk K dl) (nth (nodesL K dl K.length) a) y ↔ ∃ b, b < (nodesL K dl K.length).length ∧ nth (nodesL K dl K.length) b = y ∧ Tb M (nodesL K dl K.length).length a b = true := by
  constructor
  · exact Tb_full h ha
  · rintro ⟨b, hb, rfl, hT⟩
    exact Tb_sound h _ (Nat.le_refl _) a b ha hb hT
end Go.Proofs.Qxb6619648a
