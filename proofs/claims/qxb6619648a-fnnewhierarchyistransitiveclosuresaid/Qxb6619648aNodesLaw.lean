import Derived.Test.Qxb6619648aBuild
namespace Go.Proofs.Qxb6619648a
open Go.ChangeShapes Go.WideShapes Go.ChangeAt Go.RowKit
/-! ### The nodes, plainly -/
def inB (x : ByteArray) (N : List ByteArray) : Bool := N.any fun y => decide (x = y)
theorem inB_iff {x : ByteArray} {N : List ByteArray} : inB x N = true ↔ x ∈ N := by
  unfold inB
  rw [List.any_eq_true]
  constructor
  · rintro ⟨y, hy, h⟩; rw [of_decide_eq_true h]; exact hy
  · intro h; exact ⟨x, h, decide_eq_true rfl⟩
def addN (N : List ByteArray) (x : ByteArray) : List ByteArray := if inB x N = true then N else N ++ [x]
def addAll (N : List ByteArray) (l : List ByteArray) : List ByteArray := l.foldl addN N
def nodesL (K : List ByteArray) (dl : Nat → List ByteArray) : Nat → List ByteArray
  | 0 => []
  | n + 1 => addAll (addN (nodesL K dl n) (nth K n)) (dl n)
theorem addN_old {N : List ByteArray} {x : ByteArray} (h : x ∈ N) : addN N x = N := if_pos (inB_iff.2 h)
theorem addN_new {N : List ByteArray} {x : ByteArray} (h : x ∉ N) : addN N x = N ++ [x] := if_neg (fun e => h (inB_iff.1 e))
theorem addN_nodup {N : List ByteArray} {x : ByteArray} (h : N.Nodup) : (addN N x).Nodup := by
  by_cases hx : x ∈ N
  · rw [addN_old hx]; exact h
  · rw [addN_new hx, List.nodup_append]
    exact ⟨h, by simp, by intro a ha b hb; simp at hb; subst hb; intro e; exact hx (e ▸ ha)⟩
theorem mem_addN {N : List ByteArray} {x y : ByteArray} : y ∈ addN N x ↔ y ∈ N ∨ y = x := by
  by_cases hx : x ∈ N
  · rw [addN_old hx]
    constructor
    · exact fun h => .inl h
    · rintro (h | rfl)
      · exact h
      · exact hx
  · rw [addN_new hx]; simp
theorem addAll_snoc (N l : List ByteArray) (x : ByteArray) : addAll N (l ++ [x]) = addN (addAll N l) x := by unfold addAll; rw [List.foldl_append]; rfl
theorem addAll_nodup : ∀ (l N : List ByteArray), N.Nodup → (addAll N l).Nodup
  | [], _, h => h
  | x :: l, N, h => addAll_nodup l (addN N x) (addN_nodup h)
theorem mem_addAll {y : ByteArray} : ∀ (l N : List ByteArray), y ∈ addAll N l ↔ y ∈ N ∨ y ∈ l
  | [], N => by simp [addAll]
  | x :: l, N => by
    show y ∈ addAll (addN N x) l ↔ _
    rw [mem_addAll l (addN N x), mem_addN, List.mem_cons]
    constructor
    · rintro ((h | h) | h)
      · exact .inl h
      · exact .inr (.inl h)
      · exact .inr (.inr h)
    · rintro (h | h | h)
      · exact .inl (.inl h)
      · exact .inl (.inr h)
      · exact .inr h
theorem nodes_nodup (K : List ByteArray) (dl : Nat → List ByteArray) : ∀ n, (nodesL K dl n).Nodup
  | 0 => List.nodup_nil
  | n + 1 => addAll_nodup _ _ (addN_nodup (nodes_nodup K dl n))
theorem mem_nodes (K : List ByteArray) (dl : Nat → List ByteArray) (y : ByteArray) : ∀ n, y ∈ nodesL K dl n ↔ ∃ i, i < n ∧ (y = nth K i ∨ y ∈ dl i)
  | 0 => by simp [nodesL]
  | n + 1 => by
    show y ∈ addAll _ _ ↔ _
    rw [mem_addAll, mem_addN, mem_nodes K dl y n]
    constructor
    · rintro ((⟨i, hi, h⟩ | h) | h)
      · exact ⟨i, by omega, h⟩
      · exact ⟨n, by omega, .inl h⟩
      · exact ⟨n, by omega, .inr h⟩
    · rintro ⟨i, hi, h⟩
      by_cases e : i = n
      · subst e
        rcases h with h | h
        · exact .inl (.inr h)
        · exact .inr h
      · exact .inl (.inl ⟨i, by omega, h⟩)
theorem addN_length (N : List ByteArray) (x : ByteArray) : (addN N x).length ≤ N.length + 1 := by
  by_cases hx : x ∈ N
  · rw [addN_old hx]; omega
  · rw [addN_new hx]; simp
theorem addAll_length : ∀ (l N : List ByteArray), (addAll N l).length ≤ N.length + l.length
  | [], N => by simp [addAll]
  | x :: l, N => by
    have h := addAll_length l (addN N x)
    have h2 := addN_length N x
    show (addAll (addN N x) l).length ≤ _
    simp; omega
theorem nodes_length (K : List ByteArray) (dl : Nat → List ByteArray) (hd : ∀ i, (dl i).length ≤ 256) : ∀ n, (nodesL K dl n).length ≤ n * 257
  | 0 => by simp [nodesL]
  | n + 1 => by
    have h := nodes_length K dl hd n
    have h2 := addAll_length (dl n) (addN (nodesL K dl n) (nth K n))
    have h3 := addN_length (nodesL K dl n) (nth K n)
    have h4 := hd n
    show (addAll _ _).length ≤ _
    omega

/-! ### The index map -/
def idxF : Nat → List ByteArray → List (ByteArray × Value)
  | _, [] => []
  | i, x :: l => (x, .int .i64 (i : Int)) :: idxF (i + 1) l
theorem idxF_length : ∀ i l, (idxF i l).length = l.length
  | _, [] => rfl
  | i, x :: l => by simp [idxF, idxF_length (i + 1) l]
theorem idx_put : ∀ (l : List ByteArray) (x : ByteArray) (i : Nat), x ∉ l → putE (idxF i l) x (.int .i64 ((i + l.length : Nat) : Int)) = idxF i (l ++ [x])
  | [], x, i, _ => by simp [idxF, putE]
  | y :: l, x, i, h => by
    simp at h
    have ih := idx_put l x (i + 1) h.2
    unfold idxF putE
    rw [if_neg h.1]
    have e : i + (y :: l).length = i + 1 + l.length := by simp; omega
    rw [e, ih]; rfl
theorem idx_none : ∀ (l : List ByteArray) (x : ByteArray) (i : Nat), x ∉ l → getE (idxF i l) x = none
  | [], _, _, _ => rfl
  | y :: l, x, i, h => by
    simp at h
    unfold idxF getE
    rw [if_neg h.1]; exact idx_none l x (i + 1) h.2
theorem idx_some : ∀ (l : List ByteArray) (i j : Nat), l.Nodup → j < l.length → getE (idxF i l) (nth l j) = some (.int .i64 ((i + j : Nat) : Int))
  | y :: l, i, 0, _, _ => by
    unfold idxF getE
    exact if_pos rfl
  | y :: l, i, j + 1, hn, h => by
    have hn' := List.nodup_cons.1 hn
    have hj : j < l.length := by simpa using h
    unfold idxF getE
    have e : nth (y :: l) (j + 1) = nth l j := rfl
    rw [e, if_neg (fun (e : nth l j = y) => hn'.1 (by rw [← e]; exact nth_mem hj)), idx_some l (i + 1) j hn'.2 hj, show i + 1 + j = i + (j + 1) from by omega]
end Go.Proofs.Qxb6619648a
