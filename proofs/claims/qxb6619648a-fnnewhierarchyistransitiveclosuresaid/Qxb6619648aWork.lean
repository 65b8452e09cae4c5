import Derived.Test.Qxb6619648aNodeStep
namespace Go.Proofs.Qxb6619648a
open Go.ChangeShapes Go.WideShapes Go.ChangeAt Go.RowKit
/-! ### Reachability, plainly -/
/-- y is reached from k by one or more direct implications. -/
def R (D : ByteArray → List ByteArray) (k y : ByteArray) : Prop := ∀ S : ByteArray → Prop, (∀ z ∈ D k, S z) → (∀ x, S x → ∀ z ∈ D x, S z) → S y
theorem R_one {D : ByteArray → List ByteArray} {k y : ByteArray} (h : y ∈ D k) : R D k y := fun _ h1 _ => h1 y h
theorem R_more {D : ByteArray → List ByteArray} {k x y : ByteArray} (h : R D k x) (hy : y ∈ D x) : R D k y := fun S h1 h2 => h2 x (h S h1 h2) y hy
/-- The worklist's invariant. -/
def Work (D : ByteArray → List ByteArray) (k : ByteArray) (L P : List ByteArray) : Prop :=
  L.Nodup ∧ (∀ y ∈ L, R D k y) ∧ (∀ y ∈ P, R D k y) ∧ (∀ y ∈ D k, y ∈ L ∨ y ∈ P) ∧ ∀ x ∈ L, ∀ z ∈ D x, z ∈ L ∨ z ∈ P
theorem work_start (D : ByteArray → List ByteArray) (k : ByteArray) : Work D k [] (D k) :=
  ⟨List.nodup_nil, fun _ h => by simp at h, fun _ h => R_one h, fun _ h => .inr h, fun _ h => by simp at h⟩
theorem work_old {D : ByteArray → List ByteArray} {k x : ByteArray} {L P : List ByteArray} (h : Work D k L (P ++ [x])) (hx : x ∈ L) : Work D k L P := by
  obtain ⟨h0, h1, h2, h3, h4⟩ := h
  have drop : ∀ y, y ∈ L ∨ y ∈ P ++ [x] → y ∈ L ∨ y ∈ P := fun y hy => by
    rcases hy with hy | hy
    · exact .inl hy
    · rcases List.mem_append.1 hy with hy | hy
      · exact .inr hy
      · have e : y = x := by simpa using hy
        exact .inl (e ▸ hx)
  exact ⟨h0, h1, fun y hy => h2 y (List.mem_append_left _ hy), fun y hy => drop y (h3 y hy), fun x' hx' z hz => drop z (h4 x' hx' z hz)⟩
theorem work_new {D : ByteArray → List ByteArray} {k x : ByteArray} {L P : List ByteArray} (h : Work D k L (P ++ [x])) (hx : x ∉ L) : Work D k (L ++ [x]) (P ++ D x) := by
  obtain ⟨h0, h1, h2, h3, h4⟩ := h
  have hR : R D k x := h2 x (by simp)
  have keep : ∀ y, y ∈ L ∨ y ∈ P ++ [x] → y ∈ L ++ [x] ∨ y ∈ P ++ D x := fun y hy => by
    rcases hy with hy | hy
    · exact .inl (List.mem_append_left _ hy)
    · rcases List.mem_append.1 hy with hy | hy
      · exact .inr (List.mem_append_left _ hy)
      · exact .inl (List.mem_append_right _ hy)
  refine ⟨?_, ?_, ?_, fun y hy => keep y (h3 y hy), ?_⟩
  · rw [List.nodup_append]
    exact ⟨h0, by simp, by intro a ha b hb; simp at hb; subst hb; intro e; exact hx (e ▸ ha)⟩
  · intro y hy
    rcases List.mem_append.1 hy with hy | hy
    · exact h1 y hy
    · have e : y = x := by simpa using hy
      rw [e]; exact hR
  · intro y hy
    rcases List.mem_append.1 hy with hy | hy
    · exact h2 y (List.mem_append_left _ hy)
    · exact R_more hR hy
  · intro x' hx' z hz
    rcases List.mem_append.1 hx' with hx' | hx'
    · exact keep z (h4 x' hx' z hz)
    · have e : x' = x := by simpa using hx'
      subst e
      exact .inr (List.mem_append_right _ hz)
theorem work_end {D : ByteArray → List ByteArray} {k : ByteArray} {L : List ByteArray} (h : Work D k L []) : ∀ y, y ∈ L ↔ R D k y := by
  obtain ⟨_, h1, _, h3, h4⟩ := h
  intro y
  refine ⟨h1 y, fun hr => hr (· ∈ L) (fun z hz => ?_) (fun x hx z hz => ?_)⟩
  · rcases h3 z hz with h | h
    · exact h
    · simp at h
  · rcases h4 x hx z hz with h | h
    · exact h
    · simp at h
/-- A list without repeats that lies in another is no longer. -/
theorem nodup_le : ∀ (L U : List ByteArray), L.Nodup → (∀ y ∈ L, y ∈ U) → L.length ≤ U.length
  | [], _, _, _ => Nat.zero_le _
  | x :: L, U, hn, hs => by
    have hn' := List.nodup_cons.1 hn
    obtain ⟨A, B, e⟩ := List.append_of_mem (hs x (List.mem_cons_self ..))
    have ih := nodup_le L (A ++ B) hn'.2 (fun y hy => by
      have h := hs y (List.mem_cons_of_mem _ hy)
      rw [e] at h
      rcases List.mem_append.1 h with h | h
      · exact List.mem_append_left _ h
      · rcases List.mem_cons.1 h with h | h
        · subst h; exact absurd hy hn'.1
        · exact List.mem_append_right _ h)
    rw [e]
    simp at ih ⊢
    omega

/-! ### The set of strings as a map to true -/
def setL (L : List ByteArray) : List (ByteArray × Value) := L.map fun y => (y, .bool true)
theorem setL_length (L : List ByteArray) : (setL L).length = L.length := by simp [setL]
theorem setL_get : ∀ (L : List ByteArray) (x : ByteArray), x ∈ L → getE (setL L) x = some (.bool true)
  | y :: L, x, h => by
    show (if x = y then some (Value.bool true) else getE (setL L) x) = _
    by_cases e : x = y
    · rw [if_pos e]
    · rw [if_neg e]
      exact setL_get L x (by rcases List.mem_cons.1 h with h | h
                             · exact absurd h e
                             · exact h)
theorem setL_none : ∀ (L : List ByteArray) (x : ByteArray), x ∉ L → getE (setL L) x = none
  | [], _, _ => rfl
  | y :: L, x, h => by
    simp at h
    show (if x = y then some (Value.bool true) else getE (setL L) x) = _
    rw [if_neg h.1]; exact setL_none L x h.2
theorem put_new : ∀ (l : List (ByteArray × Value)) (k : ByteArray) (v : Value), (∀ p ∈ l, p.1 ≠ k) → putE l k v = l ++ [(k, v)]
  | [], _, _, _ => rfl
  | p :: l, k, v, h => by
    unfold putE
    rw [if_neg (fun e => h p (List.mem_cons_self ..) e.symm), put_new l k v (fun q hq => h q (List.mem_cons_of_mem _ hq))]; rfl
theorem setL_put (L : List ByteArray) (x : ByteArray) (h : x ∉ L) : putE (setL L) x (.bool true) = setL (L ++ [x]) := by
  rw [put_new]
  · simp [setL]
  · intro p hp
    obtain ⟨y, hy, rfl⟩ := List.mem_map.1 hp
    intro e
    exact h (e ▸ hy)
theorem zero4 (w : World) : (zeroValue 4).run Try.prog w = .ok (.bool false) w := by
  have h : (Try.prog.info? 4).map (·.zero) = some (some (.bool false)) := by kernel_rfl
  cases hq : Try.prog.info? 4 with
  | none => simp [hq] at h
  | some i => simp [hq] at h; simp [zeroValue, typeInfo, hq, h]
theorem zero22 (w : World) : (zeroValue 22).run Try.prog w = .ok (.slice none 0 0) w := by
  have h : (Try.prog.info? 22).map (·.zero) = some (some (.slice none 0 0)) := by kernel_rfl
  cases hq : Try.prog.info? 22 with
  | none => simp [hq] at h
  | some i => simp [hq] at h; simp [zeroValue, typeInfo, hq, h]
theorem zero38 (w : World) : (zeroValue 38).run Try.prog w = .ok (.map none) w := by
  have h : (Try.prog.info? 38).map (·.zero) = some (some (.map none)) := by kernel_rfl
  cases hq : Try.prog.info? 38 with
  | none => simp [hq] at h
  | some i => simp [hq] at h; simp [zeroValue, typeInfo, hq, h]
theorem SOwn.pop {w : World} {B : Nat} {a : Option Addr} {n cap : Nat} {l : List ByteArray} {x : ByteArray} (h : SOwn w B (.slice a (n + 1) cap) (l ++ [x])) : SOwn w B (.slice a n cap) l := by
  obtain ⟨hl, h⟩ := h
  rcases h with ⟨e, _⟩ | ⟨g, cap', cur, e, hB, hg, hn, hm, hs, ht⟩
  · simp at e
  · have en : n = l.length := by simp at e; omega
    have ea : a = some ⟨g, 0, none⟩ := by simp at e; exact e.1
    have ec : cap = cap' := by simp at e; exact e.2.2
    subst en ea ec
    refine ⟨by simp, .inr ⟨g, cap, cur, rfl, hB, hg, by simp at hn; omega, hm, hs, ?_⟩⟩
    have h2 := congrArg (List.take l.length) ht
    rw [List.take_take] at h2
    simp only [List.length_append, List.length_cons, List.length_nil, Nat.zero_add, Nat.mul_one] at h2 ⊢
    rw [Nat.min_eq_left (by omega)] at h2
    rw [h2]
    simp
def mapSize (w : World) (q : Nat) : Nat := match w.heap[q]? with | some (.map es _) => es.size | _ => 0
theorem mapSize_of {w : World} {q : Nat} {l : List (ByteArray × Value)} (h : MapIs w q l) : mapSize w q = l.length := by
  unfold mapSize; rw [h]; simp [ents_length]
def sliceLen : Value → Nat | .slice _ n _ => n | _ => 0
end Go.Proofs.Qxb6619648a
