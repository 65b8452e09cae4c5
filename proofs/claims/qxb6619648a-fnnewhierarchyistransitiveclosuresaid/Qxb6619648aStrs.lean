import Derived.Test.Qxb6619648aRange
namespace Go.Proofs.Qxb6619648a
open Go.ChangeShapes Go.WideShapes Go.ChangeAt Go.RowKit

/-! ### Slices of strings -/
/-- The i-th string. -/
def nth (l : List ByteArray) (i : Nat) : ByteArray := l.getD i ByteArray.empty
theorem nth_eq {l : List ByteArray} {i : Nat} (h : i < l.length) : nth l i = l[i] := by
  unfold nth; rw [List.getD_eq_getElem?_getD, List.getElem?_eq_getElem h]; rfl
theorem nth_mem {l : List ByteArray} {i : Nat} (h : i < l.length) : nth l i ∈ l := by rw [nth_eq h]; exact List.getElem_mem h
theorem mem_nth {l : List ByteArray} {x : ByteArray} (h : x ∈ l) : ∃ i, i < l.length ∧ nth l i = x := by
  obtain ⟨i, hi, e⟩ := List.mem_iff_getElem.1 h
  exact ⟨i, hi, by rw [nth_eq hi]; exact e⟩
/-- v is a slice of strings that reads as l. -/
def SV (w : World) (v : Value) (l : List ByteArray) : Prop :=
  ∃ a cap, v = .slice a l.length cap ∧ (a = none → cap = 0 ∧ l = []) ∧
    (l ≠ [] → ∃ b o, a = some ⟨b, o, none⟩ ∧ b < w.heap.size ∧ ∀ j, j < l.length → w.cell? ⟨b, o + j, none⟩ = some (.string (nth l j)))
theorem SV.below {w w' : World} {B : Nat} {v : Value} {l : List ByteArray} (h : SV w v l) (hb : Below B w w') (hB : w.heap.size ≤ B) : SV w' v l := by
  obtain ⟨a, cap, e, h0, h1⟩ := h
  refine ⟨a, cap, e, h0, fun hl => ?_⟩
  obtain ⟨b, o, ea, hlt, hc⟩ := h1 hl
  exact ⟨b, o, ea, Nat.lt_of_lt_of_le hlt hb.size, fun j hj => by rw [hb.cell (p := ⟨b, o + j, none⟩) (Nat.lt_of_lt_of_le hlt hB)]; exact hc j hj⟩
theorem SV.nil (w : World) : SV w (.slice none 0 0) [] := ⟨none, 0, rfl, fun _ => ⟨rfl, rfl⟩, fun h => absurd rfl h⟩
/-- v is a slice of strings in memory of the call's own, from block B up. -/
def SOwn (w : World) (B : Nat) (v : Value) (l : List ByteArray) : Prop := w.ownsRow B 9 1 v l.length (l.map Value.string)
theorem SOwn.sv {w : World} {B : Nat} {v : Value} {l : List ByteArray} (h : SOwn w B v l) : SV w v l := by
  obtain ⟨hl, h⟩ := h
  rcases h with ⟨rfl, h0⟩ | ⟨g, cap, cur, rfl, hB, hg, hn, hm, hs, ht⟩
  · have e : l = [] := List.eq_nil_of_length_eq_zero h0
    subst e; exact SV.nil w
  · refine ⟨some ⟨g, 0, none⟩, cap, rfl, fun h => by simp at h, fun _ => ⟨g, 0, rfl, (Array.getElem?_eq_some_iff.1 hg).1, fun j hj => ?_⟩⟩
    have e1 : w.cell? ⟨g, 0 + j, none⟩ = cur[j]? := by simp [World.cell?, hg]
    rw [e1]
    have e2 : (cur.toList.take (l.length * 1))[j]? = (l.map Value.string)[j]? := by rw [ht]
    rw [List.getElem?_take, if_pos (by omega), List.getElem?_map, List.getElem?_eq_getElem hj] at e2
    rw [nth_eq hj]
    simpa using e2
theorem SOwn.nil (w : World) (B : Nat) : SOwn w B (.slice none 0 0) [] := ⟨rfl, .inl ⟨rfl, rfl⟩⟩
/-- The block of a slice that the call owns lies from B up. -/
theorem SOwn.own {w : World} {B : Nat} {v : Value} {l : List ByteArray} (h : SOwn w B v l) : ∀ k, v.ownBlock = some k → B ≤ k := by
  intro k hk
  rcases h.2 with ⟨rfl, _⟩ | ⟨g, cap, cur, rfl, hB, _⟩
  · simp [Value.ownBlock] at hk
  · simp [Value.ownBlock] at hk; omega
theorem SOwn.keep {w w' : World} {B : Nat} {v : Value} {l : List ByteArray} (h : SOwn w B v l) (hk : ∀ k, B ≤ k → k < w.heap.size → w'.heap[k]? = w.heap[k]?) : SOwn w' B v l := by
  refine ⟨h.1, ?_⟩
  rcases h.2 with h | ⟨g, cap, cur, e, hB, hg, r⟩
  · exact .inl h
  · exact .inr ⟨g, cap, cur, e, hB, by rw [hk g hB (Array.getElem?_eq_some_iff.1 hg).1]; exact hg, r⟩
theorem SOwn.made (w : World) : SOwn (w.alloc (.cells #[] 9)) w.heap.size (.slice (some ⟨w.heap.size, 0, none⟩) 0 0) [] :=
  ⟨rfl, .inr ⟨w.heap.size, 0, #[], rfl, Nat.le_refl _, (MapKept.heap_alloc w _).1, Nat.le_refl _, Nat.zero_le _, rfl, rfl⟩⟩
theorem info9 : ∃ i, Try.prog.info? 9 = some i ∧ i.zero = some (.string ⟨#[]⟩) ∧ i.size = 1 ∧ i.bytes = 16 := by
  have h : (Try.prog.info? 9).map (fun i => (i.zero, i.size, i.bytes)) = some (some (.string ⟨#[]⟩), 1, 16) := by kernel_rfl
  cases hq : Try.prog.info? 9 with
  | none => simp [hq] at h
  | some i => simp [hq] at h; exact ⟨i, rfl, h⟩
theorem app_ok {w : World} {B : Nat} {v x : Value} {l ext : List ByteArray} (hown : SOwn w B v l) (hx : SV w x ext) (hlen : l.length + ext.length ≤ 4294967296) (hB : B ≤ w.heap.size) :
    ∃ v' w', (∀ ty, (Builtin.append_ #[22, 22] ty #[v, x]).run Try.prog w = .ok v' w') ∧ SOwn w' B v' (l ++ ext) ∧ w.grownBy w' v.ownBlock := by
  obtain ⟨i, hi, hz, hsz, hby⟩ := info9
  obtain ⟨a, cap, rfl, h0, h1⟩ := hx
  cases a with
  | none =>
    obtain ⟨rfl, rfl⟩ := h0 rfl
    refine ⟨v, w, fun ty => run_append_owned_none (P := Try.prog) w B 22 ty 9 i 1 Try.underlying22 hi v l.length _ hown, by rw [List.append_nil]; exact hown, ⟨rfl, rfl, rfl, Nat.le_refl _, fun _ _ _ => rfl⟩⟩
  | some ad =>
    have hc : ∀ j u, (ext.map Value.string)[j]? = some u → w.cell? (ad.add j) = some u := by
      intro j u hu
      have hj : j < ext.length := by
        rcases Nat.lt_or_ge j ext.length with h | h
        · exact h
        · rw [List.getElem?_eq_none (by simpa using h)] at hu; cases hu
      obtain ⟨b, o, e, _, hc⟩ := h1 (by intro e; rw [e] at hj; simp at hj)
      cases e
      rw [Addr.add_lit]
      rw [hc j hj, nth_eq hj]
      rw [List.getElem?_map, List.getElem?_eq_getElem hj] at hu
      simpa using hu
    obtain ⟨v', w', hr, ho, hg, _⟩ := run_append_own (P := Try.prog) w B 22 0 9 i _ 1 16 Try.underlying22 hi hz hsz hby rfl (by omega) v l.length _ hown ad ext.length cap (ext.map Value.string) (by simp) hc (by
      intro u hu; obtain ⟨s, _, rfl⟩ := List.mem_map.1 hu; rfl) (by unfold maxLen; omega) (by omega) hB
    refine ⟨v', w', fun ty => ?_, ?_, hg⟩
    · obtain ⟨v2, w2, hr2, _⟩ := run_append_own (P := Try.prog) w B 22 ty 9 i _ 1 16 Try.underlying22 hi hz hsz hby rfl (by omega) v l.length _ hown ad ext.length cap (ext.map Value.string) (by simp) hc (by
        intro u hu; obtain ⟨s, _, rfl⟩ := List.mem_map.1 hu; rfl) (by unfold maxLen; omega) (by omega) hB
      have e : Builtin.append_ #[22, 22] ty #[v, .slice (some ad) ext.length cap] = Builtin.append_ #[22, 22] 0 #[v, .slice (some ad) ext.length cap] := rfl
      rw [e]; exact hr
    · unfold SOwn
      rw [List.length_append, List.map_append]; exact ho
theorem wpList_run_append {P : Program} {w : World} {ops : Array Oper} {rest : List Oper} {o : Oper} {a : Act} {Q : Exit → Act → World → Prop} (hgd : o.guard = none) (s x : Operand) (t tx : TypeId)
    (ho : o.op = .call { callee := .builtin .append, args := #[s, x], argTypes := #[t, tx] }) {vs vx v' : Value} {w' : World} (hs : a.eval s = vs) (hx : a.eval x = vx)
    (hrun : ∀ ty, (Builtin.append_ #[t, tx] ty #[vs, vx]).run P w = .ok v' w') (h : wpList P ops Q rest (a.put o.dst v') w') : wpList P ops Q (o :: rest) a w := by
  refine wpList_plain hgd fun K hK' => ?_
  unfold Oper.wp
  simp [execOp, ho, resolve, invoke, builtin, hs, hx, hrun, Result.andThen]
  exact hK' _ _ h
theorem grown_below {w w' : World} {row : Option Nat} {B : Nat} (h : w.grownBy w' row) (hB : B ≤ w.heap.size) (hr : ∀ k, row = some k → B ≤ k) : Below B w w' :=
  (Below.refl B w).grown h hB hr

theorem eql_nil (t e : TypeId) (a : Option Addr) (l c : Nat) (w : World) (h : Try.prog.underlying t = some (.slice e)) : (binOp .eql t (.slice a l c) (.slice none 0 0)).run Try.prog w = .ok (.bool a.isNone) w := by
  have h2 : ∀ d : Nat, (Op.equalIn (d + 1) t (.slice a l c) (.slice none 0 0)).run Try.prog w = .ok a.isNone w := fun d => by
    cases a <;> simp [Op.equalIn, run_underlying h]
  simp only [binOp]
  simp [Op.equal, Op.maxDepth, h2 9999]
set_option maxHeartbeats 400000 in
theorem clone_any (x : Value) (l : List ByteArray) (w : World) (hx : SV w x l) (hl : l.length ≤ 4194304) :
    Calls Try.prog 16 #[x] w fun e w' => ∃ v, e = .returned v ∧ SOwn w' w.heap.size v l ∧ Below w.heap.size w w' := by
  obtain ⟨a, cap, rfl, h0, h1⟩ := id hx
  cases a with
  | none =>
    obtain ⟨rfl, rfl⟩ := h0 rfl
    clear h0 h1 hx
    have hq := eql_nil 22 9 none 0 0 w Try.underlying22
    go_enter Try.func16, Try.ntmps16
    go_wp2
    go_ret
    exact ⟨_, rfl, SOwn.nil _ _, Below.refl _ _⟩
  | some ad =>
    have HX : Hid (SV w (.slice (some ad) l.length cap) l) := hx
    clear h0 h1 hx
    have hq := eql_nil 22 9 (some ad) l.length cap w Try.underlying22
    obtain ⟨v', w', hrun, ho, hg⟩ := app_ok (SOwn.made w) (HX.out.below ((Below.refl _ w).alloc (Nat.le_refl _) (.cells #[] 9)) (Nat.le_refl _)) (by simp; omega) (by simp)
    have hb : Below w.heap.size w w' := ((Below.refl _ w).alloc (Nat.le_refl _) (.cells #[] 9)).trans (grown_below hg (by simp) (SOwn.made w).own)
    have HO : Hid (SOwn w' w.heap.size v' ([] ++ l)) := ho
    have HB : Hid (Below w.heap.size w w') := hb
    clear ho hg hb
    go_enter Try.func16, Try.ntmps16
    go_wp2_with (at_builtin; refine wpList_run_append rfl _ _ 22 22 rfl rfl rfl hrun ?_)
    go_ret
    exact ⟨_, rfl, HO.out, HB.out⟩
end Go.Proofs.Qxb6619648a
