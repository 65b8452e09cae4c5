import Derived.Test.Qxb6619648aLaw
import Derived.Test.Qxb6619648aImp
import Derived.Test.Qxb6619648aBytes
namespace Go.Proofs.Qxb6619648a
open Go.ChangeShapes Go.WideShapes Go.ChangeAt Go.RowKit
/-- The value is the map that zzBuildMap lays. -/
def BM (w : World) (mv : Value) (K : List ByteArray) (dv : Nat → Value) : Prop := (mv = .map none ∧ K = []) ∨ ∃ r, mv = .map (some r) ∧ MapIs w r (bmE K dv K.length)
theorem build_any (kv v : Value) (K : List ByteArray) (m : Nat) (dv : Nat → Value) (dl : Nat → List ByteArray) (w : World) (hk : SV w kv K) (h : LV w v m dv dl) (hl : K.length ≤ 256) :
    Calls Try.prog 6 #[kv, v] w fun e w' => ∃ mv, e = .returned mv ∧ Below w.heap.size w w' ∧ BM w' mv K dv := by
  obtain ⟨a, cap, rfl, h0, _⟩ := id hk
  cases a with
  | none =>
    obtain ⟨rfl, rfl⟩ := h0 rfl
    refine (build_nil v 0 w).mono ?_
    rintro e w' ⟨rfl, rfl⟩
    exact ⟨_, rfl, Below.refl _ _, .inl ⟨rfl, rfl⟩⟩
  | some ad =>
    refine (build_some ad cap v K m dv dl w hk h hl).mono ?_
    rintro e w' ⟨rfl, hm, hb⟩
    exact ⟨_, rfl, hb, .inr ⟨_, rfl, hm⟩⟩
/-- What stands in memory behind NewHierarchy. -/
def Got (w : World) (q : Nat) (F : List (ByteArray × Value)) (K : List ByteArray) (dv : Nat → Value) (dl : Nat → List ByteArray) : Prop :=
  ∃ H, MapIs w q F ∧ Good w H (Dk K dl) F ∧ F.length = (bmE K dv K.length).length ∧ (F.map (·.1)).Nodup ∧ ∀ p ∈ F, p.1 ∈ (bmE K dv K.length).map (·.1)
theorem Got.below {w w' : World} {q : Nat} {F : List (ByteArray × Value)} {K : List ByteArray} {dv : Nat → Value} {dl : Nat → List ByteArray} (h : Got w q F K dv dl) {B : Nat} (hb : Below B w w') (hB : w.heap.size ≤ B) : Got w' q F K dv dl := by
  obtain ⟨H, h1, h2, r⟩ := h
  refine ⟨H, mapIs_below h1 hb (Nat.lt_of_lt_of_le (mapIs_lt h1) hB), fun p hp => ?_, r⟩
  obtain ⟨rk, L, e, hH, hm, hr⟩ := h2 p hp
  exact ⟨rk, L, e, hH, mapIs_below hm hb (Nat.lt_of_lt_of_le (mapIs_lt hm) hB), hr⟩
theorem Got.get {w : World} {q : Nat} {F : List (ByteArray × Value)} {K : List ByteArray} {dv : Nat → Value} {dl : Nat → List ByteArray} (h : Got w q F K dv dl) {i : Nat} (hi : i < K.length) :
    ∃ rk L, getE F (nth K i) = some (.map (some rk)) ∧ MapIs w rk (setL L) ∧ L.Nodup ∧ ∀ y, y ∈ L ↔ R (Dk K dl) (nth K i) y := by
  obtain ⟨H, h1, h2, h3, h4, h5⟩ := h
  have hin : nth K i ∈ F.map (·.1) := Classical.byContradiction fun hno => by
    have h6 := nodup_le (nth K i :: F.map (·.1)) ((bmE K dv K.length).map (·.1)) (List.nodup_cons.2 ⟨hno, h4⟩) (fun y hy => by
      rcases List.mem_cons.1 hy with rfl | hy
      · exact (bm_mem K dv _ _).2 ⟨i, hi, rfl⟩
      · obtain ⟨p, hp, rfl⟩ := List.mem_map.1 hy
        exact h5 p hp)
    simp at h6
    omega
  obtain ⟨j, hj, e⟩ := mem_keys hin
  have hg := getE_some h4 j hj
  obtain ⟨rk, L, e2, _, hm, hL, hR⟩ := h2 F[j] (List.getElem_mem hj)
  rw [e, e2] at hg
  rw [e] at hR
  exact ⟨rk, L, hg, hm, hL, hR⟩
theorem newh_any (mv : Value) (K : List ByteArray) (dv : Nat → Value) (dl : Nat → List ByteArray) (w : World) (hm : BM w mv K dv) (hd : ∀ i, SV w (dv i) (dl i)) (hl : K.length ≤ 256) (hdl : ∀ i, (dl i).length ≤ 256) :
    Calls Try.prog 8 #[mv] w fun e w' => ∃ q F, e = .returned (.agg #[.map (some q)]) ∧ Below w.heap.size w w' ∧ Got w' q F K dv dl := by
  rcases hm with ⟨rfl, rfl⟩ | ⟨r, rfl, hm⟩
  · refine (newh_nil w).mono ?_
    rintro e w' ⟨q, rfl, hb, h⟩
    exact ⟨q, [], rfl, hb, 0, h, fun p hp => by simp at hp, rfl, List.nodup_nil, fun p hp => by simp at hp⟩
  · have hul := nodes_length K dl hdl K.length
    refine (newh_some r (bmE K dv K.length) (Dk K dl) (nodesL K dl K.length) w hm (bm_nodup K dv _) (fun k => sv_bm K hd k _) (fun k => DL_len K dl hdl k _) (fun k y hy => Dk_nodes hy) (by omega)).mono ?_
    rintro e w' ⟨q, F, rfl, hb, h1, h2, h3, h4, h5⟩
    exact ⟨q, F, rfl, hb, _, h1, h2, h3, h4, h5⟩
theorem dl_all {w : World} {v : Value} {m : Nat} {dv : Nat → Value} {dl : Nat → List ByteArray} (h : LV w v m dv dl) (hs : ∀ i, i < m → (dl i).length ≤ 256) : ∀ i, (dl i).length ≤ 256 := by
  intro i
  by_cases hi : i < m
  · exact hs i hi
  · obtain ⟨_, h2, h3⟩ := h
    obtain ⟨a, c, e, _⟩ := h3 i
    rw [h2 i (by omega)] at e
    simp at e
    omega
/-- All that stands when the law's loop starts. -/
def Laid (w : World) (kv nv : Value) (K : List ByteArray) (dv : Nat → Value) (dl : Nat → List ByteArray) (q : Nat) (F : List (ByteArray × Value)) (r p : Nat) (M : Nat → Nat → Bool) : Prop :=
  SV w kv K ∧ SV w nv (nodesL K dl K.length) ∧ MapIs w r (idxF 0 (nodesL K dl K.length)) ∧ Got w q F K dv dl ∧ EM K dl (nodesL K dl K.length) K.length M ∧ Mat w p (nodesL K dl K.length).length (Tb M (nodesL K dl K.length).length)
theorem Laid.below {w w' : World} {kv nv : Value} {K : List ByteArray} {dv : Nat → Value} {dl : Nat → List ByteArray} {q : Nat} {F : List (ByteArray × Value)} {r p : Nat} {M : Nat → Nat → Bool} (h : Laid w kv nv K dv dl q F r p M) {B : Nat} (hb : Below B w w') (hB : w.heap.size ≤ B) : Laid w' kv nv K dv dl q F r p M := by
  obtain ⟨h1, h2, h3, h4, h5, h6⟩ := h
  exact ⟨h1.below hb hB, h2.below hb hB, mapIs_below h3 hb (Nat.lt_of_lt_of_le (mapIs_lt h3) hB), h4.below hb hB, h5, h6.below hb (Nat.lt_of_lt_of_le h6.1 hB)⟩
theorem eql_map (o : Option Nat) (w : World) : (binOp .eql 38 (.map o) (.map none)).run Try.prog w = .ok (.bool o.isNone) w := by
  have h2 : ∀ d : Nat, (Op.equalIn (d + 1) 38 (.map o) (.map none)).run Try.prog w = .ok o.isNone w := fun d => by
    cases o <;> simp [Op.equalIn, run_underlying Try.underlying38]
  simp only [binOp]
  simp [Op.equal, Op.maxDepth, h2 9999]
end Go.Proofs.Qxb6619648a
