import Derived.Test.Qxb6619648aNodesLaw
namespace Go.Proofs.Qxb6619648a
open Go.ChangeShapes Go.WideShapes Go.ChangeAt Go.RowKit
theorem zero3 (w : World) : (zeroValue 3).run Try.prog w = .ok (.int .i64 0) w := by
  have h : (Try.prog.info? 3).map (·.zero) = some (some (.int .i64 0)) := by kernel_rfl
  cases hq : Try.prog.info? 3 with
  | none => simp [hq] at h
  | some i => simp [hq] at h; simp [zeroValue, typeInfo, hq, h]
/-- The nodes and the index map in memory: the map is block r, the slice lies above it. -/
def NodesAt (w : World) (r : Nat) (nv : Value) (N : List ByteArray) : Prop := MapIs w r (idxF 0 N) ∧ SOwn w (r + 1) nv N
theorem SV_one (w : World) (s : ByteArray) : SV (w.alloc (.cells #[.string s] 9)) (.slice (some ⟨w.heap.size, 0, none⟩) 1 1) [s] := by
  refine ⟨some ⟨w.heap.size, 0, none⟩, 1, rfl, fun h => by simp at h, fun _ => ⟨w.heap.size, 0, rfl, by simp, fun j hj => ?_⟩⟩
  have e : j = 0 := by simp at hj; exact hj
  subst e
  unfold World.cell?
  rw [show (w.alloc (.cells #[.string s] 9)).heap[({ block := w.heap.size, off := 0 + 0, spot := none } : Addr).block]? = _ from (MapKept.heap_alloc w _).1]
  rfl
theorem node_old {w : World} {r : Nat} {nv : Value} {N : List ByteArray} {s : ByteArray} (h : NodesAt w r nv N) (hs : s ∈ N) (hn : N.Nodup) :
    ∃ u : Int, (Instr.lookup 32 (.map (some r)) (.string s) true).run Try.prog w = .ok (.tuple #[.int .i64 u, .bool true]) w := by
  obtain ⟨j, hj, e⟩ := mem_nth hs
  have hl := run_lookup2 s Try.underlying32 (zero3 w) h.1
  rw [← e, idx_some N 0 j hn hj] at hl
  rw [← e]
  exact ⟨_, hl⟩
theorem node_new {w : World} {r : Nat} {nv : Value} {N : List ByteArray} {s : ByteArray} (h : NodesAt w r nv N) (hs : s ∉ N) (hn : N.length ≤ 1048576) :
    (Instr.lookup 32 (.map (some r)) (.string s) true).run Try.prog w = .ok (.tuple #[.int .i64 0, .bool false]) w ∧
    ∃ W v' W', (Instr.mapUpdate 32 (.map (some r)) (.string s) (.int .i64 (N.length : Int))).run Try.prog w = .ok () W ∧
      (∀ ty, (Builtin.append_ #[22, 22] ty #[nv, .slice (some ⟨W.heap.size, 0, none⟩) 1 1]).run Try.prog (W.alloc (.cells #[.string s] 9)) = .ok v' W') ∧
      Below r w W ∧ Below r w W' ∧ NodesAt W' r v' (N ++ [s]) := by
  have hr : r < w.heap.size := mapIs_lt h.1
  have hl := run_lookup2 s Try.underlying32 (zero3 w) h.1
  rw [idx_none N s 0 hs] at hl
  refine ⟨hl, putB w r (mapO (putE (idxF 0 N) s (.int .i64 (N.length : Int)))), ?_⟩
  have hup := run_update s (.int .i64 (N.length : Int)) Try.underlying32 h.1
  have hp := idx_put N s 0 hs
  rw [Nat.zero_add] at hp
  rw [hp] at hup ⊢
  have hM : MapIs (putB w r (mapO (idxF 0 (N ++ [s])))) r (idxF 0 (N ++ [s])) := mapIs_put h.1
  have hO : SOwn (putB w r (mapO (idxF 0 (N ++ [s])))) (r + 1) nv N := h.2.keep fun k hk _ => putB_other w _ (by omega)
  have hS := putB_size w r (mapO (idxF 0 (N ++ [s])))
  have hBW : Below r w (putB w r (mapO (idxF 0 (N ++ [s])))) := Below.putB (Below.refl r w) (Nat.le_refl _) _
  generalize putB w r (mapO (idxF 0 (N ++ [s]))) = W at hup hM hO hS hBW ⊢
  have hbW : Below r w W := hBW
  have hOA : SOwn (W.alloc (.cells #[.string s] 9)) (r + 1) nv N := hO.keep fun k _ hk => (MapKept.heap_alloc W _).2 k hk
  obtain ⟨v', W', hrun, ho, hg⟩ := app_ok hOA (SV_one W s) (by simp; omega) (by simp; omega)
  have hbA : Below (r + 1) (W.alloc (.cells #[.string s] 9)) W' := grown_below hg (by simp; omega) hOA.own
  refine ⟨v', W', hup, hrun, hbW, ?_, ?_, ho⟩
  · exact hbW.trans (((Below.refl r W).alloc (by omega) _).trans (hbA.mono (by omega)))
  · exact mapIs_below (mapIs_below hM ((Below.refl (r + 1) W).alloc (by omega) _) (by omega)) hbA (by omega)
end Go.Proofs.Qxb6619648a
