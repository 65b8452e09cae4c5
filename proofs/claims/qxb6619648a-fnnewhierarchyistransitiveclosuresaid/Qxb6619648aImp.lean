import Derived.Test.Qxb6619648aNewH
namespace Go.Proofs.Qxb6619648a
open Go.ChangeShapes Go.WideShapes Go.ChangeAt Go.RowKit
theorem implied (q : Nat) (w : World) : Calls Try.prog 7 #[.agg #[.map (some q)]] w fun e w' => e = .returned (.map (some q)) ∧ Below w.heap.size w w' := by
  go_enter Try.func7, Try.ntmps7
  go_wp2
  go_ret
  exact ⟨rfl, by first | exact (((Below.refl _ w).alloc (Nat.le_refl _) _).setCell (Nat.le_refl _) _) | exact ((Below.refl _ w).alloc (Nat.le_refl _) _)⟩
set_option maxRecDepth 100000 in
theorem newh_nil (w : World) : Calls Try.prog 8 #[.map none] w fun e w' => ∃ q, e = .returned (.agg #[.map (some q)]) ∧ Below w.heap.size w w' ∧ MapIs w' q [] := by
  obtain ⟨_, hsz, hcell, hmap, _, _⟩ := OI_start w 0 [] (fun _ => [])
  have hb : Below w.heap.size w (((w.alloc (.cells #[.map none] 30)).alloc (.map #[] 0)).alloc (.mapIter none 0 #[] 0)) := ((((Below.refl _ w).alloc (Nat.le_refl _) _).alloc (by simp) _).alloc (by simp; omega) _)
  have hln : (Builtin.len_ #[25] 3 #[.map none]).run Try.prog (w.alloc (.cells #[.map none] 30)) = .ok (.int .i64 0) (w.alloc (.cells #[.map none] 30)) := by
    simp [Builtin.len_, run_underlying Try.underlying25, goInt]
  have hmk := mk_map Try.underlying27 0 (w.alloc (.cells #[.map none] 30))
  have hrg := run_range_nilMap (P := Try.prog) ((w.alloc (.cells #[.map none] 30)).alloc (.map #[] 0)) 25 9 22 Try.underlying25
  have hnx : ∀ ty, (Instr.next (.pointer (some ⟨((w.alloc (.cells #[.map none] 30)).alloc (.map #[] 0)).heap.size, 0, none⟩)) false ty).run Try.prog (((w.alloc (.cells #[.map none] 30)).alloc (.map #[] 0)).alloc (.mapIter none 0 #[] 0)) = _ := fun ty => run_next_nilMap _ ty 0 0 #[]
  have HB : Hid (Below w.heap.size w (((w.alloc (.cells #[.map none] 30)).alloc (.map #[] 0)).alloc (.mapIter none 0 #[] 0))) := hb
  clear hb hsz hcell hmap
  go_enter Try.func8, Try.ntmps8
  go_wp2
  go_loopw [4] (fun _ wr => wr = (((w.alloc (.cells #[.map none] 30)).alloc (.map #[] 0)).alloc (.mapIter none 0 #[] 0))) (fun _ wr => 0)
  case atStart => rfl
  case round =>
    subst hrel
    have s1 : (w.alloc (.cells #[.map none] 30)).heap.size = w.heap.size + 1 := by simp
    have s2 : ((w.alloc (.cells #[.map none] 30)).alloc (.map #[] 0)).heap.size = w.heap.size + 1 + 1 := by simp
    have hcell : (((w.alloc (.cells #[.map none] 30)).alloc (.map #[] 0)).alloc (.mapIter none 0 #[] 0)).heap[w.heap.size]? = some (.cells #[.map none] 30) := by
      rw [(MapKept.heap_alloc _ _).2 _ (by rw [s2]; omega), (MapKept.heap_alloc _ _).2 _ (by rw [s1]; omega)]
      exact (MapKept.heap_alloc w _).1
    have hmap : MapIs (((w.alloc (.cells #[.map none] 30)).alloc (.map #[] 0)).alloc (.mapIter none 0 #[] 0)) (w.heap.size + 1) [] := by
      have h2 := mapIs_new (w.alloc (.cells #[.map none] 30))
      rw [s1] at h2
      exact mapIs_below h2 ((Below.refl _ _).alloc (Nat.le_refl _) _) (by rw [s2]; omega)
    have hnx2 := hnx 0
    rw [s2] at hnx2
    generalize (((w.alloc (.cells #[.map none] 30)).alloc (.map #[] 0)).alloc (.mapIter none 0 #[] 0)) = W at HB hcell hmap hnx2 ⊢
    have hc0 : W.cell? ⟨w.heap.size, 0, none⟩ = some (.map none) := by simp [World.cell?, hcell]
    have hf0 : W.frozen? ⟨w.heap.size, 0, none⟩ = false := by simp [World.frozen?, hcell]
    have HM : Hid (MapIs W (w.heap.size + 1) []) := hmap
    clear hnx hrg hmk hln hcell hmap s1 s2
    go_wp2
    refine bodyPost_ret (v := .agg #[.map (some (w.heap.size + 1))]) (by simp [results, Try.results8, go_sem, hc0]) rfl ⟨w.heap.size + 1, rfl, ?_, ?_⟩
    · exact HB.out.setCell (p := ⟨w.heap.size, 0, none⟩) (Nat.le_refl _) _
    · unfold MapIs; rw [Below.heap_setCell _ _ _ _ (by show w.heap.size + 1 ≠ w.heap.size; omega)]; exact HM.out
end Go.Proofs.Qxb6619648a
