import Derived.Test.Qxb6619648aSmall
namespace Go.Proofs.Qxb6619648a
open Go.ChangeShapes Go.WideShapes Go.ChangeAt Go.RowKit
/-- The map that zzBuildMap lays, after n keys. -/
def bmE (K : List ByteArray) (dv : Nat → Value) : Nat → List (ByteArray × Value)
  | 0 => []
  | n + 1 => putE (bmE K dv n) (nth K n) (dv n)
theorem undrew {B : Nat} {W w : World} (h : Below B W.drew w) : Below B W w := ⟨h.os, h.tape, h.output, h.size, h.block⟩
theorem below_drewI {B : Nat} {W w : World} (h : Below B W w) : Below B W w.drew := ⟨h.os, h.tape, h.output, h.size, h.block⟩

theorem mk_map {t e : TypeId} (ht : Try.prog.underlying t = some (.map 9 e)) (n : Int) (w : World) : (Instr.makeMap t (some (.int .i64 n))).run Try.prog w = .ok (.map (some w.heap.size)) (w.alloc (.map #[] 0)) := by
  simp [Instr.makeMap, run_underlying ht, asInt, asIntOf]
theorem build_nil (v : Value) (c : Nat) (w : World) :
    Calls Try.prog 6 #[.slice none 0 c, v] w fun e w' => e = .returned (.map none) ∧ w' = w := by
  have hq := eql_nil 22 9 none 0 c w Try.underlying22
  go_enter Try.func6, Try.ntmps6
  go_wp2
  go_ret
  exact ⟨rfl, rfl⟩
set_option maxHeartbeats 1000000 in
theorem build_some (ad : Addr) (cap : Nat) (v : Value) (K : List ByteArray) (m : Nat) (dv : Nat → Value) (dl : Nat → List ByteArray) (w : World) (hk : SV w (.slice (some ad) K.length cap) K) (h : LV w v m dv dl) (hl : K.length ≤ 256) :
    Calls Try.prog 6 #[.slice (some ad) K.length cap, v] w fun e w' => e = .returned (.map (some w.heap.size)) ∧ MapIs w' w.heap.size (bmE K dv K.length) ∧ Below w.heap.size w w' := by
  have hq := eql_nil 22 9 (some ad) K.length cap w Try.underlying22
  have HK : Hid (SV w (.slice (some ad) K.length cap) K) := hk
  have HL : Hid (LV w v m dv dl) := h
  clear hk h
  have hmk := mk_map Try.underlying25 K.length w
  go_enter Try.func6, Try.ntmps6
  go_wp2
  go_loopw [6] (fun i wr => ∃ k : Nat, k ≤ K.length ∧ i = .int .i64 k ∧ Below w.heap.size w wr ∧ MapIs wr w.heap.size (bmE K dv k)) (fun i _ => K.length - (intOf i).toNat)
  case atStart => exact ⟨0, Nat.zero_le _, rfl, (Below.refl _ _).alloc (Nat.le_refl _) _, mapIs_new w⟩
  case round =>
    obtain ⟨k, hk, rfl, hbel, hmap⟩ := hrel
    have HB : Hid (Below w.heap.size w wr) := hbel
    have HM : Hid (MapIs wr w.heap.size (bmE K dv k)) := hmap
    clear hbel hmap hq hmk
    by_cases hlt : k < K.length
    · obtain ⟨a, c, e, _, hcs⟩ := HK.out.below HB.out (Nat.le_refl _)
      obtain ⟨b, o, e2, hbl, hc⟩ := hcs (by intro e; rw [e] at hlt; simp at hlt)
      cases e
      cases e2
      have q := hc k hlt
      have hup := run_update (w := wr.drew) (nth K k) (dv k) Try.underlying25 HM.out
      have LA := listAt v m dv dl k wr.drew (HL.out.below (below_drewI HB.out) (Nat.le_refl _))
      have hb : (k : Int) < (K.length : Int) := by omega
      have hw0 : b < w.heap.size := by
        obtain ⟨_, _, ea, _, hcs2⟩ := HK.out
        obtain ⟨b', o', e2, hb', _⟩ := hcs2 (by intro e; rw [e] at hlt; simp at hlt)
        cases ea
        cases e2
        exact hb'
      have hpc : ∀ (W : World) (x : Obj) (j : Nat), (putB W w.heap.size x).cell? ⟨b, j, none⟩ = W.cell? ⟨b, j, none⟩ := fun W x j => World.cell?_of_block (putB_other W x (by show b ≠ _; omega))
      clear hcs hc
      generalize hs : nth K k = s at q hup
      generalize hx : dv k = x at hup LA
      have HS : Hid (nth K k = s) := hs
      have HX : Hid (dv k = x) := hx
      clear hs hx
      go_wp2
      go_region_held (fun w' => w'.cell? ⟨b, o + k, none⟩ = some (.string s)) (go_keep)
        (first | (go_at_call 15; refine LA.mono ?_; rintro e w2 ⟨rfl, rfl⟩))
      go_wp2
      go_roundw
      case rel =>
        refine ⟨k + 1, by omega, by go_num, Below.putB (below_drewI HB.out) (Nat.le_refl _) _, ?_⟩
        have := mapIs_put (l' := putE (bmE K dv k) (nth K k) (dv k)) (show MapIs wr.drew w.heap.size (bmE K dv k) from HM.out)
        rw [HS.out, HX.out] at this
        show MapIs _ _ (putE (bmE K dv k) (nth K k) (dv k))
        rw [HS.out, HX.out]
        exact this
      case measure => simp [intOf]; omega
    · have ek : k = K.length := by omega
      have hm := HM.out
      rw [ek] at hm
      go_wp2
      go_ret
      exact ⟨rfl, hm, HB.out⟩
end Go.Proofs.Qxb6619648a
