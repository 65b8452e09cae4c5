import Derived.Test.Qxb6619631aInsLaw
import Derived.Deep.DeepCutAuto
import Derived.Deep.Light
namespace Go.Proofs.Qxb6619631a
open Go.ChangeShapes Go.WideShapes Go.ChangeAt Go.RowKit
def lettersB (z : Int) : Bool := z == 106 || z == 102 || z == 109 || z == 97 || z == 115 || z == 111 || z == 110 || z == 100
/-- The names that isMonth knows, as it asks for them. -/
def monthsB (l : List UInt8) : Bool := l == [106, 97, 110] || l == [102, 101, 98] || l == [109, 97, 114] || l == [97, 112, 114] || l == [109, 97, 121] || l == [106, 117, 110] || l == [106, 117, 108] || l == [97, 117, 103] || l == [115, 101, 112] || l == [115, 101, 112, 116] || l == [111, 99, 116] || l == [110, 111, 118] || l == [100, 101, 99] || l == [106, 97, 110, 117, 97, 114, 121] || l == [102, 101, 98, 114, 117, 97, 114, 121] || l == [109, 97, 114, 99, 104] || l == [97, 112, 114, 105, 108] || l == [106, 117, 110, 101] || l == [106, 117, 108, 121] || l == [97, 117, 103, 117, 115, 116] || l == [115, 101, 112, 116, 101, 109, 98, 101, 114] || l == [111, 99, 116, 111, 98, 101, 114] || l == [110, 111, 118, 101, 109, 98, 101, 114] || l == [100, 101, 99, 101, 109, 98, 101, 114]
def monthsL : List (List UInt8) := [[106, 97, 110], [102, 101, 98], [109, 97, 114], [97, 112, 114], [109, 97, 121], [106, 117, 110], [106, 117, 108], [97, 117, 103], [115, 101, 112], [115, 101, 112, 116], [111, 99, 116], [110, 111, 118], [100, 101, 99], [106, 97, 110, 117, 97, 114, 121], [102, 101, 98, 114, 117, 97, 114, 121], [109, 97, 114, 99, 104], [97, 112, 114, 105, 108], [106, 117, 110, 101], [106, 117, 108, 121], [97, 117, 103, 117, 115, 116], [115, 101, 112, 116, 101, 109, 98, 101, 114], [111, 99, 116, 111, 98, 101, 114], [110, 111, 118, 101, 109, 98, 101, 114], [100, 101, 99, 101, 109, 98, 101, 114]]
theorem monthsB_iff (l : List UInt8) : monthsB l = true ↔ l ∈ monthsL := by
  simp only [monthsB, monthsL, Bool.or_eq_true, beq_iff_eq, List.mem_cons, List.not_mem_nil, or_false, or_assoc]
theorem val_bool {a b : Bool} (h : a = b) : Value.bool a = .bool b := by rw [h]
/-- c | 0x20, as the walk writes it. -/
def orI (c : Int) : Int := bits BinOp.or IntKind.u8 c 32
def lowL (L : List UInt8) : List UInt8 := L.map fun c => UInt8.ofNat (orI (c.toNat : Int)).toNat

theorem part_start9 (f : Nat → Int) (w : World) : Part (w.alloc (.cells #[.int .u8 0, .int .u8 0, .int .u8 0, .int .u8 0, .int .u8 0, .int .u8 0, .int .u8 0, .int .u8 0, .int .u8 0] 29)) w.heap.size 9 0 f := by
  refine ⟨by simp, fun o ho => ⟨?_, frozen_of (heap_alloc_new w _) o⟩, fun i hi => by omega⟩
  refine ⟨.int .u8 0, ?_⟩
  rw [cell_of (heap_alloc_new w _) o]
  match o, ho with
  | 0, _ | 1, _ | 2, _ | 3, _ | 4, _ | 5, _ | 6, _ | 7, _ | 8, _ => rfl
theorem conv_pre (w : World) (r N n m : Nat) (f : Nat → Int) (h : Part w r N n f) :
    (convert 24 9 (.slice (some ⟨r, 0, none⟩) n m)).run Try.prog w = .ok (.string (bytesOf ((List.range n).map f))) w := by
  rw [run_convert_bytes_string w 24 9 5 _ _ _ Try.underlying24 Try.underlying5 Try.underlying9]
  have hl := run_loadCells_list (P := Try.prog) w ⟨r, 0, none⟩ (((List.range n).map f).map (Value.int .u8)) (by
    intro j v hj
    have hjn : j < n := by
      rcases Nat.lt_or_ge j n with h1 | h1
      · exact h1
      · rw [List.getElem?_eq_none (by simpa using h1)] at hj; cases hj
    simp [hjn] at hj
    subst hj
    have := h.2.2 j hjn
    by_cases e : j = 0
    · subst e; exact this
    · simpa [Addr.add, e] using this)
  simp only [List.length_map, List.length_range] at hl
  exact run_bytesToString w ⟨r, 0, none⟩ n m _ hl

set_option maxHeartbeats 1000000 in
theorem ism_walk (s : ByteArray) (w : World) (h1 : 3 ≤ s.size) (h2 : s.size ≤ 9) (f : Nat → Int) (hf : ∀ j (h : j < s.size), f j = orI (s[j].toNat : Int)) (T : ByteArray) (hT : Hid (bytesOf ((List.range s.size).map f) = T)) :
    Calls Try.prog 14 #[.string s] w fun e w' => e = .returned (.bool (lettersB (orI (s[0].toNat : Int)) && monthsB T.toList)) ∧ Grown w w' := by
  have HF : Hid (∀ j (h : j < s.size), f j = orI (s[j].toNat : Int)) := hf
  clear hf
  unfold orI
  go_enter Try.func14, Try.ntmps14
  go_upto_if 16 with fail
  go_cut [16] (fun s16 w' => w' = w ∧ s16 = .bool (lettersB (bits BinOp.or IntKind.u8 (s[0].toNat : Int) 32)))
  case first =>
    go_wp2_with fail
    all_goals go_meet
    all_goals exact ⟨rfl, val_bool (by simp [lettersB, *])⟩
  case rest =>
    obtain ⟨rfl, rfl⟩ := hcut
    cases hl : lettersB (bits BinOp.or IntKind.u8 (s[0].toNat : Int) 32)
    · go_wp2
      go_ret
      exact ⟨ret_bool (by rw [hl]; rfl), Grown.refl _⟩
    · go_wp2
      go_loopw [4, 27] (fun _ t wr => ∃ k : Nat, k ≤ s.size ∧ t = .int .i64 k ∧ Grown wc wr ∧ Part wr wc.heap.size 9 k f) (fun _ t _ => s.size - (intOf t).toNat)
      case atStart => exact ⟨0, by omega, rfl, (Grown.refl _).alloc _ _, part_start9 f wc⟩
      case round =>
        obtain ⟨k, hk, rfl, hbel, hpart⟩ := hrel
        have HBel : Hid (Grown wc wr) := hbel
        have HP : Hid (Part wr wc.heap.size 9 k f) := hpart
        clear hbel hpart
        by_cases hlt : k < s.size
        · obtain ⟨⟨v, hv⟩, hfz⟩ := HP.out.2.1 k (by omega)
          have hb : (k : Int) < 9 := by omega
          have hb' : (k : Int) < (s.size : Int) := by omega
          go_wp2
          go_roundw
          case rel =>
            have hp := part_step HP.out (by omega)
            rw [HF.out k hlt] at hp
            exact ⟨k + 1, by omega, by go_num, HBel.out.setCell (a := ⟨wc.heap.size, k, none⟩) (Nat.le_refl _) _, hp⟩
          case measure => simp [intOf]; omega
        · have ek : k = s.size := by omega
          have hp := HP.out
          rw [ek] at hp
          have hcv := conv_pre wr _ _ s.size 9 f hp
          rw [hT.out] at hcv
          clear ek hp HP
          go_upto_if 41 with fail
          go_cut [41] (fun s41 w' => w' = wr ∧ s41 = .bool (monthsB T.toList))
          case first =>
            go_wp2_with fail
            all_goals go_meet
            all_goals exact ⟨rfl, val_bool (by go_light; simp [monthsB, *])⟩
          case rest =>
            obtain ⟨rfl, rfl⟩ := hcut
            cases hm : monthsB T.toList
            · go_wp2
              go_ret
              exact ⟨ret_bool (by rw [hl, hm]; rfl), HBel.out⟩
            · go_wp2
              go_ret
              exact ⟨ret_bool (by rw [hl, hm]; rfl), HBel.out⟩
end Go.Proofs.Qxb6619631a
