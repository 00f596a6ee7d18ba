import Derived.Test.YbulkxgcDoorPeek
import Derived.Deep.RegionLaw
namespace Go.Proofs.YbulkxgcDoor.Dc
open Go.RowKit
open _root_.Go.Proofs.YbulkxgcDoor.Bt

theorem info5 : (Ybad.prog.info? 5).map (·.size) = some 1 := by kernel_rfl

/-- eight zero bytes -/
def zeros8 : List Value := [.int .u8 0, .int .u8 0, .int .u8 0, .int .u8 0, .int .u8 0, .int .u8 0, .int .u8 0, .int .u8 0]

/-- the copied bytes, zeros behind them -/
theorem copied8 {w : World} {g nb i : Nat} {bs : List Bool} (hnb : nb = (bs.length + 7) / 8) (hi : i ≤ nb)
    (hg : w.heap[g]? = some (.cells (splice zeros8 0 ((List.range (nb - i)).map fun k => Value.int .u8 (Bt.byteOf bs (i + k)))).toArray 87 (0, 0))) :
    ∀ k, k < 8 → w.cell? ⟨g, 0 + k, none⟩ = some (.int .u8 (Bt.byteOf bs (i + k))) := by
  intro k hk
  rw [Nat.zero_add, cell_of_row w g k _ 87 (0, 0) hg]
  simp only [splice, List.take_zero, List.nil_append, Nat.zero_add, List.length_map, List.length_range, List.getElem?_toArray]
  by_cases h : k < nb - i
  · rw [List.getElem?_append_left (by simpa using h)]
    simp [h]
  · rw [List.getElem?_append_right (by simp; omega)]
    have hz : Bt.byteOf bs (i + k) = 0 := byteOf_past bs (i + k) (by omega)
    rw [hz]
    simp only [List.length_map, List.length_range, List.getElem?_drop]
    rw [show nb - i + (k - (nb - i)) = k by omega]
    match k, hk with
    | 0, _ => rfl
    | 1, _ => rfl
    | 2, _ => rfl
    | 3, _ => rfl
    | 4, _ => rfl
    | 5, _ => rfl
    | 6, _ => rfl
    | 7, _ => rfl

set_option maxHeartbeats 1000000 in
set_option maxRecDepth 100000 in
theorem peek_short (g nb cap off : Nat) (bs : List Bool) (w : World) (hd : ByteRow w g nb cap bs) (hlen : bs.length ≤ 100000) (hi : nb < off / 8 + 8) (hoff : off < bs.length) :
    Calls Ybad.prog 23 #[.slice (some ⟨g, 0, none⟩) nb cap, .int .i64 off] w fun e w' => ∃ X : Nat, e = .returned (.int .u64 X) ∧ Look bs off X ∧ Below w.heap.size w w' := by
  obtain ⟨i, hiv⟩ : ∃ i : Nat, (off : Int) / 8 = (i : Int) := ⟨off / 8, by omega⟩
  have hi8 : nb < i + 8 := by omega
  have hnb : nb ≤ 12501 := by have := hd.hnb; omega
  have hin : i < nb := by have := hd.hnb; omega
  have hle := hd.le
  have HI : Hid (off / 8 = i) := by show _ = _; omega
  have hand := and7 off (by omega)
  obtain ⟨r, hrv⟩ : ∃ r : Nat, off % 8 = r := ⟨_, rfl⟩
  have hr8 : r < 8 := by omega
  rw [hrv] at hand
  have HR : Hid (off % 8 = r) := hrv
  clear hrv
  have hin' : i ≤ nb := by omega
  have hci : ¬ cap = i := by omega
  obtain ⟨w0, hw0⟩ : ∃ w0, w0 = w.alloc (.cells zeros8.toArray 87) := ⟨_, rfl⟩
  have hB0 : Below w.heap.size w w0.drew := by rw [hw0]; exact ((Below.refl _ _).alloc (Nat.le_refl _) _).drew
  have hG0 : w0.drew.heap[w.heap.size]? = some (.cells zeros8.toArray 87 (0, 0)) := by rw [hw0]; exact heap_alloc_new w _
  have hsrc : ∀ j v, ((List.range (nb - i)).map fun k => Value.int .u8 (Bt.byteOf bs (i + k)))[j]? = some v → w0.drew.cell? ((⟨g, i, none⟩ : Addr).add j) = some v := by
    intro j v hj
    have hjl : j < nb - i := by have := (List.getElem?_eq_some_iff.1 hj).1; simpa using this
    rw [Addr.add_lit, hB0.cell (by exact hd.lt), hd.cell (i + j) (by omega)]
    simp [hjl] at hj
    rw [hj]
  have HW : Hid (w0 = w.alloc (.cells zeros8.toArray 87)) := hw0
  clear hw0
  go_enter Ybad.func23, Ybad.ntmps23
  go_wp2
  rw [show (w.alloc (.cells #[.int .u8 0, .int .u8 0, .int .u8 0, .int .u8 0, .int .u8 0, .int .u8 0, .int .u8 0, .int .u8 0] 87)) = w0 from HW.out.symm]
  go_region_law (refine step_copy_splice rfl (.tmp 22) (.tmp 25) 25 25 rfl 5 Ybad.underlying25 info5 (some ⟨w.heap.size, 0, none⟩) (some ⟨g, i, none⟩) 8 8 (nb - i) (cap - i) rfl rfl w.heap.size 0 zeros8 87 hG0 ((List.range (nb - i)).map fun k => Value.int .u8 (Bt.byteOf bs (i + k))) (by rw [List.length_map, List.length_range]; exact (Nat.min_eq_left (by omega)).symm) (fun _ => ⟨rfl, _, rfl, hsrc⟩) (by simp [zeros8]; omega) (by intro v hv; obtain ⟨_, _, rfl⟩ := List.mem_map.1 hv; rfl) w.heap.size w hB0 (Nat.le_refl _) ?_; intro w4 hg4 hb4)
  all_goals
    have c := copied8 hd.hnb hin' hg4.out
    have hL := look_win bs off
    rw [HI.out, HR.out] at hL
    have hbe := be64 w.heap.size 0 8 8 _ _ _ _ _ _ _ _ w4.drew (lt_of_block hg4.out) (by omega) (byteOf_lt bs i) (byteOf_lt bs (i + 1)) (byteOf_lt bs (i + 2)) (byteOf_lt bs (i + 3)) (byteOf_lt bs (i + 4)) (byteOf_lt bs (i + 5)) (byteOf_lt bs (i + 6)) (byteOf_lt bs (i + 7))
      (c 0 (by omega)) (c 1 (by omega)) (c 2 (by omega)) (c 3 (by omega)) (c 4 (by omega)) (c 5 (by omega)) (c 6 (by omega)) (c 7 (by omega))
    rw [← win_bytes] at hbe
    generalize win bs i = V at hbe hL
    obtain ⟨X, hX, hLX⟩ : ∃ X : Nat, IntKind.u64.wrap ((V : Int) * 2 ^ r) = (X : Int) ∧ Look bs off X := ⟨_, wrap_shl V r, hL⟩
    have HBE := show Hid _ from hbe
    clear hbe hL c hsrc hG0
    go_wp2
    go_region_with (go_at_call 28; refine Calls.mono (Hid.out HBE) ?_; rintro e w' ⟨rfl, hB⟩)
    all_goals go_wp2
    all_goals go_ret
    all_goals exact ⟨X, rfl, hLX, hb4.drew.trans (hB.mono (by have := hb4.size; simp; omega))⟩
end Go.Proofs.YbulkxgcDoor.Dc
