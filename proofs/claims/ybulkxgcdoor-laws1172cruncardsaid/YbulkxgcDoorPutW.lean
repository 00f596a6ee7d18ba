import Derived.Test.YbulkxgcDoorPut
namespace Go.Proofs.YbulkxgcDoor.Dc
open Go.RowKit
open _root_.Go.Proofs.YbulkxgcDoor.Bt

theorem take_snoc (x k j : Nat) (h : j < k) : (bitsOf x k).take (j + 1) = (bitsOf x k).take j ++ [x.testBit (k - 1 - j)] := by
  rw [List.take_add_one]
  simp [bitsOf, h]

theorem own_form {w : World} {base : Nat} {e : TypeId} {size : Nat} {v : Value} {n : Nat} {xs : List Value} (h : w.ownsRow base e size v n xs) (hn : 0 < n) : ∃ g cap, v = .slice (some ⟨g, 0, none⟩) n cap := by
  rcases h.2 with ⟨_, h0⟩ | ⟨g, cap, cur, hv, _⟩
  · omega
  · exact ⟨g, cap, hv⟩

theorem or8 (a r : Nat) (ha : a < 256) (hr : r < 8) : bits .or .u8 (a : Int) (128 / 2 ^ r) = ((a ||| 2 ^ (7 - r) : Nat) : Int) := by
  have hk : ∀ n : Int, 0 ≤ n → n < 2 ^ 8 → IntKind.u8.wrap n = n := fun n h0 h1 => by simp [IntKind.wrap, IntKind.bits, IntKind.signed]; omega
  have hp : (128 / 2 ^ r : Int) = ((2 ^ (7 - r) : Nat) : Int) := by
    match r, hr with
    | 0, _ => rfl
    | 1, _ => rfl
    | 2, _ => rfl
    | 3, _ => rfl
    | 4, _ => rfl
    | 5, _ => rfl
    | 6, _ => rfl
    | 7, _ => rfl
  rw [hp]
  exact (bits_nat .u8 8 (by decide) hk a (2 ^ (7 - r)) ha (Nat.pow_lt_pow_right (by omega) (by omega))).2

/-- the round's end -/
theorem put_end {w wx : World} {B bw g cap N : Nat} {t : List Bool} {b : Bool} (hrow : wx.heap[bw]? = some (.cells #[.slice (some ⟨g, 0, none⟩) (N / 8 + 1) cap, .int .i64 N] 48 (0, 0)))
    (hown : wx.ownsRow B 5 1 (.slice (some ⟨g, 0, none⟩) (N / 8 + 1) cap) (N / 8 + 1) (bytesOf (t ++ [b]))) (hf : Fr B bw w wx) (hN : t.length = N) (hgb : g ≠ bw) (hlt : bw < B) (y : Int) (hy : y = (N : Int) + 1) :
    Wr (wx.setCell ⟨bw, 1, none⟩ (.int .i64 y)) B bw (.slice (some ⟨g, 0, none⟩) (N / 8 + 1) cap) (t ++ [b]) ∧ Fr B bw w (wx.setCell ⟨bw, 1, none⟩ (.int .i64 y)) := by
  have hl : (t ++ [b]).length = N + 1 := by rw [List.length_append, hN]; rfl
  refine ⟨⟨?_, ?_, hlt⟩, hf.set 1 _⟩
  · rw [hl, show (((N + 1 : Nat)) : Int) = y by omega]
    exact heap_setCell_same wx bw 1 _ 48 (.int .i64 y) hrow
  · rw [hl, show (N + 1 + 7) / 8 = N / 8 + 1 by omega]
    exact own_same hown (Below.heap_setCell _ _ _ _ hgb)

set_option maxHeartbeats 2000000 in
set_option maxRecDepth 100000 in
theorem put_any (B bw : Nat) (v0 : Value) (bs : List Bool) (x k : Nat) (hk : k ≤ 16) (hx : x < 18446744073709551616) (w : World) (h : Wr w B bw v0 bs) (hlen : bs.length ≤ 50000) (hB : B ≤ w.heap.size) :
    Calls Ybad.prog 8 #[.pointer (some ⟨bw, 0, none⟩), .int .u64 x, .int .i64 k] w fun e w' => e = .returned (.tuple #[]) ∧ ∃ v, Wr w' B bw v (bs ++ bitsOf x k) ∧ Fr B bw w w' := by
  obtain ⟨i0, hi, hz0, hz1, hz2⟩ := byte_info
  go_enter Ybad.func8, Ybad.ntmps8
  go_wp2_with fail
  go_loopg [6] k (fun g v6 wr => ∃ j v, j ≤ k ∧ g = k - j ∧ v6 = .int .i64 ((k : Int) - 1 - j) ∧ Wr wr B bw v (bs ++ (bitsOf x k).take j) ∧ Fr B bw w wr)
  case atStart => exact ⟨0, v0, by omega, by omega, by go_num, by simpa using h, Fr.refl _ _ _⟩
  case round =>
    clear h
    obtain ⟨j, v, hj, rfl, rfl, hw, hf⟩ := hrel
    by_cases hjk : j < k
    · obtain ⟨t, ht⟩ : ∃ t, bs ++ (bitsOf x k).take j = t := ⟨_, rfl⟩
      obtain ⟨q, hq⟩ : ∃ q : Nat, k - 1 - j = q := ⟨_, rfl⟩
      have hqi : (k : Int) - 1 - j = (q : Int) := by omega
      have HT : Hid (bs ++ (bitsOf x k).take (j + 1) = t ++ [x.testBit q]) := by
        show _ = _
        rw [take_snoc x k j hjk, hq, ← ht, List.append_assoc]
      have htl : t.length ≤ 50016 := by
        rw [← ht, List.length_append, List.length_take, bitsOf_length]; omega
      rw [ht] at hw
      rw [hqi]
      have hBr : B ≤ wr.heap.size := Nat.le_trans hB hf.size
      clear ht hqi
      obtain ⟨N, hN⟩ : ∃ N, t.length = N := ⟨_, rfl⟩
      have c0 : wr.cell? ⟨bw, 0, none⟩ = some v := cell_of_row _ _ 0 _ 48 (0, 0) hw.row
      have c1 : wr.cell? ⟨bw, 1, none⟩ = some (.int .i64 t.length) := cell_of_row _ _ 1 _ 48 (0, 0) hw.row
      have cf := fun o => frozen_of_row wr bw o _ 48 hw.row
      rw [hN] at c1 htl
      have HN := show Hid _ from hN
      clear hN
      go_upto_if 18 with fail
      go_cut [] from 9 to 60 (fun wx => ∃ g cap, wx.heap[bw]? = some (.cells #[.slice (some ⟨g, 0, none⟩) (N / 8 + 1) cap, .int .i64 N] 48 (0, 0)) ∧ wx.ownsRow B 5 1 (.slice (some ⟨g, 0, none⟩) (N / 8 + 1) cap) (N / 8 + 1) (bytesOf (t ++ [false])) ∧ Fr B bw w wx)
      case first =>
        have hN := HN.out
        have hblk : v.ownBlock ≠ some bw := fun he => by
          have := (hw.own.lt bw he).1
          have := hw.lt
          omega
        by_cases h8 : N % 8 = 0
        · have hb8 : ((N : Int) % 8 == 0) = true := by simp; omega
          have hbl := bytes_new t (by rw [hN]; exact h8)
          have hown := hw.own
          rw [hN] at hown
          have HBL := show Hid _ from hbl
          clear hbl hN
          go_wp2_with (at_builtin; refine wpList_append_own _ rfl (.tmp 23) (.tmp 24) 25 rfl B 5 i0 (.int .u8 0) 1 1 Ybad.underlying25 hi hz0 hz1 hz2 rfl (by decide) v ((N + 7) / 8) (bytesOf t) rfl (hown.alloc _) ⟨wr.heap.size, 0, none⟩ 1 1 [.int .u8 0] rfl rfl ?c1 ?c2 ?c3 ?c4 ?c5 ?_)
          case c1 => intro j u hu; match j, hu with | 0, hu => (simp at hu; subst hu; simp [Addr.add])
          case c2 => intro u hu; simp at hu; subst hu; rfl
          case c3 => simp [maxLen]; omega
          case c4 => omega
          case c5 => simp; omega
          intro v1 w1 hown1 hgr1 _
          have hlt : bw < wr.heap.size := lt_of_block hw.row
          have hrow1 : w1.heap[bw]? = some (.cells #[v, .int .i64 t.length] 48 (0, 0)) := ((hgr1.block bw (by simp; omega) (by first | exact hblk | exact Ne.symm hblk)).trans (Below.heap_alloc _ _ _ hlt)).trans hw.row
          have hf1 : Fr B bw w w1 := (hf.below ((Below.refl _ _).alloc (Nat.le_refl _) _)).grown (hown.alloc _) hgr1
          rw [HBL.out] at hown1
          obtain ⟨g, cap, rfl⟩ := own_form hown1 (by omega)
          rw [show (N + 7) / 8 + 1 = N / 8 + 1 by omega] at hown1 ⊢
          have d0 : w1.cell? ⟨bw, 0, none⟩ = some v := cell_of_row _ _ 0 _ 48 (0, 0) hrow1
          have df := fun o => frozen_of_row w1 bw o _ 48 hrow1
          clear c0 c1 cf hlt
          go_wp2_with fail
          go_meet
          refine ⟨g, cap, ?_, own_same hown1 (Below.heap_setCell _ _ _ _ ?_), hf1.set 0 _⟩
          · have := heap_setCell_same w1 bw 0 _ 48 (.slice (some ⟨g, 0, none⟩) (N / 8 + 1) cap) hrow1
            rw [HN.out] at this
            exact this
          · have h1 := (hown1.lt g rfl).1
            have h2 := hw.lt
            show g ≠ bw
            omega
        · have hb8 : ((N : Int) % 8 == 0) = false := by simp; omega
          have hbl := bytes_zero t (by rw [hN]; exact h8)
          have hown := hw.own
          rw [hN, hbl, show (N + 7) / 8 = N / 8 + 1 by omega] at hown
          obtain ⟨g, cap, rfl⟩ := own_form hown (by omega)
          have hrow := hw.row
          rw [hN] at hrow
          clear hN
          go_wp2_with fail
          go_meet
          exact ⟨g, cap, hrow, hown, hf⟩
      case rest =>
      obtain ⟨g, cap, hrow2, hown2, hf2⟩ := hcut
      have hgb : g ≠ bw := by
        have h1 := (hown2.lt g rfl).1
        have h2 := hw.lt
        omega
      have hlt2 := hw.lt
      clear hw hf hBr c0 c1 cf
      have c0 : wc.cell? ⟨bw, 0, none⟩ = some (.slice (some ⟨g, 0, none⟩) (N / 8 + 1) cap) := cell_of_row _ _ 0 _ 48 (0, 0) hrow2
      have c1 : wc.cell? ⟨bw, 1, none⟩ = some (.int .i64 N) := cell_of_row _ _ 1 _ 48 (0, 0) hrow2
      have cf := fun o => frozen_of_row wc bw o _ 48 hrow2
      have hcell := hown2.cellAt (N / 8) (by omega)
      rw [bytesOf_get _ _ (by rw [List.length_append, List.length_singleton, HN.out]; omega), byteOf_false] at hcell
      have hfro := hown2.frozenAt (N / 8)
      have hq16 : q < 16 := by omega
      have hdv : ((x : Int) / 2 ^ q) = ((x / 2 ^ q : Nat) : Int) := by rw [Int.natCast_ediv, Int.natCast_pow]; rfl
      have hdl : x / 2 ^ q < 18446744073709551616 := Nat.lt_of_le_of_lt (Nat.div_le_self _ _) hx
      have hand : bits .and .u64 ((x : Int) / 2 ^ q) 1 = ((x / 2 ^ q % 2 : Nat) : Int) := by
        rw [hdv]
        generalize x / 2 ^ q = y at *
        rw [Lib.u64_and1 _ (by omega) (by omega)]; omega
      have htb : x.testBit q = decide (x / 2 ^ q % 2 = 1) := Nat.testBit_eq_decide_div_mod_eq
      clear hdv hdl
      by_cases hbit : x / 2 ^ q % 2 = 1
      · rw [hbit] at hand
        rw [decide_eq_true hbit] at htb
        rw [htb] at HT
        clear htb hbit
        go_wp2_with fail
        go_region
        have hN := HN.out
        have e8 := or8 (Bt.byteOf t (N / 8)) (N % 8) (byteOf_lt t _) (by omega)
        rw [e8]
        have hown3 := hown2.stored (N / 8) (.int .u8 ((Bt.byteOf t (N / 8) ||| 2 ^ (7 - N % 8) : Nat) : Int))
        have hbs := bytes_set t
        rw [hN] at hbs
        rw [hbs] at hown3
        have hrow3 : (wc.setCell ⟨g, N / 8, none⟩ (.int .u8 ((Bt.byteOf t (N / 8) ||| 2 ^ (7 - N % 8) : Nat) : Int))).drew.heap[bw]? = _ := (Below.heap_setCell _ _ _ _ (Ne.symm hgb)).trans hrow2
        have hf3 := (hf2.row hown2 (N / 8) (.int .u8 ((Bt.byteOf t (N / 8) ||| 2 ^ (7 - N % 8) : Nat) : Int))).drew
        have hown4 := hown3.1.drew
        clear hown3 hown2 hf2 hrow2 hbs e8 hN hcell hfro
        generalize (wc.setCell ⟨g, N / 8, none⟩ (.int .u8 ((Bt.byteOf t (N / 8) ||| 2 ^ (7 - N % 8) : Nat) : Int))).drew = wd at *
        clear c0 c1 cf
        have c1 : wd.cell? ⟨bw, 1, none⟩ = some (.int .i64 N) := cell_of_row _ _ 1 _ 48 (0, 0) hrow3
        have cf := fun o => frozen_of_row wd bw o _ 48 hrow3
        go_wp2_with fail
        go_roundg (k - (j + 1))
        case measure => omega
        case rel =>
          refine ⟨j + 1, .slice (some ⟨g, 0, none⟩) (N / 8 + 1) cap, by omega, rfl, by congr 1; omega, ?_⟩
          rw [HT.out]
          exact put_end hrow3 hown4 hf3 HN.out hgb hlt2 _ rfl
      · rw [show x / 2 ^ q % 2 = 0 by omega] at hand
        rw [decide_eq_false hbit] at htb
        rw [htb] at HT
        clear htb hbit
        go_wp2_with fail
        go_roundg (k - (j + 1))
        case measure => omega
        case rel =>
          refine ⟨j + 1, .slice (some ⟨g, 0, none⟩) (N / 8 + 1) cap, by omega, rfl, by congr 1; omega, ?_⟩
          rw [HT.out]
          exact put_end hrow2 hown2 hf2 HN.out hgb hlt2 _ rfl
    · obtain rfl : j = k := by omega
      go_wp2_with fail
      go_end0
      rw [List.take_of_length_le (by rw [bitsOf_length]; omega)] at hw
      exact ⟨rfl, v, hw, hf⟩
end Go.Proofs.YbulkxgcDoor.Dc
