import Derived.Test.YbulkxgcDoorChH
namespace Go.Proofs.YbulkxgcDoor.Dc
open Go.RowKit
open _root_.Go.Proofs.YbulkxgcDoor.Bt

/-- behind j steps -/
structure Cl (w wr : World) (R n : Nat) (first v : Int) (l : List Ab) (vw : Value) : Prop where
  put : Wr wr (w.heap.size + 1) w.heap.size vw (chunkBits v l)
  own : wr.ownsRow w.heap.size 42 2 (.slice (some ⟨R, 0, none⟩) (l.length + 1) (n + 1)) (l.length + 1) (ptCells (chunkPts first v l))
  bel : Below w.heap.size w wr
  sz : w.heap.size + 1 ≤ wr.heap.size
  hR : w.heap.size < R

theorem chunkBits_snoc (v : Int) (l : List Ab) (p : Ab) : chunkBits v (l ++ [p]) = chunkBits v l ++ timeBits p.1 ++ valBits p.2 := by
  simp only [chunkBits, bitsAll_snoc, stepBits, List.append_assoc]
theorem chunkPts_snoc (first v : Int) (l : List Ab) (p : Ab) : chunkPts first v (l ++ [p]) = chunkPts first v l ++ [(IntKind.i64.wrap (nxt (run ⟨IntKind.u64.wrap first, 0, v, 0⟩ l) p).t, (nxt (run ⟨IntKind.u64.wrap first, 0, v, 0⟩ l) p).m)] := by
  simp only [chunkPts, ptsOf_snoc, List.cons_append]
theorem ptCells_append (a b : List (Int × Int)) : ptCells (a ++ b) = ptCells a ++ ptCells b := by simp [ptCells]
theorem wr_row {w : World} {B bw g cap : Nat} {bs : List Bool} (h : Wr w B bw (.slice (some ⟨g, 0, none⟩) ((bs.length + 7) / 8) cap) bs) : ByteRow w g ((bs.length + 7) / 8) cap bs := by
  refine ⟨(h.own.lt g rfl).2, rfl, ?_, fun i hi => ?_⟩
  · rcases h.own.2 with ⟨h2, _⟩ | ⟨g', c, cur, h2, _, _, h5, _⟩
    · cases h2
    · cases h2; exact h5
  · rw [h.own.cellAt i (by omega), bytesOf_get bs i hi]
theorem wrap64_eq (n : Int) : wrap64 n = IntKind.i64.wrap n := by
  rw [IntKind.wrap_i64]; unfold wrap64; omega
theorem and127 (a : Int) : bits .and .u64 (IntKind.u64.wrap a) 127 = ((a % 128).toNat : Int) := by
  rw [IntKind.wrap_u64]
  have hk : ∀ n : Int, 0 ≤ n → n < 2 ^ 64 → IntKind.u64.wrap n = n := fun n h0 h1 => by rw [IntKind.wrap_u64]; omega
  obtain ⟨x, hx⟩ : ∃ x : Nat, a % 18446744073709551616 = (x : Int) := ⟨(a % 18446744073709551616).toNat, by omega⟩
  rw [hx, show (127 : Int) = ((127 : Nat) : Int) from rfl, (bits_nat .u64 64 (by decide) hk x 127 (by omega) (by omega)).1, show (127 : Nat) = 2 ^ 7 - 1 from rfl, Nat.and_two_pow_sub_one_eq_mod]
  omega
theorem and255 (a : Int) : bits .and .u64 (IntKind.u64.wrap a) 255 = ((a % 256).toNat : Int) := by
  rw [IntKind.wrap_u64]
  have hk : ∀ n : Int, 0 ≤ n → n < 2 ^ 64 → IntKind.u64.wrap n = n := fun n h0 h1 => by rw [IntKind.wrap_u64]; omega
  obtain ⟨x, hx⟩ : ∃ x : Nat, a % 18446744073709551616 = (x : Int) := ⟨(a % 18446744073709551616).toNat, by omega⟩
  rw [hx, show (255 : Int) = ((255 : Nat) : Int) from rfl, (bits_nat .u64 64 (by decide) hk x 255 (by omega) (by omega)).1, show (255 : Nat) = 2 ^ 8 - 1 from rfl, Nat.and_two_pow_sub_one_eq_mod]
  omega

set_option maxHeartbeats 2000000 in
set_option maxRecDepth 100000 in
theorem chunk_any (first v : Int) (so : Option Addr) (c : Nat) (L : List Ab) (w : World) (h1 : -32768 ≤ v) (h2 : v < 32768) (hl : L.length ≤ 1024) (hs : ∀ p ∈ L, Small p) (hst : Steps w so L) :
    Calls Ybad.prog 5 #[.int .i64 first, .int .i16 v, .slice so L.length c, .bool false] w fun e w' => ∃ g cap R, e = .returned (.tuple #[.slice (some ⟨g, 0, none⟩) (((chunkBits v L).length + 7) / 8) cap, .slice (some ⟨R, 0, none⟩) (L.length + 1) (L.length + 1)]) ∧
      ByteRow w' g (((chunkBits v L).length + 7) / 8) cap (chunkBits v L) ∧ w.heap.size ≤ g ∧ w.heap.size ≤ R ∧ (∀ j u, (ptCells (chunkPts first v L))[j]? = some u → w'.cell? ⟨R, j, none⟩ = some u) ∧ Below w.heap.size w w' := by
  obtain ⟨i0, hi, hz0, hz1, hz2⟩ := point_info
  go_enter Ybad.func5, Ybad.ntmps5
  have hzb := zig_bits h1 h2
  have hzl := zig_lt h1 h2
  go_wp2_with fail
  have hwr0 : Wr (w.alloc (.cells #[.slice none 0 0, .int .i64 0] 48)) (w.heap.size + 1) w.heap.size (.slice none 0 0) [] := ⟨heap_alloc_new w _, World.ownsRow_nil _ _ _ _, by omega⟩
  have hbe0 : Below w.heap.size w (w.alloc (.cells #[.slice none 0 0, .int .i64 0] 48)) := (Below.refl _ _).alloc (Nat.le_refl _) _
  have hsz0 : w.heap.size + 1 ≤ (w.alloc (.cells #[.slice none 0 0, .int .i64 0] 48)).heap.size := by simp
  refine Calls.mono (put_any (w.heap.size + 1) w.heap.size _ [] 0 5 (by omega) (by omega) _ hwr0 (by simp) hsz0) ?_
  rintro e w1 ⟨rfl, v1, hwr1, hfr1⟩
  have hbe1 := hbe0.trans (hfr1.bel (by omega))
  have hsz1 : w.heap.size + 1 ≤ w1.heap.size := Nat.le_trans hsz0 hfr1.size
  clear hwr0 hbe0 hsz0 hfr1
  go_wp2_with fail
  refine Calls.mono (put_any (w.heap.size + 1) w.heap.size _ _ 16 6 (by omega) (by omega) _ hwr1 (by simp [bitsOf_length]) hsz1) ?_
  rintro e w2 ⟨rfl, v2, hwr2, hfr2⟩
  have hbe2 := hbe1.trans (hfr2.bel (by omega))
  have hsz2 : w.heap.size + 1 ≤ w2.heap.size := Nat.le_trans hsz1 hfr2.size
  clear hwr1 hbe1 hsz1 hfr2
  go_wp2_with fail
  refine Calls.mono (put_any (w.heap.size + 1) w.heap.size _ _ (zig v) 16 (by omega) (by omega) _ hwr2 (by simp [bitsOf_length]) hsz2) ?_
  rintro e w3 ⟨rfl, v3, hwr3, hfr3⟩
  have hbe3 := hbe2.trans (hfr3.bel (by omega))
  have hsz3 : w.heap.size + 1 ≤ w3.heap.size := Nat.le_trans hsz2 hfr3.size
  rw [show [] ++ bitsOf 0 5 ++ bitsOf 16 6 ++ bitsOf (zig v) 16 = chunkBits v [] by simp [chunkBits, bitsAll]] at hwr3
  clear hwr2 hbe2 hsz2 hfr3 hzb
  obtain ⟨n, hn⟩ : ∃ n, L.length = n := ⟨_, rfl⟩
  have HNL := show Hid _ from hn
  rw [hn] at hl ⊢
  clear hn
  have hfo : floatOfInt .f64 v = Flt.F v := rfl
  go_wp2_with (first
    | (at_make; refine wpList_make_own _ rfl _ _ 26 rfl w.heap.size 42 i0 _ 2 Ybad.underlying26 hi hz0 hz1 _ _ _ (n + 1) rfl rfl (by omega) (by rw [hz2]; omega) (by simp [maxLen]; omega) (by omega) ?_; intro w4 hown4 hgr4)
    | (at_builtin; refine wpList_append_fits _ rfl (.tmp 45) (.tmp 50) 26 rfl w.heap.size 42 i0 2 Ybad.underlying26 hi hz1 w3.heap.size 0 (n + 1) [] rfl (hown4.alloc _) ⟨w4.heap.size, 0, none⟩ 1 1 [.int .i64 first, .float .f64 (Flt.F v)] rfl rfl ?c1 ?c2 (by omega) ?_))
  case c1 => intro j u hu; match j, hu with | 0, hu => (simp at hu; subst hu; simp [Addr.add]) | 1, hu => (simp at hu; subst hu; simp [Addr.add])
  case c2 => intro u hu; simp at hu; rcases hu with rfl | rfl <;> rfl
  intro w5 hown5 hgr5
  go_wp2_with fail
  have hbe4 : Below w3.heap.size w3 w4 := (Below.refl _ _).grown hgr4 (Nat.le_refl _) (by simp)
  have hRw : w3.heap.size < w4.heap.size := (hown4.lt w3.heap.size rfl).2
  obtain ⟨cur, hcur⟩ := own_cells (hown4.alloc (.cells #[.int .i64 first, .float .f64 (Flt.F v)] 42))
  have hwr5 := ((hwr3.below hbe4).below ((Below.refl _ w4).alloc (Nat.le_refl _) _)).grown hcur (by omega) hgr5
  have hbe5 : Below w.heap.size w w5 := ((hbe3.trans (Below.less hbe4 (by omega))).trans ((Below.refl w.heap.size w4).alloc (by omega) _)).grown hgr5 (by simp; omega) (fun k hk => by cases hk; omega)
  have hcl : Cl w w5 w3.heap.size n first v [] v3 := ⟨hwr5, hown5, hbe5, Nat.le_trans (by simp; omega) hgr5.size, by omega⟩
  obtain ⟨R, hR⟩ : ∃ R, w3.heap.size = R := ⟨_, rfl⟩
  rw [hR] at hcl ⊢
  clear hwr3 hbe3 hsz3 hown4 hgr4 hown5 hgr5 hbe4 hRw hcur hwr5 hbe5 hR hfo
  obtain ⟨s0, hs0⟩ : ∃ s0 : Sn, s0 = ⟨IntKind.u64.wrap first, 0, v, 0⟩ := ⟨_, rfl⟩
  have HS0 := show Hid _ from hs0
  go_loopg [12, 13, 14, 15, 16, 17] n (fun g a12 a13 a14 a15 a16 a17 wr => ∃ j vw, j ≤ n ∧ g = n - j ∧ a12 = .slice (some ⟨R, 0, none⟩) (j + 1) (n + 1) ∧ a13 = .int .u64 (run s0 (L.take j)).t ∧ a14 = .int .u64 (run s0 (L.take j)).step ∧ a15 = .int .i64 (run s0 (L.take j)).m ∧ a16 = .int .i64 (run s0 (L.take j)).dm ∧ a17 = .int .i64 j ∧ Cl w wr R n first v (L.take j) vw)
  case atStart => exact ⟨0, v3, by omega, by omega, rfl, by rw [hs0]; rfl, by rw [hs0]; rfl, by rw [hs0]; rfl, by rw [hs0]; rfl, rfl, by rw [List.take_zero]; exact hcl⟩
  case round =>
    clear hcl hs0
    obtain ⟨j, vw, hj, rfl, rfl, rfl, rfl, rfl, rfl, rfl, hc⟩ := hrel
    by_cases hjn : j < n
    · have hjl : j < L.length := by rw [HNL.out]; exact hjn
      obtain ⟨b, o, hso, hbl, q0, q1⟩ := hst j hjl
      subst hso
      obtain ⟨p, hp⟩ : ∃ p, L[j] = p := ⟨_, rfl⟩
      rw [hp] at q0 q1
      have hsm : Small p := hs p (by rw [← hp]; exact List.getElem_mem hjl)
      have HTK : Hid (L.take (j + 1) = L.take j ++ [p]) := by
        show _ = _
        rw [List.take_add_one, List.getElem?_eq_getElem hjl, hp]; rfl
      have hlen : (L.take j).length = j := List.length_take_of_le (by omega)
      obtain ⟨l, hlq⟩ : ∃ l, L.take j = l := ⟨_, rfl⟩
      rw [hlq] at hc HTK hlen ⊢
      have r0 := (hc.bel.cell (p := ⟨b, o + j * 2, none⟩) hbl).trans q0
      have r1 := (hc.bel.cell (p := ⟨b, o + j * 2 + 1, none⟩) hbl).trans q1
      have HP := show Hid _ from hp
      have HLEN := show Hid _ from hlen
      have HLQ := show Hid _ from hlq
      obtain ⟨p1, p2, p3, p4⟩ := hsm
      have HBL : Hid ((chunkBits v l).length ≤ 49900) := by
        have := bitsAll_len l
        have := HLEN
        show _ ≤ _
        simp only [chunkBits, List.length_append, bitsOf_length]
        omega
      clear q0 q1 hp hlen hlq hst
      go_upto_if 66 with fail
      go_cut [] from 52 to 113 (fun wx => ∃ vx, Wr wx (w.heap.size + 1) w.heap.size vx (chunkBits v l ++ timeBits p.1) ∧ Fr (w.heap.size + 1) w.heap.size wr wx)
      case first =>
        by_cases ha : p.1 / 2 = 0
        · have hba : (p.1 / 2 == 0) = true := by simp [ha]
          have HA := show Hid _ from ha
          clear ha
          go_wp2_with fail
          refine Calls.mono (put_any (w.heap.size + 1) w.heap.size _ _ 0 1 (by omega) (by omega) _ hc.put (Nat.le_trans HBL.out (by omega)) hc.sz) ?_
          rintro e wx ⟨rfl, vx, hwx, hfx⟩
          go_wp2_with fail
          go_meet
          refine ⟨vx, ?_, hfx⟩
          unfold timeBits
          rw [if_pos HA.out]
          exact hwx
        · have hba : (p.1 / 2 == 0) = false := by simp [ha]
          have HA := show Hid _ from ha
          clear ha
          obtain ⟨x7, hand, H7⟩ : ∃ x : Nat, bits .and .u64 (IntKind.u64.wrap (p.1 / 2)) 127 = (x : Int) ∧ Hid (x = (p.1 / 2 % 128).toNat) := ⟨_, and127 (p.1 / 2), rfl⟩
          go_wp2_with fail
          refine Calls.mono (put_any (w.heap.size + 1) w.heap.size _ _ 2 2 (by omega) (by omega) _ hc.put (Nat.le_trans HBL.out (by omega)) hc.sz) ?_
          rintro e wx ⟨rfl, vx, hwx, hfx⟩
          have hsx : w.heap.size + 1 ≤ wx.heap.size := Nat.le_trans hc.sz hfx.size
          go_wp2_with fail
          refine Calls.mono (put_any (w.heap.size + 1) w.heap.size _ _ x7 7 (by omega) (by rw [H7.out]; omega) _ hwx (by rw [List.length_append, bitsOf_length]; have := HBL.out; omega) hsx) ?_
          rintro e wy ⟨rfl, vy, hwy, hfy⟩
          go_wp2_with fail
          go_meet
          refine ⟨vy, ?_, hfx.trans hfy⟩
          unfold timeBits
          rw [if_neg HA.out, ← List.append_assoc, ← H7.out]
          exact hwy
      case rest =>
      obtain ⟨vx, hwx, hfx⟩ := hcut
      have hbl2 := hfx.block b (Nat.lt_of_lt_of_le hbl (Nat.le_trans (by omega) hc.sz)) (by omega) (.inl (by omega))
      have t1 : wc.cell? ⟨b, o + j * 2 + 1, none⟩ = some (.int .i8 p.2) := (World.cell?_of_block hbl2).trans r1
      have HC := show Hid _ from hc
      have HBL2 : Hid ((chunkBits v l ++ timeBits p.1).length ≤ 49920) := by
        have h := HBL.out
        have ht : (timeBits p.1).length ≤ 9 := by unfold timeBits; split <;> simp [bitsOf_length]
        show _ ≤ _
        rw [List.length_append]
        omega
      have hsx : w.heap.size + 1 ≤ wc.heap.size := Nat.le_trans hc.sz hfx.size
      clear r0 r1 hbl2 hc
      go_upto_if 83 with fail
      go_cut [] from 52 to 113 (fun wx => ∃ vy, Wr wx (w.heap.size + 1) w.heap.size vy (chunkBits v l ++ timeBits p.1 ++ valBits p.2) ∧ Fr (w.heap.size + 1) w.heap.size wr wx)
      case first =>
        by_cases ha : p.2 = 0
        · have hba : (p.2 == 0) = true := by simp [ha]
          have HA := show Hid _ from ha
          clear ha
          go_wp2_with fail
          refine Calls.mono (put_any (w.heap.size + 1) w.heap.size _ _ 0 1 (by omega) (by omega) _ hwx (Nat.le_trans HBL2.out (by omega)) hsx) ?_
          rintro e wx ⟨rfl, vy, hwy, hfy⟩
          go_wp2_with fail
          go_meet
          refine ⟨vy, ?_, hfx.trans hfy⟩
          unfold valBits
          rw [if_pos HA.out]
          exact hwy
        · have hba : (p.2 == 0) = false := by simp [ha]
          have HA := show Hid _ from ha
          clear ha
          obtain ⟨x8, hand, H8⟩ : ∃ x : Nat, bits .and .u64 (IntKind.u64.wrap p.2) 255 = (x : Int) ∧ Hid (x = (p.2 % 256).toNat) := ⟨_, and255 p.2, rfl⟩
          go_wp2_with fail
          refine Calls.mono (put_any (w.heap.size + 1) w.heap.size _ _ 6 3 (by omega) (by omega) _ hwx (Nat.le_trans HBL2.out (by omega)) hsx) ?_
          rintro e wx ⟨rfl, vy, hwy, hfy⟩
          have hsy : w.heap.size + 1 ≤ wx.heap.size := Nat.le_trans hsx hfy.size
          go_wp2_with fail
          refine Calls.mono (put_any (w.heap.size + 1) w.heap.size _ _ x8 8 (by omega) (by rw [H8.out]; omega) _ hwy (by rw [List.length_append, bitsOf_length]; have := HBL2.out; omega) hsy) ?_
          rintro e wy ⟨rfl, vz, hwz, hfz⟩
          go_wp2_with fail
          go_meet
          refine ⟨vz, ?_, (hfx.trans hfy).trans hfz⟩
          unfold valBits
          rw [if_neg HA.out, ← List.append_assoc, ← H8.out]
          exact hwz
      case rest =>
      clear hwx hfx t1 hsx HBL2
      rename_i wc0 _ _
      obtain ⟨vy, hwy, hfy⟩ := hcut
      have hown := own_fr HC.out.own hfy (by have := HC.out.hR; omega)
      rw [HLEN.out] at hown
      have hsy : w.heap.size + 1 ≤ wc.heap.size := Nat.le_trans HC.out.sz hfy.size
      obtain ⟨s, hsr⟩ : ∃ s, run s0 l = s := ⟨_, rfl⟩
      rw [hsr]
      have HSR := show Hid _ from hsr
      clear hsr
      have hfo : floatOfInt .f64 (wrap64 (s.m + wrap64 (s.dm + p.2))) = Flt.F (nxt s p).m := rfl
      go_wp2_with (at_builtin; refine wpList_append_fits _ rfl (.tmp 106) (.tmp 112) 26 rfl w.heap.size 42 i0 2 Ybad.underlying26 hi hz1 R (j + 1) (n + 1) _ rfl (hown.alloc _) ⟨wc.heap.size, 0, none⟩ 1 1 [.int .i64 (IntKind.i64.wrap (nxt s p).t), .float .f64 (Flt.F (nxt s p).m)] rfl rfl ?c1 ?c2 (by omega) ?_)
      case c1 => intro j u hu; match j, hu with | 0, hu => (simp at hu; subst hu; simp [Addr.add]; exact wrap64_eq _) | 1, hu => (simp at hu; subst hu; simp [Addr.add])
      case c2 => intro u hu; simp at hu; rcases hu with rfl | rfl <;> rfl
      intro w6 hown6 hgr6
      go_wp2_with fail
      go_roundg (n - (j + 1))
      case measure => omega
      case rel =>
        have hwy6 : Wr (wc.alloc _) _ _ _ _ := hwy.below ((Below.refl _ wc).alloc (Nat.le_refl _) (.cells #[.int .i64 (wrap64 (IntKind.u64.wrap (s.t + IntKind.u64.wrap (s.step + IntKind.u64.wrap (p.1 / 2))))), .float .f64 (Flt.F (nxt s p).m)] 42))
        obtain ⟨cur, hcur⟩ := own_cells (hown.alloc (.cells #[.int .i64 (wrap64 (IntKind.u64.wrap (s.t + IntKind.u64.wrap (s.step + IntKind.u64.wrap (p.1 / 2))))), .float .f64 (Flt.F (nxt s p).m)] 42))
        have hc := HC.out
        have hR := hc.hR
        have hsw := hc.sz
        refine ⟨j + 1, vy, by omega, rfl, rfl, ?_, ?_, ?_, ?_, rfl, ?_⟩
        · rw [HTK.out, run_snoc, HSR.out]; rfl
        · rw [HTK.out, run_snoc, HSR.out]; rfl
        · rw [HTK.out, run_snoc, HSR.out]; rfl
        · rw [HTK.out, run_snoc, HSR.out]; rfl
        · rw [HTK.out]
          refine ⟨?_, ?_, ?_, ?_, hR⟩
          · rw [chunkBits_snoc]
            exact hwy6.grown hcur (by omega) hgr6
          · rw [List.length_append, List.length_singleton, HLEN.out, chunkPts_snoc, ptCells_append, ← HS0.out, HSR.out]
            exact hown6
          · exact ((hc.bel.trans (hfy.bel (by omega))).trans ((Below.refl w.heap.size wc).alloc (by omega) _)).grown hgr6 (by simp; omega) (fun k hk => by cases hk; omega)
          · exact Nat.le_trans (by simp; omega) hgr6.size
    · obtain rfl : j = n := by omega
      have hz : decide ((j : Int) < (j : Int)) = false := by simp
      have htk : L.take j = L := List.take_of_length_le (by rw [HNL.out]; exact Nat.le_refl _)
      rw [htk] at hc ⊢
      have hpos : 0 < ((chunkBits v L).length + 7) / 8 := by
        simp only [chunkBits, List.length_append, bitsOf_length]
        omega
      have hpw := hc.put
      have hlen := HNL.out
      obtain ⟨g, cap, rfl⟩ := own_form hpw.own hpos
      have c0 : wr.cell? ⟨w.heap.size, 0, none⟩ = some _ := cell_of_row _ _ 0 _ 48 (0, 0) hpw.row
      have HLEN := show Hid _ from hlen
      clear hlen hst
      go_wp2_with fail
      go_ret2
      refine ⟨g, cap, R, by rw [HLEN.out]; rfl, wr_row hpw, ?_, ?_, ?_, hc.bel⟩
      · have := (hpw.own.lt g rfl).1
        omega
      · have := hc.hR
        omega
      · intro k u hu
        have hown := hc.own
        rw [HLEN.out] at hown
        have hk : k < (j + 1) * 2 := by
          have := (List.getElem?_eq_some_iff.1 hu).1
          rw [hown.1] at this
          exact this
        rw [hown.cellAt k hk]
        exact hu
end Go.Proofs.YbulkxgcDoor.Dc
