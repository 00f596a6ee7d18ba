import Derived.Test.YbulkxciParts
namespace Go.Proofs.Ybulkxci.Yields
open Go.RowKit

set_option maxHeartbeats 4000000 in
set_option maxRecDepth 1000000 in
theorem walk (ar : Option Addr) (n cr : Nat) (zr : List Int) (ai : Option Addr) (li ci : Nat) (bi : List Bool) (inNil hasLayout useBare : Bool) (stp : Int) (h0 : 0 ≤ stp) (h255 : stp ≤ 255) (w : World)
    (hr : RawArg w ar n zr) (hi : InArg w ai li bi) (hn : n ≤ 1024) (hli : li ≤ 1024) :
    Calls Yba.prog 5 #[.slice ar n cr, .slice ai li ci, .bool inNil, .bool hasLayout, .bool useBare, .int .u8 stp] w fun e w' => e = .returned (.bool true) ∧ Below w.heap.size w w' := by
  obtain ⟨i4, hi4, z4, s4, y4⟩ := info_parts info4
  have hd1 : decide ((1024 : Int) < (n : Int)) = false := decide_eq_false (by omega)
  have hd2 : decide ((1024 : Int) < (li : Int)) = false := decide_eq_false (by omega)
  go_enter Yba.func5, Yba.ntmps5
  go_upto_if 50 with fail
  go_cut [14] (fun s14 wx => ∃ m : Nat, m ≤ 1024 ∧ InUse w.heap.size wx m s14 ∧ Below w.heap.size w wx)
  case first =>
    as_aux_lemma =>
      cases inNil
      · go_upto_region 7 with (at_make; refine wpList_make_full _ rfl _ _ 55 rfl w.heap.size 4 i4 (.bool false) 1 Yba.underlying55 hi4 z4 s4 _ _ _ _ li rfl rfl rfl rfl (by rw [y4]; omega) (by unfold maxLen; omega) (Nat.le_refl _) ?_; intro w1 hown hgr)
        have hB1 : Below w.heap.size w w1 := (Below.refl _ _).grown hgr (Nat.le_refl _) (fun k hk => by cases hk)
        obtain ⟨hg1, hx1⟩ := own_full hown
        generalize (madeCells (Value.bool false).cells (li * 1)).toList = cur at *
        clear hown hgr
        have hpos : 0 < (bi.map Value.bool).length → (some (⟨w.heap.size, 0, none⟩ : Addr)) = some ⟨w.heap.size, 0, none⟩ ∧ ∃ ad, ai = some ad ∧ ∀ j v, (bi.map Value.bool)[j]? = some v → w1.cell? (ad.add j) = some v := by
          intro h
          obtain ⟨b, off, hab, hbl, hcl⟩ := hi.2 (by have := hi.1; simp at h; omega)
          refine ⟨rfl, _, hab, fun j v hj => ?_⟩
          have hjl : j < bi.length := by have := (List.getElem?_eq_some_iff.1 hj).1; simpa using this
          rw [Addr.add_lit, hB1.cell (by exact hbl), hcl j (by have := hi.1; omega)]
          simp [hjl] at hj
          simp [List.getD, hjl, hj]
        go_wp2_with (refine wpList_copy_splice rfl (.tmp 54) (.tmp 55) 55 55 rfl 4 Yba.underlying55 (by rw [hi4]; simp [s4]) (some ⟨w.heap.size, 0, none⟩) ai li li li ci rfl rfl w.heap.size 0 cur 4 hg1 (bi.map Value.bool) (by simp [hi.1]) hpos (by simp [hi.1, hx1]) (by intro v hv; obtain ⟨_, _, rfl⟩ := List.mem_map.1 hv; rfl) w.heap.size w hB1 (Nat.le_refl _) ?_; intro w2 HG2 hB2)
        go_meet
        case rel => exact ⟨li, hli, inUse_copied HG2.out hi.1 hx1 (Nat.le_refl _), hB2⟩
      · go_wp2
        go_meet
        case rel => exact ⟨0, by omega, .inl ⟨rfl, rfl⟩, Below.refl _ _⟩
  case rest =>
    as_aux_lemma =>
      obtain ⟨m, hm, hU, hBw⟩ := hcut
      obtain ⟨aI, hs14⟩ := hU.shape
      subst hs14
      clear hd1 hd2 hi hi4 z4 s4 y4
      obtain ⟨i3, hi3, z3, s3, y3⟩ := info_parts info3
      go_upto_if 59 with fail
      go_cut [16] (fun s16 wx => ∃ nd : Nat → Int, Nodes wc.heap.size wx n m hasLayout nd s16 ∧ Below wc.heap.size wc wx)
      case first =>
        as_aux_lemma =>
          cases hasLayout
          · go_wp2
            go_meet
            case rel => exact ⟨fun _ => -1, .inl ⟨rfl, rfl, fun _ => rfl⟩, Below.refl _ _⟩
          · go_wp2_with (at_make; refine wpList_make_full _ rfl _ _ 56 rfl wc.heap.size 3 i3 (.int .i64 0) 1 Yba.underlying56 hi3 z3 s3 _ _ _ _ n rfl rfl rfl rfl (by rw [y3]; omega) (by unfold maxLen; omega) (Nat.le_refl _) ?_; intro w1 hown hgr)
            have hB1 : Below wc.heap.size wc w1 := (Below.refl _ _).grown hgr (Nat.le_refl _) (fun k hk => by cases hk)
            generalize (madeCells (Value.int .i64 0).cells (n * 1)).toList = cur at *
            go_loopw [17] (fun i wr => ∃ k : Nat, k ≤ n ∧ i = .int .i64 k ∧ (∃ xs, wr.ownsRow wc.heap.size 3 1 (.slice (some ⟨wc.heap.size, 0, none⟩) n n) n xs ∧ ∀ j, j < k → xs[j]? = some (.int .i64 (nodeOf (zr.getD j 0) m))) ∧ Below wc.heap.size wc wr)
              (fun i _ => n - (intOf i).toNat)
            case atStart => exact ⟨0, by omega, rfl, ⟨cur, hown, fun j hj => by omega⟩, hB1⟩
            case round =>
              as_aux_lemma =>
                obtain ⟨k, hk, rfl, ⟨xs, hox, hxs⟩, hBr⟩ := hrel
                by_cases hlt : k < n
                · obtain ⟨b, off, hab, hbl, hcl⟩ := hr (by omega)
                  subst hab
                  have cr1 : wr.cell? ⟨b, off + k, none⟩ = some (.int .i8 (zr.getD k 0)) := by
                    rw [hBr.cell (by have := hBw.size; exact Nat.lt_of_lt_of_le hbl this), hBw.cell (by exact hbl)]; exact hcl k hlt
                  have hlx : xs.length = n := by simpa using hox.1
                  have cst : wr.cell? ⟨wc.heap.size, k, none⟩ = some xs[k] := by rw [hox.cellAt k (by omega)]; simp [show k < xs.length by omega]
                  have fst := hox.frozenAt k
                  have S := nodes_step hox hlt (Nat.le_refl _) hxs hBr
                  have HS := show Hid _ from S
                  clear S hcl hxs hB1 hown hgr hBr hox
                  go_wp2_with (go_at_call 12; refine (node_any _ _ _ (by omega) (by omega)).mono ?_; rintro e w' ⟨rfl, rfl⟩)
                  go_roundw
                  case rel => exact ⟨k + 1, by omega, by go_num, HS.out.1, HS.out.2⟩
                  case measure => simp [intOf]; omega
                · obtain rfl : k = n := by omega
                  go_wp2
                  go_meet
                  case rel =>
                    refine ⟨fun j => nodeOf (zr.getD j 0) m, .inr ⟨_, rfl, rfl, Nat.le_refl _, ?_, fun j hj => ⟨?_, nodeOf_hi _ _ (by omega), nodeOf_lo _ _ (by omega)⟩⟩, hBr⟩
                    · exact lt_of_block (own_full hox).1
                    · rw [hox.cellAt j (by omega)]; exact hxs j hj
      case rest =>
        as_aux_lemma =>
          obtain ⟨nd, hN, hBc⟩ := hcut
          have hU' := hU.kept hBc
          have hBw' := hBw.trans (hBc.mono hBw.size)
          have hN' := hN.mono hBw.size
          clear hU hBc hBw hN hi3 z3 s3 y3 hr
          obtain ⟨aN, lN, hs16⟩ := hN'.shape
          subst hs16
          obtain ⟨i65, z65, hi65, hz65, hb65⟩ := info65'
          obtain ⟨i61, hi61, z61, s61, y61⟩ := info_parts info61
          have hbb : i65.bytes * n ≤ 281474976710656 := by
            have := Nat.mul_le_mul hb65 hn; omega
          go_wp2_with (first
            | (at_make; refine wpList_make_full _ rfl (.tmp 76) (.tmp 76) 59 rfl wc.heap.size 65 i65 z65 i65.size Yba.underlying59 hi65 hz65 rfl _ _ _ _ n rfl rfl rfl rfl hbb (by unfold maxLen; omega) (Nat.le_refl _) ?_; intro w1 hown1 hgr1)
            | (at_make; refine wpList_make_full _ rfl (.tmp 78) (.tmp 78) 59 rfl w1.heap.size 65 i65 z65 i65.size Yba.underlying59 hi65 hz65 rfl _ _ _ _ n rfl rfl rfl rfl hbb (by unfold maxLen; omega) (Nat.le_refl _) ?_; intro w2 hown2 hgr2)
            | (at_make; refine wpList_make_full _ rfl (.tmp 80) (.tmp 80) 60 rfl w2.heap.size 61 i61 (.pointer none) 1 Yba.underlying60 hi61 z61 s61 _ _ _ _ n rfl rfl rfl rfl (by rw [y61]; omega) (by unfold maxLen; omega) (Nat.le_refl _) ?_; intro w3 hown3 hgr3)
            | (at_make; refine wpList_make_full _ rfl (.tmp 82) (.tmp 82) 60 rfl w2.heap.size 61 i61 (.pointer none) 1 Yba.underlying60 hi61 z61 s61 _ _ _ _ n rfl rfl rfl rfl (by rw [y61]; omega) (by unfold maxLen; omega) hgr3.size ?_; intro w4 hown4 hgr4))
          have k1 : wc.heap.size < w1.heap.size := (hown1.lt _ rfl).2
          have k2 : w1.heap.size < w2.heap.size := (hown2.lt _ rfl).2
          have k3 : w2.heap.size < w3.heap.size := (hown3.lt _ rfl).2
          have k4 : w3.heap.size < w4.heap.size := (hown4.lt _ rfl).2
          have hB4 : Below wc.heap.size wc w4 := ((((Below.refl _ _).grown hgr1 (Nat.le_refl _) (fun k hk => by cases hk)).grown hgr2 (by omega) (fun k hk => by cases hk)).grown hgr3 (by omega) (fun k hk => by cases hk)).grown hgr4 (by omega) (fun k hk => by cases hk)
          have hrp : ∀ f, RowTo w2.heap.size 61 w2.heap.size n 0 f w4 := fun f => ⟨_, hown3.kept hgr4 (.inr (by simp [Value.ownBlock])), fun j hj => by omega⟩
          have hrb : ∀ f, RowTo w2.heap.size 61 w3.heap.size n 0 f w4 := fun f => ⟨_, hown4, fun j hj => by omega⟩
          clear hown1 hown2 hown3 hown4 hgr1 hgr2 hgr3 hgr4 hbb hi65 hz65
          go_loopw [22] (fun i wr => ∃ k : Nat, k ≤ n ∧ i = .int .i64 k ∧ RowTo w2.heap.size 61 w2.heap.size n k (fun j => .pointer (some ⟨wc.heap.size, j * 5, none⟩)) wr ∧
              RowTo w2.heap.size 61 w3.heap.size n k (fun j => .pointer (some ⟨w1.heap.size, j * 5, none⟩)) wr ∧ Below wc.heap.size wc wr)
            (fun i _ => n - (intOf i).toNat)
          case atStart => exact ⟨0, by omega, rfl, hrp _, hrb _, hB4⟩
          case round =>
            as_aux_lemma =>
              obtain ⟨k, hk, rfl, hp, hb, hBr⟩ := hrel
              by_cases hlt : k < n
              · obtain ⟨x1, cp⟩ := hp.cell hlt
                obtain ⟨x2, cb⟩ := hb.cell hlt
                have fp := hp.free k
                have fb := hb.free k
                clear hrp hrb hB4
                have hp2 := (hp.step hlt).other (a := ⟨w3.heap.size, k, none⟩) (by simp; omega) (.pointer (some ⟨w1.heap.size, k * 5, none⟩))
                have hb2 := (hb.other (a := ⟨w2.heap.size, k, none⟩) (by simp; omega) (.pointer (some ⟨wc.heap.size, k * 5, none⟩))).step hlt
                have hB2 := (hBr.setCell (p := ⟨w2.heap.size, k, none⟩) (by simp; omega) (.pointer (some ⟨wc.heap.size, k * 5, none⟩))).setCell (p := ⟨w3.heap.size, k, none⟩) (by simp; omega) (.pointer (some ⟨w1.heap.size, k * 5, none⟩))
                clear hp hb hBr
                go_wp2
                go_roundw
                case rel => exact ⟨k + 1, by omega, by go_num, hp2, hb2, hB2⟩
                case measure => simp [intOf]; omega
              · obtain rfl : k = n := by omega
                have hN3 := hN'.kept hBr
                have hU3 := hU'.kept hBr
                have hB3 := hBw'.trans (hBr.mono hBw'.size)
                have hsz := hBw'.size
                have hcp : ∀ j, j < k → wr.cell? ⟨w2.heap.size, j, none⟩ = some (.pointer (some ⟨wc.heap.size, j * 5, none⟩)) := fun j hj => hp.told hj hj
                have hcb : ∀ j, j < k → wr.cell? ⟨w3.heap.size, j, none⟩ = some (.pointer (some ⟨w1.heap.size, j * 5, none⟩)) := fun j hj => hb.told hj hj
                have hw3 : w3.heap.size < wr.heap.size := by
                  obtain ⟨xs, ho, _⟩ := hb
                  exact (ho.lt _ rfl).2
                have hw2 : w.heap.size ≤ w2.heap.size := by omega
                have hw23 : w2.heap.size < w3.heap.size := k3
                have HNE : Hid (wc.heap.size < w1.heap.size) := k1
                clear hp hb hBr hN' hU' hBw' hrp hrb hB4 k1 k2 k3 k4 hsz hlt
                go_upto_if 113 with fail
                go_cut [23, 25, 26] (fun s23 s25 s26 wx => ∃ bh bt gl ptr a25, s23 = .pointer (some ⟨bh, 0, none⟩) ∧ s25 = .pointer a25 ∧ s26 = .slice (some ⟨gl, 0, none⟩) k k ∧ St w wx k m hasLayout nd (.slice aI m m) (.slice aN lN lN) bh bt gl ptr (.pointer a25))
                case first =>
                  as_aux_lemma =>
                    cases useBare
                    · go_wp2
                      go_meet
                      case rel => exact ⟨_, _, _, _, _, rfl, rfl, rfl, (st_both rfl hB3 hU3 hN3 (by omega) hw3 hcp hcb).1⟩
                    · go_wp2
                      go_meet
                      case rel => exact ⟨_, _, _, _, _, rfl, rfl, rfl, (st_both rfl hB3 hU3 hN3 (by omega) hw3 hcp hcb).2⟩
                case rest =>
                  as_aux_lemma =>
                    clear hcp hcb hw3 hw2 hw23 HNE hN3 hU3 hB3
                    obtain ⟨bh, bt, gl, ptr, a25, hs23, hs25, hs26, hS⟩ := hcut
                    subst hs23 hs25 hs26
                    obtain ⟨keep, hKp⟩ := hS.U.keep
                    obtain ⟨i3, hi3, z3, s3, y3⟩ := info_parts info3
                    have q55 := run_neq_nil55
                    go_wp2
                    go_loopg [27, 28, 29] k (fun g vp vn i wx => ∃ j : Nat, j ≤ k ∧ g = k - j ∧ i = .int .i64 j ∧ wx.ownsRow wc.heap.size 61 1 vp (E nd keep j).length ((E nd keep j).map fun x => .pointer (ptr x)) ∧
                      wx.ownsRow wc.heap.size 3 1 vn (E nd keep j).length ((E nd keep j).map fun x => .int .i64 (nd x)) ∧ Below wc.heap.size wc wx)
                    case atStart => exact ⟨0, by omega, rfl, rfl, World.ownsRow_nil _ _ _ _, World.ownsRow_nil _ _ _ _, Below.refl _ _⟩
                    case round =>
                      as_aux_lemma =>
                        obtain ⟨j, hj, hg, rfl, hp, hnn, hBr⟩ := hrel
                        subst hg
                        by_cases hlt : j < k
                        · skip
                          have cl : wr.cell? ⟨gl, j, none⟩ = some (.pointer (ptr j)) := by rw [hBr.cell (by exact hS.gll)]; exact hS.l j hlt
                          have hle := E_len nd keep j
                          have hhi := hS.N.hi hlt
                          go_upto_if 120 with fail
                          go_cut [30] (fun s30 wx => s30 = .int .i64 (nd j) ∧ wr = wx)
                          case first =>
                            as_aux_lemma =>
                              rcases hS.N with ⟨_, hlay, hnd⟩ | ⟨g, hv, hlay, _, hgl, hc⟩
                              · subst hlay
                                have hnj := hnd j
                                clear hnd
                                go_wp2
                                go_meet
                                case rel => exact ⟨by rw [hnj], rfl⟩
                              · subst hlay
                                simp only [Value.slice.injEq] at hv
                                obtain ⟨rfl, rfl, _⟩ := hv
                                have cn : wr.cell? ⟨g, j, none⟩ = some (.int .i64 (nd j)) := by rw [hBr.cell (by exact hgl)]; exact (hc j hlt).1
                                clear hc
                                go_wp2
                                go_meet
                                case rel => exact ⟨rfl, rfl⟩
                          case rest =>
                            as_aux_lemma =>
                              obtain ⟨hs30, hw⟩ := hcut
                              subst hs30 hw
                              go_upto_if 126 with fail
                              go_cut [30, 31] (fun s30 s31 wx => s30 = .int .i64 (nd j) ∧ keep (nd j) = true ∧ wr = wx)
                              case first =>
                                as_aux_lemma =>
                                  rcases hKp with ⟨rfl, hk1⟩ | ⟨g, ins, rfl, rfl, hgl, hc⟩
                                  · have hk2 := hk1 (nd j)
                                    clear hk1
                                    go_wp2
                                    go_meet
                                    case rel => exact ⟨rfl, hk2, rfl⟩
                                  · by_cases h00 : 0 ≤ nd j
                                    · obtain ⟨x, hx⟩ := Int.eq_ofNat_of_zero_le h00
                                      have hxm : x < m := by omega
                                      have cI : wr.cell? ⟨g, x, none⟩ = some (.bool (ins.getD x false)) := by rw [hBr.cell (by exact hgl)]; exact hc x hxm
                                      have HX : Hid (lies ins (nd j) = ins.getD x false) := by rw [hx]; exact lies_at ins x
                                      have HD : Hid (nd j = x) := hx
                                      have hf1 : ((x : Int) == -1) = false := by simp
                                      clear hc h00
                                      cases hb : ins.getD x false with
                                      | true =>
                                        rw [hb] at cI HX
                                        go_wp2
                                        go_meet
                                        case rel => exact ⟨by rw [HD.out], HX.out, rfl⟩
                                      | false =>
                                        rw [hb] at cI HX
                                        go_wp2
                                        go_roundg (k - (j + 1))
                                        case measure => omega
                                        case rel => exact ⟨j + 1, by omega, rfl, by go_num, by rw [E_drop _ _ _ HX.out]; exact hp, by rw [E_drop _ _ _ HX.out]; exact hnn, hBr⟩
                                    · by_cases h1 : nd j = -1
                                      · have HX : Hid (lies ins (nd j) = true) := by rw [h1]; exact lies_none ins
                                        have HD : Hid (nd j = -1) := h1
                                        clear hc h00
                                        go_wp2
                                        go_meet
                                        case rel => exact ⟨by rw [HD.out], HX.out, rfl⟩
                                      · have HX : Hid (lies ins (nd j) = false) := lies_low ins _ (by omega)
                                        have hf1 : (nd j == -1) = false := by simpa using h1
                                        have hf2 : decide (0 ≤ nd j) = false := decide_eq_false h00
                                        clear hc h00 h1
                                        go_wp2
                                        go_roundg (k - (j + 1))
                                        case measure => omega
                                        case rel => exact ⟨j + 1, by omega, rfl, by go_num, by rw [E_drop _ _ _ HX.out]; exact hp, by rw [E_drop _ _ _ HX.out]; exact hnn, hBr⟩
                              case rest =>
                                as_aux_lemma =>
                                  obtain ⟨hs30, hkp, hw⟩ := hcut
                                  subst hs30 hw
                                  have HK : Hid (keep (nd j) = true) := hkp
                                  clear hkp
                                  have hszr : wc.heap.size ≤ wr.heap.size := hBr.size
                                  go_wp2_with (first
                                    | (at_builtin; refine wpList_append_own _ rfl (.tmp 146) (.tmp 151) 60 rfl wc.heap.size 61 i61 (.pointer none) 1 8 Yba.underlying60 hi61 z61 s61 y61 rfl (by decide) _ _ _ rfl (hp.alloc _) ⟨wr.heap.size, 0, none⟩ 1 1 [.pointer (ptr j)] rfl rfl (by intro t u hu; match t, hu with | 0, hu => (simp at hu; subst hu; simp [Addr.add])) (by intro u hu; simp at hu; subst hu; rfl) (by unfold maxLen; omega) (by omega) (by simp; omega) ?_; intro vp' wp1 hp1 hgp1 _)
                                    | (at_builtin; refine wpList_append_own _ rfl (.tmp 153) (.tmp 155) 56 rfl wc.heap.size 3 i3 (.int .i64 0) 1 8 Yba.underlying56 hi3 z3 s3 y3 rfl (by decide) _ _ _ rfl (((hnn.alloc _).kept hgp1 (own_ne hp hnn (by decide))).alloc _) ⟨wp1.heap.size, 0, none⟩ 1 1 [.int .i64 (nd j)] rfl rfl (by intro t u hu; match t, hu with | 0, hu => (simp at hu; subst hu; simp [Addr.add])) (by intro u hu; simp at hu; subst hu; rfl) (by unfold maxLen; omega) (by omega) (by have := hgp1.size; simp at this ⊢; omega) ?_; intro vn' wp2 hn1 hgn1 _))
                                  have X := exp_step HK.out hBr.size hBr hp hnn hp1 hgp1 hn1 hgn1
                                  go_roundg (k - (j + 1))
                                  case measure => omega
                                  case rel => exact ⟨j + 1, by omega, rfl, by go_num, X.1, X.2.1, X.2.2⟩
                        · obtain rfl : j = k := by omega
                          have hm1 := Int.emod_nonneg stp (show (j : Int) + 2 ≠ 0 by omega)
                          have hm2 := Int.emod_lt_of_pos stp (show 0 < (j : Int) + 2 by omega)
                          obtain ⟨aP, cP, hvp⟩ := own_len hp
                          obtain ⟨aN', cN, hvn⟩ := own_len hnn
                          subst hvp hvn
                          have hle := E_len nd keep j
                          clear q55 hi61 z61 s61 y61 hi3 z3 s3 y3 hlt
                          have hmf : ∀ (fn : Fn) (first cap : Array Value) (w : World), (Instr.makeFunc fn first cap).run Yba.prog w = .ok (.func fn first cap) w := fun _ _ _ _ => rfl
                          go_upto_if 166 with fail
                          go_cut [34] (fun s34 wx => s34 = .int .i64 (max (stp % ((j : Int) + 2)) 1) ∧ wr.alloc (.cells #[.int .i64 (stp % ((j : Int) + 2))] 3) = wx)
                          case first =>
                            as_aux_lemma =>
                              by_cases hl1 : stp % ((j : Int) + 2) < 1
                              · have HM : Hid (max (stp % ((j : Int) + 2)) 1 = 1) := by show _ = _; omega
                                go_wp2
                                go_meet
                                case rel => exact ⟨by rw [HM.out], rfl⟩
                              · have HM : Hid (max (stp % ((j : Int) + 2)) 1 = stp % ((j : Int) + 2)) := by show _ = _; omega
                                have hl2 : 1 ≤ stp % ((j : Int) + 2) := by omega
                                clear hl1
                                go_wp2
                                go_meet
                                case rel => exact ⟨by rw [HM.out], rfl⟩
                          case rest =>
                            as_aux_lemma =>
                              obtain ⟨hs34, hw⟩ := hcut
                              subst hs34 hw
                              have hrl := R_len nd keep j (stp % ((j : Int) + 2))
                              have hrle := R_le nd keep j (stp % ((j : Int) + 2))
                              go_upto_if 169 with fail
                              go_cut [33] (fun s33 wx => s33 = .int .i64 ((R nd keep j (stp % ((j : Int) + 2))).length : Nat) ∧ wr.alloc (.cells #[.int .i64 (stp % ((j : Int) + 2))] 3) = wx)
                              case first =>
                                as_aux_lemma =>
                                  by_cases hl1 : max (stp % ((j : Int) + 2)) 1 < ((E nd keep j).length : Int)
                                  · have HM : Hid (((R nd keep j (stp % ((j : Int) + 2))).length : Int) = max (stp % ((j : Int) + 2)) 1) := by rw [if_pos hl1] at hrl; exact hrl
                                    clear hrl hrle
                                    go_wp2
                                    go_meet
                                    case rel => exact ⟨by rw [HM.out], rfl⟩
                                  · have HM : Hid (((R nd keep j (stp % ((j : Int) + 2))).length : Int) = ((E nd keep j).length : Int)) := by rw [if_neg hl1] at hrl; exact hrl
                                    clear hrl hrle
                                    go_wp2
                                    go_meet
                                    case rel => exact ⟨by rw [HM.out], rfl⟩
                              case rest =>
                                as_aux_lemma =>
                                  obtain ⟨hs33, hw⟩ := hcut
                                  subst hs33 hw
                                  clear hrl
                                  have hBW : Below wc.heap.size wc (((wr.alloc (.cells #[.int .i64 (stp % ((j : Int) + 2))] 3)).alloc (.cells #[.slice none 0 0] 60)).alloc (.cells #[.slice none 0 0] 56)) := by
                                    have := hBr.size
                                    exact ((hBr.alloc (by omega) _).alloc (by simp; omega) _).alloc (by simp; omega) _
                                  go_wp2_with (first
                                    | (go_at_call 13; refine (hS.ok aI m m _ hBW).mono ?_; rintro e w6 ⟨b1, b2, b3, rfl, hbx⟩)
                                    | (go_at_call 24; refine (ready hS hKp hn hBr (stp % ((j : Int) + 2)) rfl hbx).mono ?_; rintro e w7 ⟨rfl, ⟨vp, vn, hG⟩, hKt⟩; have cg := cell_of_one hG.p; obtain ⟨aG, cG, hvG⟩ := own_len hG.po; subst hvG))
                                  have hq := neq_refl
                                  have hb37 : Below wr.heap.size wr w7 := by
                                    have e1 : Below wr.heap.size wr (((wr.alloc (.cells #[.int .i64 (stp % ((j : Int) + 2))] 3)).alloc (.cells #[.slice none 0 0] 60)).alloc (.cells #[.slice none 0 0] 56)) := (((Below.refl _ _).alloc (Nat.le_refl _) _).alloc (by simp) _).alloc (by simp; omega) _
                                    have h6 := hbx.below.size
                                    simp at h6
                                    exact (e1.trans (hbx.below.mono (by simp; omega))).trans (hKt.below (by omega) (by omega) (by omega))
                                  have hbw7 : Below w.heap.size w w7 := hS.below.trans ((hBr.trans (hb37.mono hBr.size)).mono hS.below.size)
                                  have HFIN : Hid (Below w.heap.size w w7) := hbw7
                                  clear hbx hKt hBW hbw7 hKp hS hmf
                                  go_loopw [38] (fun i wx => ∃ t q : Nat, t ≤ (R nd keep j (stp % ((j : Int) + 2))).length ∧ i = .int .i64 t ∧ wx = w7.drewN q) (fun i _ => (R nd keep j (stp % ((j : Int) + 2))).length - (intOf i).toNat)
                                  case atStart => exact ⟨0, 0, by omega, rfl, rfl⟩
                                  case round =>
                                    as_aux_lemma =>
                                      obtain ⟨t, q, ht, rfl, rfl⟩ := hrel
                                      by_cases hlt : t < (R nd keep j (stp % ((j : Int) + 2))).length
                                      · obtain ⟨x, hxR, hxE⟩ := R_at nd keep j (stp % ((j : Int) + 2)) t hlt
                                        obtain ⟨g1, c1, e1, _, _, f1⟩ := own_cells hG.po (by simp; omega)
                                        obtain ⟨g2, c2, e2, _, _, f2⟩ := own_cells hG.no (by simp; omega)
                                        obtain ⟨g3, c3, e3, _, l3, f3⟩ := own_cells hp (by omega)
                                        obtain ⟨g4, c4, e4, _, l4, f4⟩ := own_cells hnn (by omega)
                                        simp only [Value.slice.injEq] at e1 e3 e4
                                        obtain ⟨rfl, -, rfl⟩ := e1
                                        obtain ⟨rfl, -, rfl⟩ := e3
                                        obtain ⟨rfl, -, rfl⟩ := e4
                                        subst e2
                                        have d1 : w7.cell? ⟨g1, t, none⟩ = some (.pointer (ptr x)) := by rw [f1 t (by simpa using hlt)]; simp [hxR]
                                        have d2 : w7.cell? ⟨g2, t, none⟩ = some (.int .i64 (nd x)) := by rw [f2 t (by simpa using hlt)]; simp [hxR]
                                        have d3 : w7.cell? ⟨g3, t, none⟩ = some (.pointer (ptr x)) := by rw [hb37.cell (by exact l3), f3 t (by omega)]; simp [hxE]
                                        have d4 : w7.cell? ⟨g4, t, none⟩ = some (.int .i64 (nd x)) := by rw [hb37.cell (by exact l4), f4 t (by omega)]; simp [hxE]
                                        have cn := cell_of_one hG.n
                                        have z1 : (t : Int) < ((R nd keep j (stp % ((j : Int) + 2))).length : Int) := by omega
                                        have z2 : (t : Int) < ((E nd keep j).length : Int) := by omega
                                        clear f1 f2 f3 f4 hxR hxE hp hnn hb37 hBr hG
                                        go_wp2
                                        go_quiet (fail)
                                        go_wp2
                                        go_roundw
                                        case rel => exact ⟨t + 1, _, by omega, by go_num, rfl⟩
                                        case measure => simp [intOf]; omega
                                      · obtain rfl : t = (R nd keep j (stp % ((j : Int) + 2))).length := by omega
                                        go_wp2
                                        go_ret
                                        exact ⟨rfl, below_drewN HFIN.out _⟩
end Go.Proofs.Ybulkxci.Yields
