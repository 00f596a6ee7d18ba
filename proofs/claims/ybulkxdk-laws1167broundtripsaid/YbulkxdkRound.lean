import Derived.Test.YbulkxdkWide
import Derived.Deep.DeepCutAuto
namespace Go.Proofs.Ybulkxdk.Nar
open Go.RowKit

theorem info21 : (Yba.prog.info? 21).map (fun i => (i.zero, i.size, i.bytes)) = some (some (.int .i32 0), 1, 4) := by kernel_rfl

/-- a distance within reach reads back -/
theorem round_q (base q : Int) (h0 : -2147483648 ≤ q) (h1 : q ≤ 2147483647) (h2 : -32768 ≤ q - base) (h3 : q - base ≤ 32767) :
    wrap32 (base + wrap32 (IntKind.i16.wrap (wrap32 (q - base) % 65536))) = q := by
  have e1 : wrap32 (q - base) = q - base := by unfold wrap32; omega
  rw [e1, wrap_i16]
  have e2 : ((q - base) % 65536 + 32768) % 65536 - 32768 = q - base := by omega
  rw [e2, e1]
  unfold wrap32; omega

/-- a row of which the first k cells are told -/
def RowTo (B e g n k : Nat) (f : Nat → Value) (w : World) : Prop := ∃ xs, w.ownsRow B e 1 (.slice (some ⟨g, 0, none⟩) n n) n xs ∧ ∀ j, j < k → xs[j]? = some (f j)
theorem RowTo.step {B e g n k : Nat} {f : Nat → Value} {w : World} (h : RowTo B e g n k f w) (hk : k < n) : RowTo B e g n (k + 1) f (w.setCell ⟨g, k, none⟩ (f k)) := by
  obtain ⟨xs, hown, hx⟩ := h
  refine ⟨xs.set k (f k), (hown.stored k _).1, fun j hj => ?_⟩
  have hl : xs.length = n := by simpa using hown.1
  by_cases e : j = k
  · subst e; simp [show j < xs.length by omega]
  · rw [List.getElem?_set_ne (by omega)]; exact hx j (by omega)
theorem RowTo.cell {B e g n k : Nat} {f : Nat → Value} {w : World} (h : RowTo B e g n k f w) {j : Nat} (hj : j < n) : ∃ v, w.cell? ⟨g, j, none⟩ = some v := by
  obtain ⟨xs, ho, hx⟩ := h
  have hl : xs.length = n := by simpa using ho.1
  exact ⟨xs[j], by rw [ho.cellAt j (by omega)]; simp [show j < xs.length by omega]⟩
theorem RowTo.free {B e g n k : Nat} {f : Nat → Value} {w : World} (h : RowTo B e g n k f w) (j : Nat) : w.frozen? ⟨g, j, none⟩ = false := by
  obtain ⟨xs, ho, hx⟩ := h
  exact ho.frozenAt j
theorem RowTo.told {B e g n k : Nat} {f : Nat → Value} {w : World} (h : RowTo B e g n k f w) {j : Nat} (hj : j < n) (hk : j < k) : w.cell? ⟨g, j, none⟩ = some (f j) := by
  obtain ⟨xs, ho, hx⟩ := h
  rw [ho.cellAt j (by omega)]; exact hx j hk
theorem RowTo.grown {B e g n k : Nat} {f : Nat → Value} {w w' : World} (h : RowTo B e g n k f w) {row : Option Nat} (hg : w.grownBy w' row) (hne : some g ≠ row) : RowTo B e g n k f w' := by
  obtain ⟨xs, ho, hx⟩ := h
  exact ⟨xs, ho.kept hg (.inr (by simpa [Value.ownBlock] using hne)), hx⟩

/-- the sequence of at over the narrowed list -/
theorem at_round (bl g M cap t : Nat) (base tid q : Int) (w : World) (hb : (base == -1) = false) (hM : M ≤ 1024) (ht : t < M) (hH : Head w bl g M cap base tid)
    (hc : w.cell? ⟨g, t, none⟩ = some (.int .u16 (wrap32 (q - base) % 65536))) (h0 : -2147483648 ≤ q) (h1 : q ≤ 2147483647) (h2 : -32768 ≤ q - base) (h3 : q - base ≤ 32767) (n : Nat) :
    Calls Yba.prog 13 #[.pointer (some ⟨bl, 0, none⟩), .int .i64 t] (w.drewN n) fun e w' => e = .returned (.tuple #[.int .i32 q, .int .i64 ((t : Int) + 1)]) ∧ ∃ m, w' = w.drewN m := by
  have hc' := at_near bl g M cap t base (wrap32 (q - base) % 65536) (w.drewN n) hb (by omega) ht hH.c0 hH.c1 hc
  rw [round_q base q h0 h1 h2 h3] at hc'
  refine hc'.mono ?_
  rintro e w' ⟨rfl, m, rfl⟩
  exact ⟨rfl, n + m, World.drewN_drewN ..⟩

set_option maxHeartbeats 400000 in
theorem len_near (bl g M cap : Nat) (base tid : Int) (w : World) (hb : (base == -1) = false) (hH : Head w bl g M cap base tid) :
    Calls Yba.prog 12 #[.pointer (some ⟨bl, 0, none⟩)] w fun e w' => e = .returned (.int .i64 M) ∧ w = w' := by
  have c0 := hH.c0
  have c1 := hH.c1
  go_enter Yba.func12, Yba.ntmps12
  go_wp2
  go_ret
  exact ⟨rfl, rfl⟩

set_option maxHeartbeats 2000000 in
set_option maxRecDepth 100000 in
theorem walk_round (lo : Int) (ao : Option Addr) (n cap : Nat) (zs : List Int) (w : World) (hl : -2147483648 ≤ lo) (hn : n ≤ 1024) (ha : Arg .u16 w ao n zs) (hz : ∀ j, j < n → 0 ≤ zs.getD j 0 ∧ zs.getD j 0 ≤ 65535) :
    Calls Yba.prog 7 #[.int .i32 lo, .slice ao n cap] w fun e w' => e = .returned (.bool true) ∧ Below w.heap.size w w' := by
  obtain ⟨i0, hi, z0, s0, y0⟩ := info_parts info28
  obtain ⟨i1, hi1, z1, s1, y1⟩ := info_parts info21
  obtain ⟨N, hN⟩ : ∃ N : Nat, N = 2 * n := ⟨_, rfl⟩
  have hd1 : decide ((1024 : Int) < (n : Int)) = false := decide_eq_false (by omega)
  have HN : Hid (N = 2 * n) := hN
  have hNb : N ≤ 2048 := by omega
  clear hN
  have hw16 := wrap_u16
  go_enter Yba.func7, Yba.ntmps7
  go_upto_if 20 with fail
  go_cut [0] (fun s0 wx => ∃ l, s0 = .int .i32 l ∧ -2147483648 ≤ l ∧ l ≤ 2147418112 ∧ w = wx)
  case first =>
    by_cases h : 2147418112 < lo
    · go_wp2
      go_meet
      case rel => exact ⟨_, rfl, by omega, by omega, rfl⟩
    · go_wp2
      go_meet
      case rel => exact ⟨lo, rfl, by omega, by omega, rfl⟩
  case rest =>
    obtain ⟨l, hs0, hl0, hl1, hw⟩ := hcut
    subst hs0 hw
    by_cases hb1 : l + 32768 = -1
    · go_wp2
      go_ret
      exact ⟨rfl, Below.refl _ _⟩
    · have hb : (l + 32768 == -1) = false := by simpa using hb1
      clear hb1
      go_wp2_with (first
        | (at_make; refine wpList_make_full _ rfl (.tmp 26) (.tmp 26) 30 rfl w.heap.size 21 i1 (.int .i32 0) 1 Yba.underlying30 hi1 z1 s1 _ _ _ _ n rfl rfl rfl rfl (by rw [y1]; omega) (by unfold maxLen; omega) (Nat.le_refl _) ?_; intro w1 hown1 hgr1)
        | (at_make; refine wpList_make_own _ rfl _ _ 31 rfl w.heap.size 28 i0 (.int .u16 0) 1 Yba.underlying31 hi z0 s0 _ _ _ N rfl rfl (by have := HN.out; omega) (by rw [y0]; omega) (by unfold maxLen; omega) hgr1.size ?_; intro w2 hown2 hgr2))
      have k1 : w.heap.size < w1.heap.size := (hown1.lt _ rfl).2
      have k2 : w1.heap.size < w2.heap.size := (hown2.lt _ rfl).2
      have hB2 : Below w.heap.size w w2 := ((Below.refl _ _).grown hgr1 (Nat.le_refl _) (fun k hk => by cases hk)).grown hgr2 (by omega) (fun k hk => by cases hk)
      have hR2 : RowTo w.heap.size 21 w.heap.size n 0 (fun j => .int .i32 (l + zs.getD j 0)) w2 := ⟨_, hown1.kept hgr2 (.inr (by simp [Value.ownBlock])), fun j hj => by omega⟩
      clear hgr1 hgr2 hown1
      go_loopw [7, 34] (fun s7 i wr => ∃ k p : Nat, k ≤ n ∧ Hid (p = 2 * k) ∧ i = .int .i64 k ∧ s7 = .slice (some ⟨w1.heap.size, 0, none⟩) p N ∧ wr.ownsRow w.heap.size 28 1 (.slice (some ⟨w1.heap.size, 0, none⟩) p N) p ((List.range (2 * k)).map (half fun j => l + zs.getD j 0)) ∧
          RowTo w.heap.size 21 w.heap.size n k (fun j => .int .i32 (l + zs.getD j 0)) wr ∧ Below w.heap.size w wr)
        (fun _ i _ => n - (intOf i).toNat)
      case atStart => exact ⟨0, 0, by omega, rfl, rfl, rfl, hown2, hR2, hB2⟩
      case round =>
        obtain ⟨k, p, hk, HP, rfl, rfl, hox, hR, hBr⟩ := hrel
        by_cases hlt : k < n
        · obtain ⟨b, off, hab, hbl, hcl⟩ := ha (by omega)
          subst hab
          have cr : wr.cell? ⟨b, off + k, none⟩ = some (.int .u16 (zs.getD k 0)) := by rw [hBr.cell (by exact hbl)]; exact hcl k hlt
          have hzk := hz k hlt
          have hzk1 : 0 ≤ zs[k]?.getD 0 := by simpa using hzk.1
          have hzk2 : zs[k]?.getD 0 ≤ 65535 := by simpa using hzk.2
          obtain ⟨v, cst⟩ := hR.cell hlt
          have fst := hR.free k
          have hpN : p + 2 ≤ N := by have := HP.out; have := HN.out; omega
          have hszr : w.heap.size ≤ wr.heap.size := hBr.size
          have hR1 := hR.step hlt
          have hBs := hBr.setCell (p := ⟨w.heap.size, k, none⟩) (Nat.le_refl _) (.int .i32 (l + zs.getD k 0))
          have hox1 := ownsRow_setCell_other hox (a := ⟨w.heap.size, k, none⟩) (by simp [Value.ownBlock]; omega) (.int .i32 (l + zs.getD k 0))
          clear hcl hown2 hB2 hR2 hzk hz hox hR hBr
          go_wp2_with (at_builtin; refine wpList_append_fits _ rfl _ _ 31 rfl w.heap.size 28 i0 1 Yba.underlying31 hi s0 w1.heap.size p N _ rfl (hox1.alloc _) ⟨wr.heap.size, 0, none⟩ 2 2 [.int .u16 ((l + zs.getD k 0) / 65536 % 65536), .int .u16 ((l + zs.getD k 0) % 65536)] rfl rfl ?c1 ?c2 hpN ?_)
          case c1 =>
            intro j u hj
            rw [Addr.add_lit, World.cell?_alloc_at _ _ _ _ (by simp)]
            match j, hj with
            | 0, hj => simp at hj; subst hj; simp
            | 1, hj => simp at hj; subst hj; simp
          case c2 => intro u hu; simp at hu; rcases hu with rfl | rfl <;> rfl
          intro w5 hown5 hgr5
          have hB5 : Below w.heap.size w w5 := (hBs.alloc (by simpa using hszr) _).grown hgr5 (by simp; omega) (fun k hk => by cases hk; omega)
          have hR5 := (hR1.grown (World.grownBy_alloc _ _ none) (by simp)).grown hgr5 (by simp; omega)
          have e2 := halves_next (fun j => l + zs.getD j 0) k
          have hown6 : w5.ownsRow w.heap.size 28 1 (.slice (some ⟨w1.heap.size, 0, none⟩) (p + 2) N) (p + 2) ((List.range (2 * (k + 1))).map (half fun j => l + zs.getD j 0)) := by
            rw [← e2]; simpa using hown5
          clear hown5 hgr5 e2 hox1 hBs hR1
          go_wp2
          go_roundw
          case rel => exact ⟨k + 1, p + 2, by omega, by show _ = _; rw [HP.out]; omega, by go_num, rfl, hown6, hR5, hB5⟩
          case measure => simp [intOf]; omega
        · obtain rfl : k = n := by omega
          obtain rfl : p = N := by rw [HP.out, HN.out]
          obtain ⟨hWA, hne⟩ := wideAt_boxed (tid := 0) HN.out hox
          have hg2 : w1.heap.size < wr.heap.size := (hox.lt _ rfl).2
          have hszr : w.heap.size ≤ wr.heap.size := hBr.size
          have hadr : ∀ t, t < k → wr.cell? ⟨w.heap.size, t, none⟩ = some (.int .i32 (l + zs.getD t 0)) := fun t ht => hR.told ht ht
          have HC := narrow_wide wr.heap.size w1.heap.size k p 0 (l + 32768) (fun j => l + zs.getD j 0) _ hn hne hWA (fun j hj => by have := hz j hj; omega)
          have HC' := show Hid _ from HC
          clear HC hox hown2 hB2 hR2 hWA hR
          go_wp2_with (first
            | (go_at_call 11; refine Calls.mono (Hid.out HC') ?_; rintro e w3 ⟨rfl, hH, hcell, hO⟩; have c0 := hH.c0)
            | (go_at_call 12; refine (len_near _ _ _ _ _ _ _ hb hH).mono ?_; rintro e w' ⟨rfl, rfl⟩))
          have hB3 : Below w.heap.size w w3 := (hBr.alloc hszr _).trans (hO.below hszr (by omega))
          have hadr3 : ∀ t, t < k → w3.cell? ⟨w.heap.size, t, none⟩ = some (.int .i32 (l + zs.getD t 0)) := fun t ht => by
            rw [World.cell?_of_block (w := wr.alloc (.cells #[.slice (some ⟨w1.heap.size, 0, none⟩) p p, .int .i32 (-1), .int .i32 0] 35)) (hO.block w.heap.size (by omega) (by omega)), World.cell?_alloc_past _ _ _ (by exact Nat.lt_of_lt_of_le k1 (by omega))]
            exact hadr t ht
          clear hO hBr hadr
          go_loopw [12, 13] (fun vk vi wx => ∃ t q : Nat, t ≤ k ∧ vk = .int .i64 t ∧ vi = .int .i64 t ∧ wx = w3.drewN q) (fun vk _ _ => k - (intOf vk).toNat)
          case atStart => exact ⟨0, 0, by omega, rfl, rfl, rfl⟩
          case round =>
            obtain ⟨t, q, ht, rfl, rfl, rfl⟩ := hrel
            by_cases hlt2 : t < k
            · have hzt := hz t hlt2
              have HAT := at_round wr.heap.size w1.heap.size k p t (l + 32768) 0 (l + zs.getD t 0) w3 hb hn hlt2 hH (hcell t hlt2) (by omega) (by omega) (by omega) (by omega) q
              have HAT' := show Hid _ from HAT
              have ct := hadr3 t hlt2
              clear HAT hadr3 hcell hz hzt
              go_wp2_with (go_at_call 13; refine Calls.mono (Hid.out HAT') ?_; rintro e w' ⟨rfl, m, rfl⟩)
              go_roundw
              case rel => exact ⟨t + 1, m, by omega, by go_num, by go_num, rfl⟩
              case measure => simp [intOf]; omega
            · obtain rfl : t = k := by omega
              go_wp2
              go_ret
              exact ⟨by simp, below_drewN hB3 _⟩

set_option maxHeartbeats 400000 in
theorem walk_round_long (lo : Int) (ao : Option Addr) (n cap : Nat) (w : World) (hn : 1024 < n) :
    Calls Yba.prog 7 #[.int .i32 lo, .slice ao n cap] w fun e w' => e = .returned (.bool true) ∧ Below w.heap.size w w' := by
  have hz : (1024 : Int) < (n : Int) := by omega
  go_enter Yba.func7, Yba.ntmps7
  go_wp2
  go_ret
  exact ⟨rfl, Below.refl _ _⟩
end Go.Proofs.Ybulkxdk.Nar
