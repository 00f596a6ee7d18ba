import Derived.Test.YbulkxdkNarrow
namespace Go.Proofs.Ybulkxdk.Nar
open Go.RowKit

theorem info28 : (Yba.prog.info? 28).map (fun i => (i.zero, i.size, i.bytes)) = some (some (.int .u16 0), 1, 2) := by kernel_rfl

theorem wrap_u16 (n : Int) : IntKind.u16.wrap n = n % 65536 := by simp [IntKind.wrap, IntKind.bits, IntKind.signed]

/-- a slice of numbers that came in -/
def Arg (k : IntKind) (w : World) (a : Option Addr) (n : Nat) (zs : List Int) : Prop :=
  0 < n → ∃ b off, a = some ⟨b, off, none⟩ ∧ b < w.heap.size ∧ ∀ j, j < n → w.cell? ⟨b, off + j, none⟩ = some (.int k (zs.getD j 0))

/-- the t-th half of the addresses -/
def half (q : Nat → Int) (t : Nat) : Value := if t % 2 = 0 then .int .u16 (q (t / 2) / 65536 % 65536) else .int .u16 (q (t / 2) % 65536)
theorem half_even (q : Nat → Int) (k : Nat) : half q (2 * k) = .int .u16 (q k / 65536 % 65536) := by
  unfold half; rw [if_pos (by omega), show 2 * k / 2 = k by omega]
theorem half_odd (q : Nat → Int) (k : Nat) : half q (2 * k + 1) = .int .u16 (q k % 65536) := by
  unfold half; rw [if_neg (by omega), show (2 * k + 1) / 2 = k by omega]
theorem halves_next (q : Nat → Int) (k : Nat) : (List.range (2 * k)).map (half q) ++ [.int .u16 (q k / 65536 % 65536), .int .u16 (q k % 65536)] = (List.range (2 * (k + 1))).map (half q) := by
  rw [show 2 * (k + 1) = 2 * k + 1 + 1 by omega, List.range_succ, List.range_succ]
  simp [half_even, half_odd]

/-- the list as narrow finds it: whole numbers, two slots each -/
structure WideAt (w : World) (bl g M N : Nat) (tid : Int) (q : Nat → Int) : Prop where
  hN : N = 2 * M
  head : Head w bl g N N (-1) tid
  row : Row w g N
  cell : ∀ t, t < N → w.cell? ⟨g, t, none⟩ = some (half q t)

theorem narrow_wide (bl g M N : Nat) (tid base : Int) (q : Nat → Int) (w : World) (hM : M ≤ 1024) (hbg : bl ≠ g) (h : WideAt w bl g M N tid q) (hq : ∀ j, j < M → -2147483648 ≤ q j ∧ q j ≤ 2147483647) :
    Calls Yba.prog 11 #[.pointer (some ⟨bl, 0, none⟩), .int .i32 base] w fun e w' =>
      e = .returned (.tuple #[]) ∧ Head w' bl g M N base tid ∧ (∀ t, t < M → w'.cell? ⟨g, t, none⟩ = some (.int .u16 (wrap32 (q t - base) % 65536))) ∧ Only bl g w w' := by
  refine narrow_any bl g M N N 2 (-1) tid base q w (by omega) (by omega) hM h.hN (Nat.le_refl _) hbg h.head h.row ?_
  intro j p wr hj hp hA
  have hN := h.hN
  have hc := at_wide bl g N N p (q j / 65536 % 65536) (q j % 65536) wr (by omega) (by omega) (by omega) (by omega) (by omega) (by omega) hA.head.c0 hA.head.c1
    (by rw [hA.left p (by omega) (by omega), h.cell p (by omega), hp, half_even]) (by rw [hA.left (p + 1) (by omega) (by omega), h.cell (p + 1) (by omega), hp, half_odd])
  rw [halves (q j) (hq j hj).1 (hq j hj).2] at hc
  exact hc

/-- the list made: the row of halves, boxed -/
theorem wideAt_boxed {wr : World} {B g M N : Nat} {tid : Int} {q : Nat → Int} (hN : N = 2 * M) (hown : wr.ownsRow B 28 1 (.slice (some ⟨g, 0, none⟩) N N) N ((List.range (2 * M)).map (half q))) :
    WideAt (wr.alloc (.cells #[.slice (some ⟨g, 0, none⟩) N N, .int .i32 (-1), .int .i32 tid] 35)) wr.heap.size g M N tid q ∧ wr.heap.size ≠ g := by
  have hg : g < wr.heap.size := (hown.lt g rfl).2
  refine ⟨⟨hN, heap_alloc_new _ _, ?_, fun t ht => ?_⟩, by omega⟩
  · rcases hown.2 with ⟨h', _⟩ | ⟨g', cap, cur, h', _, hgg, _, _, hs, _⟩
    · simp at h'
    · simp only [Value.slice.injEq, Option.some.injEq, Addr.mk.injEq, and_true, true_and] at h'
      obtain ⟨rfl, rfl⟩ := h'
      exact ⟨cur, by rw [Below.heap_alloc _ _ _ hg]; exact hgg, by omega⟩
  · rw [World.cell?_alloc_past _ _ _ hg, hown.cellAt t (by omega)]
    simp [show t < 2 * M by omega]

set_option maxHeartbeats 1000000 in
set_option maxRecDepth 100000 in
theorem walk_wide (ao : Option Addr) (n cap : Nat) (zs : List Int) (base tid : Int) (w : World) (hn : n ≤ 1024) (ha : Arg .i32 w ao n zs) (hz : ∀ j, j < n → -2147483648 ≤ zs.getD j 0 ∧ zs.getD j 0 ≤ 2147483647) :
    Calls Yba.prog 5 #[.slice ao n cap, .int .i32 base, .int .i32 tid] w fun e w' => e = .returned (.bool true) ∧ Below w.heap.size w w' := by
  obtain ⟨i0, hi, z0, s0, y0⟩ := info_parts info28
  obtain ⟨N, hN⟩ : ∃ N : Nat, N = 2 * n := ⟨_, rfl⟩
  have hd1 : decide ((1024 : Int) < (n : Int)) = false := decide_eq_false (by omega)
  have HN : Hid (N = 2 * n) := hN
  have hNb : N ≤ 2048 := by omega
  clear hN
  have hw16 := wrap_u16
  go_enter Yba.func5, Yba.ntmps5
  go_wp2_with (at_make; refine wpList_make_own _ rfl _ _ 31 rfl w.heap.size 28 i0 (.int .u16 0) 1 Yba.underlying31 hi z0 s0 _ _ _ N rfl rfl (by have := HN.out; omega) (by rw [y0]; omega) (by unfold maxLen; omega) (Nat.le_refl _) ?_; intro w1 hown hgr)
  have hB1 : Below w.heap.size w w1 := (Below.refl _ _).grown hgr (Nat.le_refl _) (fun k hk => by cases hk)
  clear hgr
  go_loopw [7, 22] (fun s7 i wr => ∃ k p : Nat, k ≤ n ∧ Hid (p = 2 * k) ∧ i = .int .i64 k ∧ s7 = .slice (some ⟨w.heap.size, 0, none⟩) p N ∧ wr.ownsRow w.heap.size 28 1 (.slice (some ⟨w.heap.size, 0, none⟩) p N) p ((List.range (2 * k)).map (half fun j => zs.getD j 0)) ∧ Below w.heap.size w wr)
    (fun _ i _ => n - (intOf i).toNat)
  case atStart => exact ⟨0, 0, by omega, rfl, rfl, rfl, hown, hB1⟩
  case round =>
    obtain ⟨k, p, hk, HP, rfl, rfl, hox, hBr⟩ := hrel
    by_cases hlt : k < n
    · obtain ⟨b, off, hab, hbl, hcl⟩ := ha (by omega)
      subst hab
      have cr : wr.cell? ⟨b, off + k, none⟩ = some (.int .i32 (zs.getD k 0)) := by rw [hBr.cell (by exact hbl)]; exact hcl k hlt
      have hpN : p + 2 ≤ N := by have := HP.out; have := HN.out; omega
      have hszr : w.heap.size ≤ wr.heap.size := hBr.size
      clear hcl hown hB1
      go_wp2_with (at_builtin; refine wpList_append_fits _ rfl _ _ 31 rfl w.heap.size 28 i0 1 Yba.underlying31 hi s0 w.heap.size p N _ rfl (hox.alloc _) ⟨wr.heap.size, 0, none⟩ 2 2 [.int .u16 (zs.getD k 0 / 65536 % 65536), .int .u16 (zs.getD k 0 % 65536)] rfl rfl ?c1 ?c2 hpN ?_)
      case c1 =>
        intro j u hj
        rw [Addr.add_lit, World.cell?_alloc_at _ _ _ _ rfl]
        match j, hj with
        | 0, hj => simp at hj; subst hj; simp
        | 1, hj => simp at hj; subst hj; simp
      case c2 => intro u hu; simp at hu; rcases hu with rfl | rfl <;> rfl
      intro w2 hown2 hgr2
      have hB2 : Below w.heap.size w w2 := (hBr.alloc hszr _).grown hgr2 (by simp; omega) (fun k hk => by cases hk; exact Nat.le_refl _)
      have e2 := halves_next (fun j => zs.getD j 0) k
      have hown3 : w2.ownsRow w.heap.size 28 1 (.slice (some ⟨w.heap.size, 0, none⟩) (p + 2) N) (p + 2) ((List.range (2 * (k + 1))).map (half fun j => zs.getD j 0)) := by
        rw [← e2]; simpa using hown2
      clear hown2 hgr2 e2 hox hBr
      go_wp2
      go_roundw
      case rel => exact ⟨k + 1, p + 2, by omega, by show _ = _; rw [HP.out]; omega, by go_num, rfl, hown3, hB2⟩
      case measure => simp [intOf]; omega
    · obtain rfl : k = n := by omega
      obtain rfl : p = N := by rw [HP.out, HN.out]
      obtain ⟨hWA, hne⟩ := wideAt_boxed (tid := tid) HN.out hox
      have hszr : w.heap.size ≤ wr.heap.size := hBr.size
      have hBx : Below w.heap.size w (wr.alloc (.cells #[.slice (some ⟨w.heap.size, 0, none⟩) p p, .int .i32 (-1), .int .i32 tid] 35)) := hBr.alloc hszr _
      have HC := narrow_wide wr.heap.size w.heap.size k p tid base (fun j => zs.getD j 0) _ hn hne hWA hz
      have HC' := show Hid _ from HC
      clear HC hox hown hB1 hWA hz
      go_wp2_with (go_at_call 11; refine Calls.mono (Hid.out HC') ?_; rintro e w3 ⟨rfl, hH, hcell, hO⟩; have c0 := hH.c0; have c1 := hH.c1; have c2 := hH.c2)
      have hB3 : Below w.heap.size w w3 := hBx.trans (hO.below hszr (Nat.le_refl _))
      clear hO hBx hBr
      go_loop [68] (fun i => ∃ t : Nat, t ≤ k ∧ i = .int .i64 t) (fun i => k - (intOf i).toNat)
      case atStart => exact ⟨0, by omega, rfl⟩
      case round =>
        obtain ⟨t, ht, rfl⟩ := hrel
        by_cases hlt2 : t < k
        · obtain ⟨b, off, hab, hbl, hcl⟩ := ha (by omega)
          subst hab
          have cr : w3.cell? ⟨b, off + t, none⟩ = some (.int .i32 (zs.getD t 0)) := by rw [hB3.cell (by exact hbl)]; exact hcl t hlt2
          have ct := hcell t hlt2
          clear hcl hcell
          go_wp2
          go_round
          case rel => exact ⟨t + 1, by omega, by go_num⟩
          case measure => simp [intOf]; omega
        · obtain rfl : t = k := by omega
          go_wp2
          go_ret
          exact ⟨rfl, hB3⟩

set_option maxHeartbeats 400000 in
theorem walk_wide_long (ao : Option Addr) (n cap : Nat) (base tid : Int) (w : World) (hn : 1024 < n) :
    Calls Yba.prog 5 #[.slice ao n cap, .int .i32 base, .int .i32 tid] w fun e w' => e = .returned (.bool true) ∧ Below w.heap.size w w' := by
  have hz : (1024 : Int) < (n : Int) := by omega
  go_enter Yba.func5, Yba.ntmps5
  go_wp2
  go_ret
  exact ⟨rfl, Below.refl _ _⟩
end Go.Proofs.Ybulkxdk.Nar
