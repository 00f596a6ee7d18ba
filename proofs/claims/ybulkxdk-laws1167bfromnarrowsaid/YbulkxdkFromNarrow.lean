import Derived.Test.YbulkxdkWide
import Derived.Laws.CopyOwn
namespace Go.Proofs.Ybulkxdk.Nar
open Go.RowKit

theorem own_full {w : World} {base e g n : Nat} {xs : List Value} (h : w.ownsRow base e 1 (.slice (some ⟨g, 0, none⟩) n n) n xs) : w.heap[g]? = some (.cells xs.toArray e (0, 0)) ∧ xs.length = n := by
  rcases h.2 with ⟨h', _⟩ | ⟨g', cap, cur, h', _, hg, _, _, hs, ht⟩
  · simp at h'
  · simp only [Value.slice.injEq, Option.some.injEq, Addr.mk.injEq, and_true, true_and] at h'
    obtain ⟨rfl, rfl⟩ := h'
    have hl := h.1
    rw [List.take_of_length_le (by simp [hs])] at ht
    refine ⟨by rw [hg, ← ht], by omega⟩

/-- the copied row -/
theorem copied {w : World} {g n : Nat} {zs : List Int} {cur : List Value} (hg : w.heap[g]? = some (.cells (splice cur 0 ((List.range n).map fun j => Value.int .u16 (zs.getD j 0))).toArray 28 (0, 0))) (hc : cur.length = n) :
    Row w g n ∧ ∀ t, t < n → w.cell? ⟨g, t, none⟩ = some (.int .u16 (zs.getD t 0)) := by
  have e : splice cur 0 ((List.range n).map fun j => Value.int .u16 (zs.getD j 0)) = (List.range n).map fun j => Value.int .u16 (zs.getD j 0) := by
    simp [splice, hc]
  rw [e] at hg
  refine ⟨⟨_, hg, by simp⟩, fun t ht => ?_⟩
  rw [cell_of_row w g t _ 28 (0, 0) hg]
  simp [ht]

theorem narrow_near (bl g M : Nat) (b0 tid base : Int) (zs : List Int) (w : World) (hM : M ≤ 1024) (hbg : bl ≠ g) (hb : (b0 == -1) = false) (hH : Head w bl g M M b0 tid) (hR : Row w g M)
    (hc : ∀ t, t < M → w.cell? ⟨g, t, none⟩ = some (.int .u16 (zs.getD t 0))) :
    Calls Yba.prog 11 #[.pointer (some ⟨bl, 0, none⟩), .int .i32 base] w fun e w' =>
      e = .returned (.tuple #[]) ∧ Head w' bl g M M base tid ∧ (∀ t, t < M → w'.cell? ⟨g, t, none⟩ = some (.int .u16 (wrap32 (wrap32 (b0 + wrap32 (IntKind.i16.wrap (zs.getD t 0))) - base) % 65536))) ∧ Only bl g w w' := by
  refine narrow_any bl g M M M 1 b0 tid base (fun t => wrap32 (b0 + wrap32 (IntKind.i16.wrap (zs.getD t 0)))) w (by omega) (by omega) hM (by omega) (Nat.le_refl _) hbg hH hR ?_
  intro j p wr hj hp hA
  obtain rfl : p = j := by omega
  exact at_near bl g M M p b0 (zs.getD p 0) wr hb (by omega) hj hA.head.c0 hA.head.c1 (by rw [hA.left p (by omega) hj]; exact hc p hj)

theorem near_boxed {w2 : World} {g n : Nat} {b0 base : Int} {zs : List Int} {cur : List Value} (hn : n ≤ 1024) (hb : (b0 == -1) = false)
    (hg : w2.heap[g]? = some (.cells (splice cur 0 ((List.range n).map fun j => Value.int .u16 (zs.getD j 0))).toArray 28 (0, 0))) (hc : cur.length = n) :
    Calls Yba.prog 11 #[.pointer (some ⟨w2.heap.size, 0, none⟩), .int .i32 base] (w2.alloc (.cells #[.slice (some ⟨g, 0, none⟩) n n, .int .i32 b0, .int .i32 0] 35)) fun e w' =>
      e = .returned (.tuple #[]) ∧ Head w' w2.heap.size g n n base 0 ∧ (∀ t, t < n → w'.cell? ⟨g, t, none⟩ = some (.int .u16 (wrap32 (wrap32 (b0 + wrap32 (IntKind.i16.wrap (zs.getD t 0))) - base) % 65536))) ∧ Only w2.heap.size g (w2.alloc (.cells #[.slice (some ⟨g, 0, none⟩) n n, .int .i32 b0, .int .i32 0] 35)) w' := by
  have hgl := lt_of_block hg
  obtain ⟨⟨cu, hcu, hsz⟩, h2⟩ := copied hg hc
  exact narrow_near w2.heap.size g n b0 0 base zs _ hn (by omega) hb (heap_alloc_new _ _) ⟨cu, by rw [Below.heap_alloc _ _ _ hgl]; exact hcu, hsz⟩ (fun t ht => by rw [World.cell?_alloc_past _ _ _ hgl]; exact h2 t ht)

set_option maxHeartbeats 1000000 in
set_option maxRecDepth 100000 in
theorem walk_near (ao : Option Addr) (n cap : Nat) (zs : List Int) (b0 base : Int) (w : World) (hn : n ≤ 1024) (ha : Arg .u16 w ao n zs) (hb : (b0 == -1) = false) :
    Calls Yba.prog 6 #[.slice ao n cap, .int .i32 b0, .int .i32 base] w fun e w' => e = .returned (.bool true) ∧ Below w.heap.size w w' := by
  obtain ⟨i0, hi, z0, s0, y0⟩ := info_parts info28
  have hd1 : decide ((1024 : Int) < (n : Int)) = false := decide_eq_false (by omega)
  have hw16 := wrap_u16
  go_enter Yba.func6, Yba.ntmps6
  have HPOS : ∀ w1 : World, Below w.heap.size w w1 → 0 < ((List.range n).map fun j => Value.int .u16 (zs.getD j 0)).length → (some (⟨w.heap.size, 0, none⟩ : Addr)) = some ⟨w.heap.size, 0, none⟩ ∧ ∃ ad, ao = some ad ∧ ∀ j v, ((List.range n).map fun j => Value.int .u16 (zs.getD j 0))[j]? = some v → w1.cell? (ad.add j) = some v := by
    intro w1 hB1 h
    obtain ⟨b, off, hab, hbl, hcl⟩ := ha (by simpa using h)
    refine ⟨rfl, _, hab, fun j v hj => ?_⟩
    have hjl : j < n := by have := (List.getElem?_eq_some_iff.1 hj).1; simpa using this
    rw [Addr.add_lit, hB1.cell (by exact hbl), hcl j hjl]
    simp [hjl] at hj
    simp [hj]
  have HPOS' := show Hid _ from HPOS
  clear HPOS
  go_wp2_with (first
    | (at_make; refine wpList_make_full _ rfl _ _ 31 rfl w.heap.size 28 i0 (.int .u16 0) 1 Yba.underlying31 hi z0 s0 _ _ _ _ n rfl rfl rfl rfl (by rw [y0]; omega) (by unfold maxLen; omega) (Nat.le_refl _) ?_; intro w1 hown hgr; have hB1 : Below w.heap.size w w1 := (Below.refl _ _).grown hgr (Nat.le_refl _) (fun k hk => by cases hk); obtain ⟨hg1, hx1⟩ := own_full hown; generalize (madeCells (Value.int .u16 0).cells (n * 1)).toList = cur at *; clear hown hgr)
    | (refine wpList_copy_splice rfl (.tmp 20) (.tmp 21) 31 31 rfl 28 Yba.underlying31 (by rw [hi]; simp [s0]) (some ⟨w.heap.size, 0, none⟩) ao n n n cap rfl rfl w.heap.size 0 cur 28 hg1 ((List.range n).map fun j => Value.int .u16 (zs.getD j 0)) (by simp) (HPOS'.out w1 hB1) (by simp [hx1]) (by intro v hv; obtain ⟨_, _, rfl⟩ := List.mem_map.1 hv; rfl) w.heap.size w hB1 (Nat.le_refl _) ?_; intro w2 HG2 hB2)
    | (go_at_call 11; refine (near_boxed hn hb HG2.out hx1).mono ?_; rintro e w3 ⟨rfl, hH, hcell, hO⟩; have c0 := hH.c0; have c1 := hH.c1))
  have hszr : w.heap.size ≤ w2.heap.size := hB2.size
  have hB3 : Below w.heap.size w w3 := (hB2.alloc hszr _).trans (hO.below hszr (Nat.le_refl _))
  clear hO hB2 hB1 hg1 HG2
  go_loop [48] (fun i => ∃ t : Nat, t ≤ n ∧ i = .int .i64 t) (fun i => n - (intOf i).toNat)
  case atStart => exact ⟨0, by omega, rfl⟩
  case round =>
    obtain ⟨t, ht, rfl⟩ := hrel
    by_cases hlt2 : t < n
    · obtain ⟨b, off, hab, hbl, hcl⟩ := ha (by omega)
      subst hab
      have cr : w3.cell? ⟨b, off + t, none⟩ = some (.int .u16 (zs.getD t 0)) := by rw [hB3.cell (by exact hbl)]; exact hcl t hlt2
      have ct := hcell t hlt2
      clear hcl hcell HPOS'
      go_wp2
      go_round
      case rel => exact ⟨t + 1, by omega, by go_num⟩
      case measure => simp [intOf]; omega
    · obtain rfl : t = n := by omega
      go_wp2
      go_ret
      exact ⟨rfl, hB3⟩

set_option maxHeartbeats 400000 in
theorem walk_near_long (ao : Option Addr) (n cap : Nat) (b0 base : Int) (w : World) (hn : 1024 < n) :
    Calls Yba.prog 6 #[.slice ao n cap, .int .i32 b0, .int .i32 base] w fun e w' => e = .returned (.bool true) ∧ Below w.heap.size w w' := by
  have hz : (1024 : Int) < (n : Int) := by omega
  go_enter Yba.func6, Yba.ntmps6
  go_wp2
  go_ret
  exact ⟨rfl, Below.refl _ _⟩

set_option maxHeartbeats 400000 in
theorem walk_near_wide (ao : Option Addr) (n cap : Nat) (base : Int) (w : World) (hn : n ≤ 1024) :
    Calls Yba.prog 6 #[.slice ao n cap, .int .i32 (-1), .int .i32 base] w fun e w' => e = .returned (.bool true) ∧ Below w.heap.size w w' := by
  have hd1 : decide ((1024 : Int) < (n : Int)) = false := decide_eq_false (by omega)
  go_enter Yba.func6, Yba.ntmps6
  go_wp2
  go_ret
  exact ⟨rfl, Below.refl _ _⟩
end Go.Proofs.Ybulkxdk.Nar
