import Derived.Test.YbulkxdkRows
import Derived.WalkKit
import Derived.WalkSpells
import Derived.WalkLawsBesides
import Derived.Deep.QuietTactic
import Derived.BigQuiet
namespace Go.Proofs.Ybulkxdk.Nar
open Go.RowKit

/-- two halves joined -/
theorem join_or (hi lo : Int) (h0 : 0 ≤ hi) (h1 : hi ≤ 65535) (h2 : 0 ≤ lo) (h3 : lo ≤ 65535) : bits .or .i32 (wrap32 (hi * 65536)) lo = wrap32 (hi * 65536 + lo) := by
  have ea : (BitVec.ofInt 32 (wrap32 (hi * 65536))).toNat = (hi * 65536).toNat := by
    rw [BitVec.toNat_ofInt]
    unfold wrap32
    congr 1
    omega
  have eb : (BitVec.ofInt 32 lo).toNat = lo.toNat := by
    rw [BitVec.toNat_ofInt]
    congr 1
    omega
  show IntKind.i32.wrap ((BitVec.ofInt 32 (wrap32 (hi * 65536)) ||| BitVec.ofInt 32 lo).toNat : Int) = _
  rw [BitVec.toNat_or, ea, eb]
  have e1 : (hi * 65536).toNat = 2 ^ 16 * hi.toNat := by omega
  rw [e1, ← Nat.two_pow_add_eq_or_of_lt (i := 16) (by omega : lo.toNat < 2 ^ 16) hi.toNat, IntKind.wrap_i32]
  unfold wrap32
  congr 2
  omega

/-- a number told by its halves -/
theorem halves (q : Int) (h0 : -2147483648 ≤ q) (h1 : q ≤ 2147483647) : wrap32 ((q / 65536) % 65536 * 65536 + q % 65536) = q := by
  unfold wrap32
  omega

set_option maxHeartbeats 400000 in
set_option maxRecDepth 100000 in
theorem at_wide (bl g N cap i : Nat) (hi lo : Int) (w : World) (h0 : 0 ≤ hi) (h1 : hi ≤ 65535) (h2 : 0 ≤ lo) (h3 : lo ≤ 65535) (hN : N ≤ 4096) (hlt : i + 1 < N)
    (c0 : w.cell? ⟨bl, 0, none⟩ = some (.slice (some ⟨g, 0, none⟩) N cap)) (c1 : w.cell? ⟨bl, 1, none⟩ = some (.int .i32 (-1)))
    (d0 : w.cell? ⟨g, i, none⟩ = some (.int .u16 hi)) (d1 : w.cell? ⟨g, i + 1, none⟩ = some (.int .u16 lo)) :
    Calls Yba.prog 13 #[.pointer (some ⟨bl, 0, none⟩), .int .i64 i] w fun e w' => e = .returned (.tuple #[.int .i32 (wrap32 (hi * 65536 + lo)), .int .i64 ((i : Int) + 2)]) ∧ ∃ q, w' = w.drewN q := by
  have z1 : (i : Int) < (N : Int) := by omega
  have z2 : (i : Int) + 1 < (N : Int) := by omega
  rw [← join_or hi lo h0 h1 h2 h3]
  go_enter Yba.func13, Yba.ntmps13
  go_wp2
  go_quiet (fail)
  go_wp2
  go_ret2
  exact ⟨rfl, _, rfl⟩

theorem wrap_i16 (n : Int) : IntKind.i16.wrap n = (n + 32768) % 65536 - 32768 := by
  simp [IntKind.wrap, IntKind.bits, IntKind.signed]
  split <;> omega

set_option maxHeartbeats 400000 in
set_option maxRecDepth 100000 in
theorem at_near (bl g N cap i : Nat) (base x : Int) (w : World) (hb : (base == -1) = false) (hN : N ≤ 4096) (hlt : i < N)
    (c0 : w.cell? ⟨bl, 0, none⟩ = some (.slice (some ⟨g, 0, none⟩) N cap)) (c1 : w.cell? ⟨bl, 1, none⟩ = some (.int .i32 base))
    (d0 : w.cell? ⟨g, i, none⟩ = some (.int .u16 x)) :
    Calls Yba.prog 13 #[.pointer (some ⟨bl, 0, none⟩), .int .i64 i] w fun e w' => e = .returned (.tuple #[.int .i32 (wrap32 (base + wrap32 (IntKind.i16.wrap x))), .int .i64 ((i : Int) + 1)]) ∧ ∃ q, w' = w.drewN q := by
  have z1 : (i : Int) < (N : Int) := by omega
  go_enter Yba.func13, Yba.ntmps13
  go_wp2
  go_quiet (fail)
  go_wp2
  go_ret2
  exact ⟨rfl, _, rfl⟩

/-- at most the blocks bl and g have turned -/
structure Only (bl g : Nat) (w w' : World) : Prop where
  os : w'.os = w.os
  tape : w'.tape = w.tape
  output : w'.output = w.output
  size : w'.heap.size = w.heap.size
  block : ∀ k, k ≠ bl → k ≠ g → w'.heap[k]? = w.heap[k]?

theorem Only.refl (bl g : Nat) (w : World) : Only bl g w w := ⟨rfl, rfl, rfl, rfl, fun _ _ _ => rfl⟩
theorem Only.drewN {bl g : Nat} {a w : World} (h : Only bl g a w) (q : Nat) : Only bl g a (w.drewN q) := ⟨h.os, h.tape, h.output, h.size, h.block⟩
theorem Only.set {bl g : Nat} {a w : World} (h : Only bl g a w) {p : Addr} (hp : p.block = bl ∨ p.block = g) (u : Value) : Only bl g a (w.setCell p u) :=
  ⟨h.os, h.tape, h.output, by simp [World.setCell, h.size], fun k h1 h2 => (Below.heap_setCell _ _ _ _ (by rcases hp with e | e <;> omega)).trans (h.block k h1 h2)⟩
theorem Only.below {bl g B : Nat} {w w' : World} (h : Only bl g w w') (h1 : B ≤ bl) (h2 : B ≤ g) : Below B w w' :=
  ⟨h.os, h.tape, h.output, Nat.le_of_eq h.size.symm, fun k hk => h.block k (by omega) (by omega)⟩

/-- the list's head: its slots, its base, its third field -/
def Head (w : World) (bl g N cap : Nat) (base tid : Int) : Prop := w.heap[bl]? = some (.cells #[.slice (some ⟨g, 0, none⟩) N cap, .int .i32 base, .int .i32 tid] 35 (0, 0))

theorem Head.c0 {w : World} {bl g N cap : Nat} {base tid : Int} (h : Head w bl g N cap base tid) : w.cell? ⟨bl, 0, none⟩ = some (.slice (some ⟨g, 0, none⟩) N cap) := by
  rw [cell_of_row w bl 0 _ 35 (0, 0) h]; rfl
theorem Head.c1 {w : World} {bl g N cap : Nat} {base tid : Int} (h : Head w bl g N cap base tid) : w.cell? ⟨bl, 1, none⟩ = some (.int .i32 base) := by
  rw [cell_of_row w bl 1 _ 35 (0, 0) h]; rfl
theorem Head.c2 {w : World} {bl g N cap : Nat} {base tid : Int} (h : Head w bl g N cap base tid) : w.cell? ⟨bl, 2, none⟩ = some (.int .i32 tid) := by
  rw [cell_of_row w bl 2 _ 35 (0, 0) h]; rfl
theorem Head.f {w : World} {bl g N cap : Nat} {base tid : Int} (h : Head w bl g N cap base tid) (o : Nat) : w.frozen? ⟨bl, o, none⟩ = false := frozen_of_row w bl o _ 35 h
theorem Head.turned {w : World} {bl g N cap : Nat} {base tid : Int} (h : Head w bl g N cap base tid) (M : Nat) (b : Int) :
    Head ((w.setCell ⟨bl, 0, none⟩ (.slice (some ⟨g, 0, none⟩) M cap)).setCell ⟨bl, 1, none⟩ (.int .i32 b)) bl g M cap b tid := by
  have h1 := heap_setCell_same w bl 0 _ 35 (.slice (some ⟨g, 0, none⟩) M cap) h
  have h2 := heap_setCell_same _ bl 1 _ 35 (.int .i32 b) h1
  exact h2

/-- the row of slots: what lies in its first 'cap' cells -/
def Row (w : World) (g cap : Nat) : Prop := ∃ cur : Array Value, w.heap[g]? = some (.cells cur 28 (0, 0)) ∧ cur.size = cap
theorem Row.cell {w : World} {g cap : Nat} (h : Row w g cap) {i : Nat} (hi : i < cap) : ∃ v, w.cell? ⟨g, i, none⟩ = some v := by
  obtain ⟨cur, hg, hs⟩ := h
  exact ⟨cur[i]'(by omega), by rw [cell_of_row w g i cur 28 (0, 0) hg]; simp [show i < cur.size by omega]⟩
theorem Row.free {w : World} {g cap : Nat} (h : Row w g cap) (i : Nat) : w.frozen? ⟨g, i, none⟩ = false := by
  obtain ⟨cur, hg, hs⟩ := h
  exact frozen_of_row w g i cur 28 hg
theorem Row.set {w : World} {g cap : Nat} (h : Row w g cap) (i : Nat) (v : Value) : Row (w.setCell ⟨g, i, none⟩ v) g cap := by
  obtain ⟨cur, hg, hs⟩ := h
  exact ⟨_, heap_setCell_same w g i cur 28 v hg, by simpa using hs⟩
theorem Row.set_at {w : World} {g cap : Nat} (h : Row w g cap) {i : Nat} (hi : i < cap) (v : Value) : (w.setCell ⟨g, i, none⟩ v).cell? ⟨g, i, none⟩ = some v := by
  obtain ⟨cur, hg, hs⟩ := h
  rw [cell_of_row _ g i _ 28 (0, 0) (heap_setCell_same w g i cur 28 v hg)]
  simp [show i < cur.size by omega]
theorem Row.set_ne {w : World} {g cap : Nat} (h : Row w g cap) {i j : Nat} (hij : j ≠ i) (v : Value) : (w.setCell ⟨g, i, none⟩ v).cell? ⟨g, j, none⟩ = w.cell? ⟨g, j, none⟩ := by
  obtain ⟨cur, hg, hs⟩ := h
  rw [cell_of_row _ g j _ 28 (0, 0) (heap_setCell_same w g i cur 28 v hg), cell_of_row w g j cur 28 (0, 0) hg]
  simp [Ne.symm hij]

/-- the state of narrow's loop behind j rounds -/
structure NarAt (w : World) (bl g N cap s : Nat) (ob tid base : Int) (q : Nat → Int) (j : Nat) (wr : World) : Prop where
  head : Head wr bl g N cap ob tid
  row : Row wr g cap
  done : ∀ t, t < j → wr.cell? ⟨g, t, none⟩ = some (.int .u16 (wrap32 (q t - base) % 65536))
  left : ∀ t, s * j ≤ t → t < N → wr.cell? ⟨g, t, none⟩ = w.cell? ⟨g, t, none⟩
  only : Only bl g w wr

theorem NarAt.step {w wr : World} {bl g N cap s j : Nat} {ob tid base : Int} {q : Nat → Int} (h : NarAt w bl g N cap s ob tid base q j wr) (hbg : bl ≠ g) (hj : j < cap) (hs : 0 < s) (n : Nat) :
    NarAt w bl g N cap s ob tid base q (j + 1) ((wr.setCell ⟨g, j, none⟩ (.int .u16 (wrap32 (q j - base) % 65536))).drewN n) := by
  refine ⟨?_, h.row.set _ _, fun t ht => ?_, fun t h1 h2 => ?_, (h.only.set (.inr rfl) _).drewN n⟩
  · show (wr.setCell _ _).heap[bl]? = _
    rw [Below.heap_setCell _ _ _ _ (by exact hbg)]; exact h.head
  · show (wr.setCell _ _).cell? _ = _
    by_cases e : t = j
    · subst e; exact h.row.set_at hj _
    · rw [h.row.set_ne e]; exact h.done t (by omega)
  · show (wr.setCell _ _).cell? _ = _
    have h3 : s * j + s ≤ t := by rw [← Nat.mul_succ]; exact h1
    have h4 : j ≤ s * j := Nat.le_mul_of_pos_left j hs
    rw [h.row.set_ne (by omega)]; exact h.left t (by omega) h2

set_option maxHeartbeats 1000000 in
set_option maxRecDepth 100000 in
theorem narrow_any (bl g M N cap s : Nat) (ob tid base : Int) (q : Nat → Int) (w : World) (hs : 0 < s) (hs2 : s ≤ 2) (hM : M ≤ 1024) (hN : N = s * M) (hcap : N ≤ cap) (hbg : bl ≠ g)
    (hH : Head w bl g N cap ob tid) (hR : Row w g cap)
    (hat : ∀ (j p : Nat) (wr : World), j < M → p = s * j → NarAt w bl g N cap s ob tid base q j wr → Calls Yba.prog 13 #[.pointer (some ⟨bl, 0, none⟩), .int .i64 p] wr fun e w' => e = .returned (.tuple #[.int .i32 (q j), .int .i64 ((p : Int) + s)]) ∧ ∃ n, w' = wr.drewN n) :
    Calls Yba.prog 11 #[.pointer (some ⟨bl, 0, none⟩), .int .i32 base] w fun e w' =>
      e = .returned (.tuple #[]) ∧ Head w' bl g M cap base tid ∧ (∀ t, t < M → w'.cell? ⟨g, t, none⟩ = some (.int .u16 (wrap32 (q t - base) % 65536))) ∧ Only bl g w w' := by
  have hsM : N ≤ 2048 := by
    have := Nat.mul_le_mul hs2 hM; omega
  have HN : Hid (N = s * M) := hN
  clear hN
  go_enter Yba.func11, Yba.ntmps11
  go_wp2
  go_loopw [4, 5] (fun vn vi wr => ∃ j p : Nat, j ≤ M ∧ Hid (p = s * j) ∧ vn = .int .i64 j ∧ vi = .int .i64 p ∧ NarAt w bl g N cap s ob tid base q j wr) (fun vn _ _ => M - (intOf vn).toNat)
  case atStart => exact ⟨0, 0, by omega, rfl, rfl, rfl, hH, hR, fun t ht => by omega, fun t _ _ => rfl, Only.refl _ _ _⟩
  case round =>
    obtain ⟨j, p, hj, HP, rfl, rfl, hA⟩ := hrel
    have c0 := hA.head.c0
    by_cases hlt : j < M
    · have hps : p + s ≤ N := by rw [HP.out, HN.out, ← Nat.mul_succ]; exact Nat.mul_le_mul_left s hlt
      have hjp : j ≤ p := by rw [HP.out]; exact Nat.le_mul_of_pos_left j hs
      have z1 : (j : Int) < (N : Int) := by omega
      obtain ⟨v, cj⟩ := hA.row.cell (i := j) (by omega)
      have fj := hA.row.free j
      have hS := fun n => hA.step hbg (by omega) hs n
      have hc := hat j p wr hlt HP.out hA
      have HC := show Hid _ from hc
      have HS := show Hid _ from hS
      clear hc hS hat
      go_wp2_with (go_at_call 13; refine Calls.mono (Hid.out HC) ?_; rintro e w' ⟨rfl, n, rfl⟩)
      go_roundw
      case rel => exact ⟨j + 1, p + s, by omega, by show _ = _; rw [HP.out]; rfl, by go_num, by go_num, HS.out n⟩
      case measure => simp [intOf]; omega
    · have hpN : p = N := by
        have : j = M := by omega
        rw [HP.out, HN.out, this]
      subst hpN
      obtain rfl : j = M := by omega
      have c1 := hA.head.c1
      have hjp : j ≤ p := by rw [HP.out]; exact Nat.le_mul_of_pos_left j hs
      have z3 : (j : Int) ≤ (cap : Int) := by omega
      have f0 := hA.head.f 0
      have f1 := hA.head.f 1
      go_wp2
      go_end0
      refine ⟨rfl, hA.head.turned j base, fun t ht => ?_, (hA.only.set (.inl rfl) _).set (.inl rfl) _⟩
      rw [World.cell?_of_block (w := wr) (by rw [Below.heap_setCell _ _ _ _ (by exact hbg.symm), Below.heap_setCell _ _ _ _ (by exact hbg.symm)])]
      exact hA.done t ht
end Go.Proofs.Ybulkxdk.Nar
