import Derived.Test.YbulkxgcDoorRead
import Derived.Lib.BitFns
namespace Go.Proofs.YbulkxgcDoor.Dc
open Go.RowKit
open _root_.Go.Proofs.YbulkxgcDoor.Bt

theorem tab7 : ∀ n : Fin 128, 64 ≤ n.val → Lib.len8 (n.val : Int) = 7 := by decide +kernel
theorem tab6 : ∀ n : Fin 64, 32 ≤ n.val → Lib.len8 (n.val : Int) = 6 := by decide +kernel
theorem tab_size : Lib.len8tab.size = 256 := by decide +kernel
theorem len8_get (u : Nat) (h : u < Lib.len8tab.size) : ((Lib.len8tab[u]'h).toNat : Int) = Lib.len8 (u : Int) := by
  unfold Lib.len8
  rw [Int.toNat_natCast, getElem?_pos Lib.len8tab u h]
  rfl

set_option maxHeartbeats 1000000 in
set_option maxRecDepth 100000 in
theorem len63 (x : Int) (u : Nat) (w : World) (h1 : 4294967296 ≤ x) (h2 : 65536 ≤ x / 4294967296) (h3 : 256 ≤ x / 4294967296 / 65536) (h4 : x / 4294967296 / 65536 / 256 = (u : Int)) (h5 : 64 ≤ u) (h6 : u < 128) :
    Calls Ybad.prog 26 #[.int .u64 x] w fun e w' => e = .returned (.int .i64 63) ∧ w' = w := by
  have hsz : u < Lib.len8tab.size := by rw [tab_size]; omega
  have ht : (Lib.len8tab[u]'hsz).toNat = 7 := by
    have e := len8_get u hsz
    rw [tab7 ⟨u, h6⟩ h5] at e
    omega
  go_enter Ybad.func26, Ybad.ntmps26
  go_wp2
  go_ret
  exact ⟨rfl, rfl⟩

set_option maxHeartbeats 1000000 in
set_option maxRecDepth 100000 in
theorem len62 (x : Int) (u : Nat) (w : World) (h1 : 4294967296 ≤ x) (h2 : 65536 ≤ x / 4294967296) (h3 : 256 ≤ x / 4294967296 / 65536) (h4 : x / 4294967296 / 65536 / 256 = (u : Int)) (h5 : 32 ≤ u) (h6 : u < 64) :
    Calls Ybad.prog 26 #[.int .u64 x] w fun e w' => e = .returned (.int .i64 62) ∧ w' = w := by
  have hsz : u < Lib.len8tab.size := by rw [tab_size]; omega
  have ht : (Lib.len8tab[u]'hsz).toNat = 6 := by
    have e := len8_get u hsz
    rw [tab6 ⟨u, h6⟩ h5] at e
    omega
  go_enter Ybad.func26, Ybad.ntmps26
  go_wp2
  go_ret
  exact ⟨rfl, rfl⟩

set_option maxHeartbeats 1000000 in
theorem lz_of (y n : Int) (w : World) (hc : Calls Ybad.prog 26 #[.int .u64 y] w fun e w' => e = .returned (.int .i64 n) ∧ w' = w) (h0 : 0 ≤ n) (h1 : n ≤ 64) :
    Calls Ybad.prog 18 #[.int .u64 y] w fun e w' => e = .returned (.int .i64 (64 - n)) ∧ w' = w := by
  have HC := show Hid _ from hc
  clear hc
  go_enter Ybad.func18, Ybad.ntmps18
  go_wp2_with (go_at_call 26; refine Calls.mono (Hid.out HC) ?_; rintro e w' ⟨rfl, rfl⟩)
  go_ret
  exact ⟨rfl, rfl⟩

/-- a look that begins 10: one leading 1 -/
theorem lz_one (X : Nat) (w : World) (hlt : X < 18446744073709551616) (h63 : X.testBit 63 = true) (h62 : X.testBit 62 = false) :
    Calls Ybad.prog 18 #[.int .u64 (18446744073709551615 - (X : Int))] w fun e w' => e = .returned (.int .i64 1) ∧ w' = w := by
  rw [Nat.testBit_eq_decide_div_mod_eq] at h63 h62
  simp at h63 h62
  obtain ⟨y, hy⟩ : ∃ y : Int, y = 18446744073709551615 - (X : Int) := ⟨_, rfl⟩
  rw [← hy]
  obtain ⟨u, hu⟩ : ∃ u : Nat, y / 4294967296 / 65536 / 256 = (u : Int) := ⟨(y / 4294967296 / 65536 / 256).toNat, by omega⟩
  exact lz_of y 63 w (len63 y u w (by omega) (by omega) (by omega) hu (by omega) (by omega)) (by omega) (by omega)

/-- a look that begins 110: two -/
theorem lz_two (X : Nat) (w : World) (hlt : X < 18446744073709551616) (h63 : X.testBit 63 = true) (h62 : X.testBit 62 = true) (h61 : X.testBit 61 = false) :
    Calls Ybad.prog 18 #[.int .u64 (18446744073709551615 - (X : Int))] w fun e w' => e = .returned (.int .i64 2) ∧ w' = w := by
  rw [Nat.testBit_eq_decide_div_mod_eq] at h63 h62 h61
  simp at h63 h62 h61
  obtain ⟨y, hy⟩ : ∃ y : Int, y = 18446744073709551615 - (X : Int) := ⟨_, rfl⟩
  rw [← hy]
  obtain ⟨u, hu⟩ : ∃ u : Nat, y / 4294967296 / 65536 / 256 = (u : Int) := ⟨(y / 4294967296 / 65536 / 256).toNat, by omega⟩
  exact lz_of y 62 w (len62 y u w (by omega) (by omega) (by omega) hu (by omega) (by omega)) (by omega) (by omega)
end Go.Proofs.YbulkxgcDoor.Dc
