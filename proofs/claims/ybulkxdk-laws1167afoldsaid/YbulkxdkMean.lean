import Derived.Test.YbulkxdkRows
import Derived.Test.YbulkxdkFloat
import Derived.WalkKit
import Derived.WalkSpells
import Derived.WalkLawsBesides
namespace Go.Proofs.Ybulkxdk.Mean
open Go.RowKit
open _root_.Go.Proofs.Ybulkxdk.Flt

theorem nat_abs_mul_le {j k : Nat} {c : Int} (hj : j ≤ k) (hk : k ≤ 4096) (hc : c.natAbs ≤ 2147483648) : ((j : Int) * c).natAbs ≤ 8796093022208 := by
  rw [Int.natAbs_mul]
  have := Nat.mul_le_mul (show (j : Int).natAbs ≤ 4096 by omega) hc
  omega

set_option maxHeartbeats 400000 in
set_option maxRecDepth 100000 in
theorem mean_const (g k : Nat) (c : Int) (w : World) (hk : 0 < k) (hk' : k ≤ 4096) (hc : c.natAbs ≤ 2147483648)
    (hcell : ∀ j, j < k → w.cell? ⟨g, j, none⟩ = some (.float .f64 (F c))) :
    Calls Yba.prog 8 #[.slice (some ⟨g, 0, none⟩) k k] w fun e w' => e = .returned (.float .f64 (F c)) ∧ w' = w := by
  have hq : ∀ w, (binOp .quo 23 (.float .f64 (F (k * c))) (.float .f64 (floatOfInt .f64 k))).run Yba.prog w = .ok (.float .f64 (F c)) w := fun w => run_float_arith w .quo 23 .f64 _ _ _ (div_F k c hk hk' hc)
  go_enter Yba.func8, Yba.ntmps8
  go_wp2
  go_loop [3, 8] (fun s i => ∃ j : Nat, j ≤ k ∧ i = .int .i64 j ∧ s = .float .f64 (F (j * c))) (fun _ i => k - (intOf i).toNat)
  case atStart => exact ⟨0, by omega, rfl, by rw [show ((0 : Nat) : Int) * c = 0 by simp, F_zero]⟩
  case round =>
    obtain ⟨j, hj, rfl, rfl⟩ := hrel
    by_cases hlt : j < k
    · have hcj := hcell j hlt
      have b1 := nat_abs_mul_le hj hk' hc
      have b2 := nat_abs_mul_le (j := j + 1) (by omega) hk' hc
      have e : ((j : Int) * c + c) = ((j + 1 : Nat) : Int) * c := by rw [Int.natCast_add, Int.add_mul]; simp
      have ha : ∀ w, (binOp .add 23 (.float .f64 (F (j * c))) (.float .f64 (F c))).run Yba.prog w = .ok (.float .f64 (F (((j + 1 : Nat) : Int) * c))) w := fun w =>
        run_float_arith w .add 23 .f64 _ _ _ (by rw [← e]; exact add_F _ _ (by omega) (by omega) (by rw [e]; omega))
      clear b1 b2 e hcell hq
      go_wp2
      go_round
      case rel => exact ⟨j + 1, by omega, by go_num, rfl⟩
      case measure => simp [intOf]; omega
    · obtain rfl : j = k := by omega
      go_wp2
      go_ret
      exact ⟨rfl, rfl⟩
end Go.Proofs.Ybulkxdk.Mean
