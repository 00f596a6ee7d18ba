import Derived.Test.YbulkxgcDoorFull
import Derived.Test.YbulkxgcDoorFloat
import Derived.BigQuiet
namespace Go.Proofs.YbulkxgcDoor.Dc
open Go.RowKit
open _root_.Go.Proofs.YbulkxgcDoor.Bt
open _root_.Go.Proofs.YbulkxgcDoor.Flt

theorem one_F : F 1 = 4607182418800017408 := by
  rw [F_eq 1 (by decide) (by decide)]; rfl

/-- the three listed variables as they read -/
structure Gl (bc : Nat) (w : World) (g1 o1 g2 o2 : Nat) : Prop where
  tw : Out bc w 1 0 (.slice (some ⟨g1, o1, none⟩) 5 5)
  tw1 : Out bc w g1 (o1 + 1) (.int .i64 7)
  vw : Out bc w 2 0 (.slice (some ⟨g2, o2, none⟩) 9 9)
  vw2 : Out bc w g2 (o2 + 2) (.int .i64 8)
  pw : Out bc w 3 0 (.float .f64 4607182418800017408)

theorem Gl.kp {bc : Nat} {w w' : World} {g1 o1 g2 o2 : Nat} (h : Gl bc w g1 o1 g2 o2) (hk : Kp bc w w') : Gl bc w' g1 o1 g2 o2 :=
  ⟨h.tw.kp hk, h.tw1.kp hk, h.vw.kp hk, h.vw2.kp hk, h.pw.kp hk⟩

set_option maxHeartbeats 1000000 in
set_option maxRecDepth 100000 in
theorem value_any (bc g nb cap : Nat) (bs : List Bool) (vr : Value) (kk : Int) (off left : Nat) (t step m dm : Int) (first : Bool) (cl : Nat) (w : World) (h : Ds w bc g nb cap bs vr kk off left t step m dm first cl)
    (hm : m.natAbs ≤ 2147483648) (g1 o1 g2 o2 : Nat) (hg : Gl bc w g1 o1 g2 o2) :
    Calls Ybad.prog 14 #[.pointer (some ⟨bc, 6, none⟩)] w fun e w' => e = .returned (.float .f64 (F m)) ∧ ∃ n, w' = w.drewN n := by
  have c0 := h.cur.cMode
  have c1 := h.cur.cM
  have c2 := hg.pw.2.2
  have hq : ∀ w, (binOp .quo 40 (.float .f64 (F m)) (.float .f64 4607182418800017408)).run Ybad.prog w = .ok (.float .f64 (F m)) w := fun w =>
    run_float_arith w .quo 40 .f64 _ _ _ (by have := div_F 1 m (by omega) (by omega) hm; rw [Int.natCast_one, Int.one_mul, one_F] at this; exact this)
  have hfo : floatOfInt .f64 m = F m := rfl
  go_enter Ybad.func14, Ybad.ntmps14
  go_wp2
  go_quiet (fail)
  go_wp2
  go_ret
  exact ⟨rfl, nq, rfl⟩
end Go.Proofs.YbulkxgcDoor.Dc
