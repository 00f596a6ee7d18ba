import Derived.Test.YbulkxdkMean
import Derived.ProofKit
import Derived.OpenShut
import Derived.ShutString
import Derived.ChangeOld
import Derived.Below
namespace Go.Proofs.Ybulkxdk.lawS1167AConstant
open Go.ChangeShapes Go.WideShapes Go.ChangeAt Go.RowKit
open Go.ChangeMaps (open_string shut_string)
open _root_.Go.Proofs.Ybulkxdk.Flt
open _root_.Go.Proofs.Ybulkxdk.Mean

theorem own : ownKnob Yba.prog.godebug = none := by kernel_rfl
theorem info23 : (Yba.prog.info? 23).map (fun i => (i.zero, i.size, i.bytes)) = some (some (.float .f64 0), 1, 8) := by kernel_rfl

/-- one store more of the same value -/
theorem row_step {B e g n k : Nat} {w w0 : World} {xs : List Value} {v : Value} (hown : w.ownsRow B e 1 (.slice (some ⟨g, 0, none⟩) n n) n xs) (hk : k < n) (hB : B ≤ g)
    (hx : ∀ j, j < k → xs[j]? = some v) (hb : Below B w0 w) :
    (∃ ys, (w.setCell ⟨g, k, none⟩ v).ownsRow B e 1 (.slice (some ⟨g, 0, none⟩) n n) n ys ∧ ∀ j, j < k + 1 → ys[j]? = some v) ∧ Below B w0 (w.setCell ⟨g, k, none⟩ v) := by
  refine ⟨⟨xs.set k v, (hown.stored k _).1, fun j hj => ?_⟩, hb.setCell (by exact hB) _⟩
  have hl : xs.length = n := by simpa using hown.1
  by_cases e : j = k
  · subst e; simp [show j < xs.length by omega]
  · rw [List.getElem?_set_ne (by omega)]; exact hx j (by omega)

set_option maxHeartbeats 1000000 in
set_option maxRecDepth 100000 in
theorem walk (a0 : Int) (a1 : Int) (hc : a0.natAbs ≤ 2147483648) (h1 : 0 ≤ a1) (h2 : a1 ≤ 65535) (w : World) :
    Calls Yba.prog 4 #[.int .i32 a0, .int .u16 a1] w fun e w' => e = .returned (.bool true) ∧ Below w.heap.size w w' := by
  obtain ⟨i0, hi, z0, s0, y0⟩ := info_parts info23
  obtain ⟨k, hk⟩ : ∃ k : Nat, a1 % 4096 + 1 = (k : Int) := ⟨(a1 % 4096 + 1).toNat, by omega⟩
  have hk1 : 0 < k := by omega
  have hk2 : k ≤ 4096 := by omega
  have heq : FloatKind.f64.format.order (F a0) (floatOfInt .f64 a0) = some .eq := order_F a0 (by omega)
  have hsf : ∀ (a : Addr) (m : Mode) (w : World) (k : FloatKind) (b : Nat), (store a (.float k b) m).run Yba.prog w = stored Yba.prog w a (.float k b) m := fun a m w k b => run_store Yba.prog w a (.float k b) m rfl
  go_enter Yba.func4, Yba.ntmps4
  go_wp2_with (at_make; refine wpList_make_full _ rfl _ _ 22 rfl w.heap.size 23 i0 (.float .f64 0) 1 Yba.underlying22 hi z0 s0 _ _ _ _ k rfl rfl rfl rfl (by rw [y0]; omega) (by unfold maxLen; omega) (Nat.le_refl _) ?_; intro w1 hown hgr)
  have hB1 : Below w.heap.size w w1 := (Below.refl _ _).grown hgr (Nat.le_refl _) (fun k hk => by cases hk)
  generalize (madeCells (Value.float .f64 0).cells (k * 1)).toList = cur at *
  have HK : Hid (a1 % 4096 + 1 = (k : Int)) := hk
  clear hk hgr
  go_loopw [7] (fun i wr => ∃ j : Nat, j ≤ k ∧ i = .int .i64 j ∧ (∃ xs, wr.ownsRow w.heap.size 23 1 (.slice (some ⟨w.heap.size, 0, none⟩) k k) k xs ∧ ∀ t, t < j → xs[t]? = some (.float .f64 (F a0))) ∧ Below w.heap.size w wr)
    (fun i _ => k - (intOf i).toNat)
  case atStart => exact ⟨0, by omega, rfl, ⟨cur, hown, fun j hj => by omega⟩, hB1⟩
  case round =>
    obtain ⟨j, hj, rfl, ⟨xs, hox, hxs⟩, hBr⟩ := hrel
    by_cases hlt : j < k
    · have hlx : xs.length = k := by simpa using hox.1
      have cst : wr.cell? ⟨w.heap.size, j, none⟩ = some xs[j] := by rw [hox.cellAt j (by omega)]; simp [show j < xs.length by omega]
      have fst := hox.frozenAt j
      have S := row_step hox hlt (Nat.le_refl _) hxs hBr
      have HS := show Hid _ from S
      clear S hxs hB1 hown hBr hox
      go_wp2
      go_roundw
      case rel => exact ⟨j + 1, by omega, by go_num, HS.out.1, HS.out.2⟩
      case measure => simp [intOf]; omega
    · obtain rfl : j = k := by omega
      have hcell : ∀ t, t < j → wr.cell? ⟨w.heap.size, t, none⟩ = some (.float .f64 (F a0)) := fun t ht => by rw [hox.cellAt t (by omega)]; exact hxs t ht
      clear hxs hox hown hB1
      go_wp2_with (go_at_call 8; refine (mean_const _ _ _ _ hk1 hk2 hc hcell).mono ?_; rintro e w' ⟨rfl, rfl⟩)
      go_ret
      exact ⟨rfl, hBr⟩

set_option maxRecDepth 100000 in
theorem lifted (os : Os) (started : os.Started) (H : Type) (enc : TypeId × Value → H) :
    ReturnsInHanded {} Yba.checked os 4 .any (Rows.lawS1167AConstantSpec.pre6 enc Yba.prog Yba.f4 Rows.lawS1167AConstantRow.domain false) (Rows.lawS1167AConstantSpec.post enc Yba.prog Yba.f4 false true false false) := by
  refine returnsInHanded_of_change (C := Yba.checked) own started (by kernel_rfl) Yba.func4
    (ChangeSpec.witness6 (enc := enc) (C := Yba.checked) false ⟨#[], #[.int .i32 0, .int .u16 0], []⟩ 8 (by kernel_rfl) (by kernel_rfl) (by kernel_rfl) (by kernel_rfl)) ?_
  intro W base args ds gs before hval0 hW hcnd _
  have hval : ∀ (j : Nat) t v, Yba.f4.params[j]? = some t → args[j]? = some v → Value.okWide Yba.prog W .any base t v := hval0
  have hW' := hW
  obtain ⟨p, q, hA0, hV, rfl, hfz, hnd⟩ := hW
  have hA : DataW.TrodAll enc Yba.prog W 0 (fun _ => true) true Yba.f4.params.toList args.toList ds p := hA0
  rw [Yba.params4] at hA hval
  obtain ⟨v0, vs0, d0, ds0, p0, q0, hargs, rfl, rfl, h0, r0⟩ := trodAll_cons hA
  obtain ⟨v1, vs1, d1, ds1, p1, q1, rfl, rfl, rfl, h1, r1⟩ := trodAll_cons r0
  obtain ⟨rfl, rfl, rfl⟩ := trodAll_nil r1
  obtain rfl : args = #[v0, v1] := by cases args; simp_all
  obtain ⟨rfl, rfl⟩ := trodVars_none hV
  obtain ⟨a0, rfl, rfl, rfl, w0⟩ := open_int Yba.underlying21 (hval 0 21 v0 rfl rfl) h0
  obtain ⟨a1, rfl, rfl, rfl, w1⟩ := open_int Yba.underlying28 (hval 1 28 v1 rfl rfl) h1
  clear hA0 hval0
  have b0 := bounds_i32 w0
  have b1 := bounds_u16 w1
  refine (walk a0 a1 (by omega) b1.1 b1.2 W).mono fun e W' ⟨he, bel⟩ => ?_
  subst he
  exact ⟨_, rfl, _, _, _, [], _, [], hW', trodAll_mk1 (shut_bool Yba.underlying4 _), (trodAll_cons_mk (shut_int Yba.underlying21 w0) (trodAll_cons_mk (shut_int Yba.underlying28 w1) trodAll_mk0)), rfl, bel.frame _, fun h => by cases h⟩

theorem over : Rows.lawS1167AConstantRow.holds Yba.pinned (OpenSpec.ofChange Rows.lawS1167AConstantSpec) :=
  OpenClaim.holds_of_wide 4 Yba.f4 rfl rfl rfl rfl rfl rfl rfl ⟨rfl, rfl, rfl, rfl, rfl⟩ rfl rfl rfl rfl rfl (by kernel_rfl) Yba.func4 (by kernel_rfl)
    (of_decide_eq_true (by kernel_rfl)) (by unfold Func.isWrapper; first | (rw [if_pos (by decide +kernel)]; kernel_rfl) | (rw [if_neg (by decide +kernel)]; exact ⟨rfl, rfl⟩))
    (fun os started H enc _ => lifted os started H enc)

/-- ████ THE STATEMENT ████ -/
theorem proved : Rows.LawS1167AConstantSaid :=
  over
#print axioms proved
end Go.Proofs.Ybulkxdk.lawS1167AConstant
