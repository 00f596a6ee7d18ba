import Derived.Test.YbulkxciMain
import Derived.ProofKit
import Derived.OpenShut
import Derived.ShutString
import Derived.ChangeOld
import Derived.Below
import Derived.Deep.Slices
namespace Go.Proofs.Ybulkxci.lawS1165CYields
open Go.ChangeShapes Go.WideShapes Go.ChangeAt Go.RowKit
open Go.ChangeMaps (open_string shut_string)
open _root_.Go.Proofs.Ybulkxci.Yields

theorem own : ownKnob Yba.prog.godebug = none := by kernel_rfl
theorem laidOut : laidOutB Yba.prog = true := by kernel_rfl

set_option maxHeartbeats 400000 in
set_option maxRecDepth 100000 in
theorem walk_long (ar : Option Addr) (n cr : Nat) (ai : Option Addr) (li ci : Nat) (b1 b2 b3 : Bool) (stp : Int) (w : World) (h : 1024 < n) :
    Calls Yba.prog 5 #[.slice ar n cr, .slice ai li ci, .bool b1, .bool b2, .bool b3, .int .u8 stp] w fun e w' => e = .returned (.bool true) ∧ Below w.heap.size w w' := by
  have hz : (1024 : Int) < (n : Int) := by omega
  go_enter Yba.func5, Yba.ntmps5
  go_wp2
  go_ret
  exact ⟨rfl, Below.refl _ _⟩

set_option maxHeartbeats 400000 in
set_option maxRecDepth 100000 in
theorem walk_long2 (ar : Option Addr) (n cr : Nat) (ai : Option Addr) (li ci : Nat) (b1 b2 b3 : Bool) (stp : Int) (w : World) (h0 : n ≤ 1024) (h : 1024 < li) :
    Calls Yba.prog 5 #[.slice ar n cr, .slice ai li ci, .bool b1, .bool b2, .bool b3, .int .u8 stp] w fun e w' => e = .returned (.bool true) ∧ Below w.heap.size w w' := by
  have hd1 : decide ((1024 : Int) < (n : Int)) = false := decide_eq_false (by omega)
  have hz : (1024 : Int) < (li : Int) := by omega
  go_enter Yba.func5, Yba.ntmps5
  go_wp2
  go_ret
  exact ⟨rfl, Below.refl _ _⟩

theorem walk_all (ar : Option Addr) (n cr : Nat) (zr : List Int) (ai : Option Addr) (li ci : Nat) (bi : List Bool) (inNil hasLayout useBare : Bool) (stp : Int) (h0 : 0 ≤ stp) (h255 : stp ≤ 255) (w : World)
    (hr : RawArg w ar n zr) (hi : InArg w ai li bi) :
    Calls Yba.prog 5 #[.slice ar n cr, .slice ai li ci, .bool inNil, .bool hasLayout, .bool useBare, .int .u8 stp] w fun e w' => e = .returned (.bool true) ∧ Below w.heap.size w w' := by
  by_cases hn : n ≤ 1024
  · by_cases hli : li ≤ 1024
    · exact walk ar n cr zr ai li ci bi inNil hasLayout useBare stp h0 h255 w hr hi hn hli
    · exact walk_long2 ar n cr ai li ci inNil hasLayout useBare stp w hn (by omega)
  · exact walk_long ar n cr ai li ci inNil hasLayout useBare stp w (by omega)

set_option maxRecDepth 100000 in
theorem lifted (os : Os) (started : os.Started) (H : Type) (enc : TypeId × Value → H) :
    ReturnsInHanded {} Yba.checked os 5 .any (Rows.lawS1165CYieldsSpec.pre6 enc Yba.prog Yba.f5 Rows.lawS1165CYieldsRow.domain false) (Rows.lawS1165CYieldsSpec.post enc Yba.prog Yba.f5 false true false false) := by
  refine returnsInHanded_of_change (C := Yba.checked) own started (by kernel_rfl) Yba.func5
    (ChangeSpec.witness6 (enc := enc) (C := Yba.checked) false ⟨#[], #[.slice none 0 0, .slice none 0 0, .bool false, .bool false, .bool false, .int .u8 0], []⟩ 8 (by kernel_rfl) (by kernel_rfl) (by kernel_rfl) (by kernel_rfl)) ?_
  intro W base args ds gs before hval0 hW hcnd _
  have hval : ∀ (j : Nat) t v, Yba.f5.params[j]? = some t → args[j]? = some v → Value.okWide Yba.prog W .any base t v := hval0
  have hW' := hW
  obtain ⟨p, q, hA0, hV, rfl, hfz, hnd⟩ := hW
  have hA : DataW.TrodAll enc Yba.prog W 0 (fun _ => true) true Yba.f5.params.toList args.toList ds p := hA0
  rw [Yba.params5] at hA hval
  obtain ⟨v0, vs0, d0, ds0, p0, q0, hargs, rfl, rfl, h0, r0⟩ := trodAll_cons hA
  obtain ⟨v1, vs1, d1, ds1, p1, q1, rfl, rfl, rfl, h1, r1⟩ := trodAll_cons r0
  obtain ⟨v2, vs2, d2, ds2, p2, q2, rfl, rfl, rfl, h2, r2⟩ := trodAll_cons r1
  obtain ⟨v3, vs3, d3, ds3, p3, q3, rfl, rfl, rfl, h3, r3⟩ := trodAll_cons r2
  obtain ⟨v4, vs4, d4, ds4, p4, q4, rfl, rfl, rfl, h4, r4⟩ := trodAll_cons r3
  obtain ⟨v5, vs5, d5, ds5, p5, q5, rfl, rfl, rfl, h5, r5⟩ := trodAll_cons r4
  obtain ⟨rfl, rfl, rfl⟩ := trodAll_nil r5
  obtain rfl : args = #[v0, v1, v2, v3, v4, v5] := by cases args; simp_all
  obtain ⟨rfl, rfl⟩ := trodVars_none hV
  obtain ⟨a0, len0, cap0, rfl⟩ := okWide_slice Yba.underlying54 (hval 0 54 v0 rfl rfl)
  obtain ⟨a1, len1, cap1, rfl⟩ := okWide_slice Yba.underlying55 (hval 1 55 v1 rfl rfl)
  have k0 := h0
  have lt0 : ∀ x ∈ p0, x.block < W.heap.size := by obtain ⟨m, hm⟩ := k0; exact DataW.trod_lt m _ _ _ hm
  have k1 := h1
  have lt1 : ∀ x ∈ p1, x.block < W.heap.size := by obtain ⟨m, hm⟩ := k1; exact DataW.trod_lt m _ _ _ hm
  obtain ⟨x2, rfl, rfl, rfl⟩ := open_bool Yba.underlying4 (hval 2 4 v2 rfl rfl) h2
  obtain ⟨x3, rfl, rfl, rfl⟩ := open_bool Yba.underlying4 (hval 3 4 v3 rfl rfl) h3
  obtain ⟨x4, rfl, rfl, rfl⟩ := open_bool Yba.underlying4 (hval 4 4 v4 rfl rfl) h4
  obtain ⟨x5, rfl, rfl, rfl, w5⟩ := open_int Yba.underlying5 (hval 5 5 v5 rfl rfl) h5
  obtain ⟨z0, w0⟩ : ∃ zs, RawArg W a0 len0 zs := by
    obtain ⟨fuel, hf⟩ := h0
    rcases open_ints Yba.underlying54 Yba.underlying58 (by kernel_rfl) hf with ⟨hcs, _⟩ | ⟨x, l, c, zs, hcs, _, hl, hm, hz, _, hcell, hwz⟩
    · simp [Value.cells] at hcs
      obtain ⟨rfl, rfl, rfl⟩ := hcs
      exact ⟨[], fun h => by omega⟩
    · simp [Value.cells] at hcs
      obtain ⟨rfl, rfl, rfl⟩ := hcs
      refine ⟨zs, fun hpos => ?_⟩
      simp at hz
      obtain ⟨b, off, spot⟩ := x
      have c0 := hcell 0 (by omega)
      have hspot : spot = none := by simpa [Addr.add] using World.cell?_spot c0
      subst hspot
      exact ⟨b, off, rfl, by simpa [Addr.add_lit] using World.block_lt_of_cell? W _ c0, fun j hj => by rw [← Addr.add_lit]; exact hcell j (by omega)⟩
  obtain ⟨z1, w1⟩ : ∃ bs, InArg W a1 len1 bs := by
    obtain ⟨fuel, hf⟩ := h1
    rcases Deep.open_slice1 Yba.underlying55 (by kernel_rfl) hf with ⟨hcs, _⟩ | ⟨x, l, c, m, n, V, D, Pl, hcs, _, hl, hm, hmm, _, hcell⟩
    · simp [Value.cells] at hcs
      obtain ⟨rfl, rfl, rfl⟩ := hcs
      exact ⟨[], rfl, fun h => by omega⟩
    · simp [Value.cells] at hcs
      obtain ⟨rfl, rfl, rfl⟩ := hcs
      simp at hmm
      subst hmm
      have hbool : ∀ i, i < len1 → ∃ b, W.cell? (x.add i) = some (.bool b) := fun i hi => by
        obtain ⟨hc1, ht1⟩ := hcell i (by omega)
        obtain ⟨b, hb, _⟩ := DataW.trod_bool Yba.underlying4 ht1
        simp at hb
        exact ⟨b, by rw [hc1, hb]⟩
      obtain ⟨f, hf1⟩ := Deep.choose_lt hbool
      refine ⟨(List.range len1).map f, by simp, fun hpos => ?_⟩
      obtain ⟨b, off, spot⟩ := x
      have c0 := hf1 0 hpos
      have hspot : spot = none := by simpa [Addr.add] using World.cell?_spot c0
      subst hspot
      refine ⟨b, off, rfl, by simpa [Addr.add_lit] using World.block_lt_of_cell? W _ c0, fun j hj => ?_⟩
      rw [← Addr.add_lit, hf1 j hj]
      simp [List.getD, hj]
  have hb5 := bounds_u8 w5
  clear hA0 hval0
  refine (walk_all a0 len0 cap0 z0 a1 len1 cap1 z1 x2 x3 x4 x5 hb5.1 hb5.2 W w0 w1).mono fun e W' ⟨he, bel⟩ => ?_
  subst he
  exact ⟨_, rfl, _, _, _, [], _, [], hW', trodAll_mk1 (shut_bool Yba.underlying4 _), (trodAll_cons_mk (Below.trod laidOut (by kernel_rfl) (of_decide_eq_true (by kernel_rfl)) k0 bel lt0) (trodAll_cons_mk (Below.trod laidOut (by kernel_rfl) (of_decide_eq_true (by kernel_rfl)) k1 bel lt1) (trodAll_cons_mk (shut_bool Yba.underlying4 _) (trodAll_cons_mk (shut_bool Yba.underlying4 _) (trodAll_cons_mk (shut_bool Yba.underlying4 _) (trodAll_cons_mk (shut_int Yba.underlying5 w5) trodAll_mk0)))))), rfl, bel.frame _, fun h => by cases h⟩

theorem over : Rows.lawS1165CYieldsRow.holds Yba.pinned (OpenSpec.ofChange Rows.lawS1165CYieldsSpec) :=
  OpenClaim.holds_of_wide 5 Yba.f5 rfl rfl rfl rfl rfl rfl rfl ⟨rfl, rfl, rfl, rfl, rfl⟩ rfl rfl rfl rfl rfl (by kernel_rfl) Yba.func5 (by kernel_rfl)
    (of_decide_eq_true (by kernel_rfl)) (by unfold Func.isWrapper; first | (rw [if_pos (by decide +kernel)]; kernel_rfl) | (rw [if_neg (by decide +kernel)]; exact ⟨rfl, rfl⟩))
    (fun os started H enc _ => lifted os started H enc)

/-- ████ THE STATEMENT ████ -/
theorem proved : Rows.LawS1165CYieldsSaid := over
#print axioms proved
end Go.Proofs.Ybulkxci.lawS1165CYields
