import Derived.Test.YbulkxgcDoorRowA
import Derived.Test.YbulkxgcDoorLaw
import Derived.Test.YbulkxgcDoorTie
import Derived.Test.YbulkxgcDoorCards
import Derived.SevenTiedAt
namespace Go.Proofs.YbulkxgcDoor.Row
open Go.ChangeShapes Go.WideShapes Go.ChangeAt Go.RowKit
open _root_.Go.Proofs.YbulkxgcDoor.Dc
open _root_.Go.Proofs.YbulkxgcDoor.Gb

theorem law : LawAny := law_any

theorem vars_read : ∀ n ∈ Rows.lawS1172CRunSpec.vars, ∀ g t, Ybad.prog.globalNamed n = some g → (Ybad.prog.globals[g]?).map (·.type) = some t → Ybad.prog.readableRec t = true ∧ t < Ybad.prog.types.size := by
  intro n hn g t hg ht
  simp only [Rows.lawS1172CRunSpec, List.mem_cons, List.not_mem_nil, or_false] at hn
  rcases hn with rfl | rfl | rfl
  · obtain rfl := Option.some.inj (gTw.symm.trans hg)
    obtain rfl := Option.some.inj (tTw.symm.trans ht)
    exact ⟨by kernel_rfl, of_decide_eq_true (by kernel_rfl)⟩
  · obtain rfl := Option.some.inj (gVw.symm.trans hg)
    obtain rfl := Option.some.inj (tVw.symm.trans ht)
    exact ⟨by kernel_rfl, of_decide_eq_true (by kernel_rfl)⟩
  · obtain rfl := Option.some.inj (gPw.symm.trans hg)
    obtain rfl := Option.some.inj (tPw.symm.trans ht)
    exact ⟨by kernel_rfl, of_decide_eq_true (by kernel_rfl)⟩

theorem trodVars_three {H : Type} {enc : TypeId × Value → H} {W : World} {sp : Nat → Bool} {a b c : String} {gs : List (DataW H)} {ps : List MemPlace} (h : DataW.TrodVars enc Ybad.prog W sp [a, b, c] gs ps) : ∃ x y z, gs = [x, y, z] := by
  match gs, h with
  | [], h => exact absurd h id
  | [_], ⟨_, _, _, _, _, _, _, _, _, _, h, _⟩ => exact absurd h id
  | [_, _], ⟨_, _, _, _, _, _, _, _, _, _, ⟨_, _, _, _, _, _, _, _, _, _, h, _⟩, _⟩ => exact absurd h id
  | [x, y, z], _ => exact ⟨x, y, z, rfl⟩
  | _ :: _ :: _ :: _ :: _, ⟨_, _, _, _, _, _, _, _, _, _, ⟨_, _, _, _, _, _, _, _, _, _, ⟨_, _, _, _, _, _, _, _, _, _, h, _⟩, _⟩, _⟩ => exact absurd h id

set_option maxRecDepth 100000 in
theorem lifted (os : Os) (started : os.Started) (H : Type) (enc : TypeId × Value → H) :
    ReturnsInHanded {} Ybad.checked os 3 .any (fun w args => (Rows.lawS1172CRunSpec.pre enc Ybad.prog Ybad.f3 [] false w args ∧ laidMetH Ybad.prog laid3 w) ∧ sizedMet enc Ybad.prog Ybad.f3 (OpenSpec.ofChange Rows.lawS1172CRunSpec) false w args)
      (Rows.lawS1172CRunSpec.post enc Ybad.prog Ybad.f3 false true false false) := by
  refine returnsInHanded_of_change_and (C := Ybad.checked) (X := fun w _ => laidMetH Ybad.prog laid3 w) (fun _ _ _ hh h => h.of_heap hh) own started (by kernel_rfl) Ybad.func3
    (ChangeSpec.witness_shaped (enc := enc) (C := Ybad.checked) (os := os) (X := fun w _ => laidMetH Ybad.prog laid3 w) false (World.doorLaid Ybad.prog 649 os) #[.int .i64 0, .int .i16 0, .slice none 0 0, .bool true, .int .i64 0, .int .i16 0, .slice none 0 0, .bool true, .int .u16 0] 8 rfl (World.shaped_of_RefB (by kernel_rfl) (by kernel_rfl)) (by kernel_rfl) (by kernel_rfl) (by kernel_rfl) (door_met os _)) ?_
  intro W base args ds gs before hval0 hW _ _ hL _
  have hval : ∀ (j : Nat) t v, Ybad.f3.params[j]? = some t → args[j]? = some v → Value.okWide Ybad.prog W .any base t v := hval0
  have hW' := hW
  obtain ⟨p, q, hA0, hV, rfl, hfz, hnd⟩ := hW
  have hA : DataW.TrodAll enc Ybad.prog W 0 (fun _ => true) true Ybad.f3.params.toList args.toList ds p := hA0
  rw [Ybad.params3] at hA hval
  obtain ⟨v0, vs0, d0, ds0, p0, q0, hargs, rfl, rfl, h0, r0⟩ := trodAll_cons hA
  obtain ⟨v1, vs1, d1, ds1, p1, q1, rfl, rfl, rfl, h1, r1⟩ := trodAll_cons r0
  obtain ⟨v2, vs2, d2, ds2, p2, q2, rfl, rfl, rfl, h2, r2⟩ := trodAll_cons r1
  obtain ⟨v3, vs3, d3, ds3, p3, q3, rfl, rfl, rfl, h3, r3⟩ := trodAll_cons r2
  obtain ⟨v4, vs4, d4, ds4, p4, q4, rfl, rfl, rfl, h4, r4⟩ := trodAll_cons r3
  obtain ⟨v5, vs5, d5, ds5, p5, q5, rfl, rfl, rfl, h5, r5⟩ := trodAll_cons r4
  obtain ⟨v6, vs6, d6, ds6, p6, q6, rfl, rfl, rfl, h6, r6⟩ := trodAll_cons r5
  obtain ⟨v7, vs7, d7, ds7, p7, q7, rfl, rfl, rfl, h7, r7⟩ := trodAll_cons r6
  obtain ⟨v8, vs8, d8, ds8, p8, q8, rfl, rfl, rfl, h8, r8⟩ := trodAll_cons r7
  obtain ⟨rfl, rfl, rfl⟩ := trodAll_nil r8
  obtain rfl : args = #[v0, v1, v2, v3, v4, v5, v6, v7, v8] := by cases args; simp_all
  obtain ⟨y0, y1, y2, rfl⟩ := trodVars_three hV
  obtain ⟨a2, len2, cap2, rfl⟩ := okWide_slice Ybad.underlying23 (hval 2 23 v2 rfl rfl)
  obtain ⟨a6, len6, cap6, rfl⟩ := okWide_slice Ybad.underlying23 (hval 6 23 v6 rfl rfl)
  have k2 := h2
  have lt2 : ∀ x ∈ p2, x.block < W.heap.size := by obtain ⟨m, hm⟩ := k2; exact DataW.trod_lt m _ _ _ hm
  have k6 := h6
  have lt6 : ∀ x ∈ p6, x.block < W.heap.size := by obtain ⟨m, hm⟩ := k6; exact DataW.trod_lt m _ _ _ hm
  obtain ⟨x0, rfl, rfl, rfl, w0⟩ := open_int Ybad.underlying2 (hval 0 2 v0 rfl rfl) h0
  obtain ⟨x1, rfl, rfl, rfl, w1⟩ := open_int Ybad.underlying22 (hval 1 22 v1 rfl rfl) h1
  obtain ⟨x3, rfl, rfl, rfl⟩ := open_bool Ybad.underlying4 (hval 3 4 v3 rfl rfl) h3
  obtain ⟨x4, rfl, rfl, rfl, w4⟩ := open_int Ybad.underlying2 (hval 4 2 v4 rfl rfl) h4
  obtain ⟨x5, rfl, rfl, rfl, w5⟩ := open_int Ybad.underlying22 (hval 5 22 v5 rfl rfl) h5
  obtain ⟨x7, rfl, rfl, rfl⟩ := open_bool Ybad.underlying4 (hval 7 4 v7 rfl rfl) h7
  obtain ⟨x8, rfl, rfl, rfl, w8⟩ := open_int Ybad.underlying24 (hval 8 24 v8 rfl rfl) h8
  obtain ⟨L1, hl1, hs1, hst1⟩ := steps_of h2
  obtain ⟨L2, hl2, hs2, hst2⟩ := steps_of h6
  subst hl1 hl2
  obtain ⟨g1, o1, g2, o2, e1, e2, e3, e4, e5⟩ := of_laid hL
  have hb0 := bounds_i64 w0
  have hb1 := bounds_i16 w1
  have hb4 := bounds_i64 w4
  have hb5 := bounds_i16 w5
  have hb8 := bounds_u16 w8
  have hgl : GlB W W.heap.size g1 o1 g2 o2 := ⟨⟨World.block_lt_of_cell? W _ e1, e1⟩, ⟨World.block_lt_of_cell? W _ e2, e2⟩, ⟨World.block_lt_of_cell? W _ e3, e3⟩, ⟨World.block_lt_of_cell? W _ e4, e4⟩, ⟨World.block_lt_of_cell? W _ e5, e5⟩, Nat.le_refl _⟩
  clear hA0 hval0
  refine (law x0 x1 a2 cap2 L1 x3 x4 x5 a6 cap6 L2 x7 x8 g1 o1 g2 o2 W hb0.1 hb0.2 hb1.1 hb1.2 hb4.1 hb4.2 hb5.1 hb5.2 hb8.1 hb8.2 hs1 hs2 hst1 hst2 hgl).mono fun e W' ⟨he, bel⟩ => ?_
  subst he
  exact ⟨_, rfl, _, _, _, [], _, q, hW', trodAll_mk1 (shut_bool Ybad.underlying4 _),
    (trodAll_cons_mk (shut_int Ybad.underlying2 w0) (trodAll_cons_mk (shut_int Ybad.underlying22 w1) (trodAll_cons_mk (Below.trod laidOut (by kernel_rfl) (of_decide_eq_true (by kernel_rfl)) k2 bel lt2) (trodAll_cons_mk (shut_bool Ybad.underlying4 _) (trodAll_cons_mk (shut_int Ybad.underlying2 w4) (trodAll_cons_mk (shut_int Ybad.underlying22 w5) (trodAll_cons_mk (Below.trod laidOut (by kernel_rfl) (of_decide_eq_true (by kernel_rfl)) k6 bel lt6) (trodAll_cons_mk (shut_bool Ybad.underlying4 _) (trodAll_cons_mk (shut_int Ybad.underlying24 w8) trodAll_mk0))))))))),
    vars_below bel vars_read hV, bel.frame _, fun h => by cases h⟩

theorem over : Rows.lawS1172CRunRow.holds Ybad.pinned (OpenSpec.ofChange Rows.lawS1172CRunSpec) :=
  OpenClaim.holds_of_wide 3 Ybad.f3 rfl rfl rfl rfl rfl rfl rfl ⟨rfl, rfl, rfl, rfl, rfl⟩ rfl rfl rfl rfl rfl (by kernel_rfl) Ybad.func3 (by kernel_rfl)
    (of_decide_eq_true (by kernel_rfl)) (by unfold Func.isWrapper; first | (rw [if_pos (by decide +kernel)]; kernel_rfl) | (rw [if_neg (by decide +kernel)]; exact ⟨rfl, rfl⟩))
    (fun os started H enc _ => lifted os started H enc)

/-- ████ THE STATEMENT: THE TIED CARD ████ -/
theorem proved : Rows.LawS1172CRunCardSaid :=
  Claim7.holds_tied_plain_at .later [] [.called, .widerDeep, .widerDeep] true Rows.lawS1172CRunCard.stood.harness false
    over (fun _ h => by cases h) (by kernel_rfl) (fun _ h => by cases h) lawS1172CRun_row_tie rfl ⟨rfl, rfl⟩ (by kernel_rfl) rfl
    (fun f fn hf hfn => by
      obtain rfl : f = 3 := Option.some.inj ((show Ybad.prog.funcNamed Rows.lawS1172CRunRow.func = some 3 by kernel_rfl).symm.trans hf) |>.symm
      obtain rfl : fn = Ybad.f3 := (Option.some.inj (Ybad.func3.symm.trans hfn)).symm
      exact ⟨by kernel_rfl, fun j t ht => by
        rw [Ybad.params3] at ht
        have hm : t ∈ [2, 22, 23, 4, 2, 22, 23, 4, 24] := by simpa using Array.mem_of_getElem? ht
        have hall : ([2, 22, 23, 4, 2, 22, 23, 4, 24].all fun u => !Ybad.prog.wantsStandIn u) = true := by kernel_rfl
        exact (show Ybad.prog.wantsStandIn t = false by simpa using List.all_eq_true.1 hall t hm)⟩)
    (by kernel_rfl)
#print axioms proved
end Go.Proofs.YbulkxgcDoor.Row
