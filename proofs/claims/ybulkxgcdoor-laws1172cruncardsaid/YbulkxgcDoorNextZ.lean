import Derived.Test.YbulkxgcDoorNextS
namespace Go.Proofs.YbulkxgcDoor.Dc
open Go.RowKit
open _root_.Go.Proofs.YbulkxgcDoor.Bt
open _root_.Go.Proofs.YbulkxgcDoor.Flt

set_option maxHeartbeats 1000000 in
set_option maxRecDepth 100000 in
theorem next_zz (bc g nb cap : Nat) (bs : List Bool) (vr : Value) (kk : Int) (off left : Nat) (t step m dm : Int) (cl : Nat) (w : World) (h : Ds w bc g nb cap bs vr kk off (left + 1) t step m dm false cl)
    (hl : left ≤ 100000) (rest : List Bool) (hb : bs.drop off = bitsOf 0 1 ++ (bitsOf 0 1 ++ rest)) (hm : (wrap64 (m + dm)).natAbs ≤ 2147483648)
    (g1 o1 g2 o2 : Nat) (hg : Gl bc w g1 o1 g2 o2) :
    Calls Ybad.prog 12 #[.pointer (some ⟨bc, 3, none⟩)] w fun e w' => e = .returned (pt (IntKind.i64.wrap (IntKind.u64.wrap (t + step))) (wrap64 (m + dm))) ∧ Ds w' bc g nb cap bs vr kk (off + 2) left (IntKind.u64.wrap (t + step)) step (wrap64 (m + dm)) dm false cl ∧ Kp bc w w' := by
  have hoff : off < bs.length := drop_lt (xs := bitsOf 0 1) hb (by rw [bitsOf_length]; omega)
  have HP : Hid (∀ w1, Ds w1 bc g nb cap bs vr kk off left t step m dm false cl → Calls Ybad.prog 15 #[.pointer (some ⟨bc, 3, none⟩)] w1 fun e w' => ∃ X : Nat, e = .returned (.int .u64 X) ∧ Look bs off X ∧ Below w1.heap.size w1 w') := fun w1 hd =>
    dpeek bc g nb cap bs vr kk off left t step m dm false cl w1 hd hoff
  have hs0 := NS.start h hg
  clear h hg
  have c5 := hs0.ds.cur.cLeft
  have f5 := hs0.ds.cur.free 5
  have c11 := hs0.ds.cur.cFirst
  have hsf := st_float
  go_enter Ybad.func12, Ybad.ntmps12
  go_wp2_with fail
  have hs1 := hs0.setLeft (x := (left : Int)) rfl
  refine Calls.mono (Hid.out HP _ hs1.ds) ?_
  rintro e w2 ⟨X, rfl, hL, hB⟩
  have hs2 := hs1.below hB
  clear hs0 hs1 c5 f5 c11 HP hB
  have hX0 : X.testBit 63 = false := by have := hL.bit 0 (by omega); rw [getD_drop, hb] at this; exact this
  have hX1 : X.testBit 62 = false := by have := hL.bit 1 (by omega); rw [getD_drop, hb] at this; exact this
  have hlt := hL.lt
  rw [Nat.testBit_eq_decide_div_mod_eq, decide_eq_false_iff_not] at hX0 hX1
  have hx2 : (X : Int) < 4611686018427387904 := by omega
  have hx63 : (X : Int) / 9223372036854775808 = 0 := by omega
  clear hX0 hX1 hlt
  have HL := show Hid _ from hL
  have HB := show Hid _ from hb
  clear hL hb
  have c6 := hs2.ds.cur.cT
  have f6 := hs2.ds.cur.free 6
  have c7 := hs2.ds.cur.cStep
  go_wp2_with fail
  obtain ⟨Y, hY⟩ : ∃ Y : Nat, (X : Int) * 2 = (Y : Int) := ⟨X * 2, by omega⟩
  have hy : (Y : Int) / 9223372036854775808 = 0 := by omega
  rw [hY]
  clear hY hx2 hx63
  go_region
  have hs3 := (hs2.setT (IntKind.u64.wrap (t + step))).drew
  generalize (w2.setCell ⟨bc, 6, none⟩ (.int .u64 (IntKind.u64.wrap (t + step)))).drew = w3 at hs3 ⊢
  clear hs2 c6 f6 c7
  have c10 := hs3.ds.cur.cMode
  have c4 := hs3.ds.cur.cOff
  have f4 := hs3.ds.cur.free 4
  have c8 := hs3.ds.cur.cM
  have f8 := hs3.ds.cur.free 8
  have c9 := hs3.ds.cur.cDm
  have hol : off ≤ 100000 := by have := hs3.ds.len; omega
  go_wp2_with fail
  go_region
  have hs4 := ((hs3.setOff (x := (off : Int) + 2) (y := off + 2) (by omega)).setM (wrap64 (m + dm))).drew
  generalize ((w3.setCell ⟨bc, 4, none⟩ (.int .i64 ((off : Int) + 2))).setCell ⟨bc, 8, none⟩ (.int .i64 (wrap64 (m + dm)))).drew = w4 at hs4 ⊢
  clear hs3 c10 c4 f4 c8 f8 c9
  have HV := show Hid _ from hs4.drew.value hm
  have c6 := hs4.ds.cur.cT
  have b0 := hs4.b0
  have b1 := hs4.b1
  have bf := hs4.bf 0
  have bf1 := hs4.bf 1
  go_wp2_with fail
  go_region_with (go_at_call 14; refine Calls.mono (Hid.out HV) ?_; rintro e w' ⟨rfl, n, rfl⟩)
  all_goals go_wp2
  all_goals refine bodyPost_ret (v := pt (IntKind.i64.wrap (IntKind.u64.wrap (t + step))) (wrap64 (m + dm))) (by simp [results, Ybad.results12, go_sem, b0, b1, pt]) rfl ⟨rfl, (hs4.drewN _).done _ _⟩
end Go.Proofs.YbulkxgcDoor.Dc
