import Derived.Test.YbulkxgcDoorNext08
import Derived.Test.YbulkxgcDoorLk
import Derived.Deep.CutRange
namespace Go.Proofs.YbulkxgcDoor.Dc
open Go.RowKit
open _root_.Go.Proofs.YbulkxgcDoor.Bt
open _root_.Go.Proofs.YbulkxgcDoor.Flt

set_option maxHeartbeats 2000000 in
set_option maxRecDepth 100000 in
theorem next_78 (bc g nb cap : Nat) (bs : List Bool) (vr : Value) (kk : Int) (off left : Nat) (t step m dm : Int) (cl : Nat) (w : World) (h : Ds w bc g nb cap bs vr kk off (left + 1) t step m dm false cl)
    (hl : left ≤ 100000) (s : Nat) (hs : s < 128) (x : Nat) (hx : x < 256) (rest : List Bool) (hb : bs.drop off = bitsOf 2 2 ++ (bitsOf s 7 ++ (bitsOf 6 3 ++ (bitsOf x 8 ++ rest)))) (hm : (wrap64 (m + wrap64 (dm + sx8 x))).natAbs ≤ 2147483648)
    (g1 o1 g2 o2 : Nat) (hg : Gl bc w g1 o1 g2 o2) :
    Calls Ybad.prog 12 #[.pointer (some ⟨bc, 3, none⟩)] w fun e w' => e = .returned (pt (IntKind.i64.wrap (IntKind.u64.wrap (t + IntKind.u64.wrap (step + IntKind.u64.wrap (sx7 s))))) (wrap64 (m + wrap64 (dm + sx8 x)))) ∧ Ds w' bc g nb cap bs vr kk (off + 20) left (IntKind.u64.wrap (t + IntKind.u64.wrap (step + IntKind.u64.wrap (sx7 s)))) (IntKind.u64.wrap (step + IntKind.u64.wrap (sx7 s))) (wrap64 (m + wrap64 (dm + sx8 x))) (wrap64 (dm + sx8 x)) false cl ∧ Kp bc w w' := by
  have hoff : off < bs.length := drop_lt (xs := bitsOf 2 2) hb (by rw [bitsOf_length]; omega)
  have hbv : bs.drop (off + 9) = bitsOf 6 3 ++ (bitsOf x 8 ++ rest) := by
    have h1 := drop_next (xs := bitsOf 2 2) hb
    have h2 := drop_next (xs := bitsOf s 7) h1
    rw [bitsOf_length, bitsOf_length] at h2
    exact h2
  have hoff9 : off + 9 < bs.length := drop_lt (xs := bitsOf 6 3) hbv (by rw [bitsOf_length]; omega)
  have HP : Hid (∀ w1, Ds w1 bc g nb cap bs vr kk off left t step m dm false cl → Calls Ybad.prog 15 #[.pointer (some ⟨bc, 3, none⟩)] w1 fun e w' => ∃ X : Nat, e = .returned (.int .u64 X) ∧ Look bs off X ∧ Below w1.heap.size w1 w') := fun w1 hd =>
    dpeek bc g nb cap bs vr kk off left t step m dm false cl w1 hd hoff
  have hs0 := NS.start h hg
  clear h hg
  have c5 := hs0.ds.cur.cLeft
  have f5 := hs0.ds.cur.free 5
  have c11 := hs0.ds.cur.cFirst
  have hsf := st_float
  go_enter Ybad.func12, Ybad.ntmps12
  go_wp2_with fail
  have hs1 := hs0.setLeft (x := (left : Int)) rfl
  refine Calls.mono (Hid.out HP _ hs1.ds) ?_
  rintro e w2 ⟨X, rfl, hL, hB⟩
  have hs2 := hs1.below hB
  clear hs0 hs1 c5 f5 c11 HP hB
  have hlt := lk_two hL.lk _ hb
  have hlt2 := hL.lt
  have hx63 : (X : Int) / 9223372036854775808 = 1 := by omega
  have HB := show Hid _ from hbv
  have HRC : Hid (∀ w1, NS w w1 bc g nb cap bs vr kk off left t step m dm cl g1 o1 g2 o2 → Calls Ybad.prog 16 #[.pointer (some ⟨bc, 3, none⟩), .slice (some ⟨g1, o1, none⟩) 5 5] w1 fun e w' => e = .returned (.int .i64 (sx7 s)) ∧ Ds w' bc g nb cap bs vr kk (off + 9) left t step m dm false cl ∧ Kp bc w1 w') := fun w1 hn =>
    readClass7 bc g nb cap bs vr kk off left t step m dm false cl w1 hn.ds s _ hs hb g1 o1 hn.gl.tw1
  clear hL hb hbv hlt hlt2
  have c7 := hs2.ds.cur.cStep
  have f7 := hs2.ds.cur.free 7
  have ct := hs2.gl.tw.2.2
  go_upto_region 10 with fail
  go_cut [] from 42 to 54 (fun wx => NS w wx bc g nb cap bs vr kk (off + 9) left t (IntKind.u64.wrap (step + IntKind.u64.wrap (sx7 s))) m dm cl g1 o1 g2 o2)
  case first =>
    go_region_with (go_at_call 16; refine Calls.mono (Hid.out HRC _ hs2.drew) ?_; rintro e w' ⟨rfl, hd', hk'⟩; have hs3 := hs2.drew.go hd' hk'; have c7' := hs3.ds.cur.cStep; have f7' := hs3.ds.cur.free 7; have ct' := hs3.gl.tw.2.2)
    all_goals (go_wp2_with fail; go_meet; exact hs3.setStep _)
  case rest =>
  have HP9 := show Hid _ from dpeek bc g nb cap bs vr kk (off + 9) left t (IntKind.u64.wrap (step + IntKind.u64.wrap (sx7 s))) m dm false cl wc hcut.ds hoff9
  clear hs2 c7 f7 ct HRC
  go_wp2_with fail
  refine Calls.mono (Hid.out HP9) ?_
  rintro e w6 ⟨Y, rfl, hL9, hB9⟩
  have hs6 := hcut.below hB9
  have HLY : Hid (Lk bs (off + 9) Y) := hL9.lk
  clear hcut HP9 hL9 hB9
  have c6 := hs6.ds.cur.cT
  have f6 := hs6.ds.cur.free 6
  have c7 := hs6.ds.cur.cStep
  go_wp2_with fail
  go_region
  have hs3 := (hs6.setT (IntKind.u64.wrap (t + IntKind.u64.wrap (step + IntKind.u64.wrap (sx7 s))))).drew
  generalize (w6.setCell ⟨bc, 6, none⟩ (.int .u64 (IntKind.u64.wrap (t + IntKind.u64.wrap (step + IntKind.u64.wrap (sx7 s)))))).drew = w3 at hs3 ⊢
  clear hs6 c6 f6 c7
  have hlt := HLY.out.lt
  have he := lk_eight HLY.out x hx _ HB.out
  obtain ⟨e63, e62, e61⟩ := eight_bits hx he
  have HLZ : Hid (∀ w1, Calls Ybad.prog 18 #[.int .u64 (bits .xor .u64 IntKind.u64.max (Y : Int))] w1 fun e w' => e = .returned (.int .i64 2) ∧ w' = w1) := fun w1 => by
    rw [not64 Y hlt]
    exact lz_two Y w1 hlt e63 e62 e61
  have hy : (Y : Int) / 9223372036854775808 = 1 := by omega
  have HSX : Hid (wrap64 (IntKind.u64.wrap ((Y : Int) * 8)) / 72057594037927936 = sx8 x) := eight_sx hx he
  clear HLY HB hlt e63 e62 e61 he
  have c10 := hs3.ds.cur.cMode
  have c4 := hs3.ds.cur.cOff
  have f4 := hs3.ds.cur.free 4
  have c8 := hs3.ds.cur.cM
  have f8 := hs3.ds.cur.free 8
  have c9 := hs3.ds.cur.cDm
  have f9 := hs3.ds.cur.free 9
  have cv := hs3.gl.vw.2.2
  have cv2 := hs3.gl.vw2.2.2
  have hol : off + 9 ≤ 200000 := by have := hs3.ds.len; omega
  have hw8 : IntKind.i64.wrap 8 = 8 := by decide
  go_upto_region 13 with fail
  go_cut [5] from 71 to 77 (fun c wx => c = .int .i64 2 ∧ wx = w3.drew)
  case first =>
    go_region_with (go_at_call 18; refine Calls.mono (Hid.out HLZ _) ?_; rintro e w' ⟨rfl, rfl⟩)
    all_goals (go_wp2_with fail; go_meet; exact ⟨rfl, rfl⟩)
  case rest =>
  obtain ⟨rfl, rfl⟩ := hcut
  go_wp2_with fail
  rw [HSX.out]
  have hs5 := ((hs3.setOff (x := (off : Int) + 9 + 11) (y := off + 20) (by omega)).setDm (wrap64 (dm + sx8 x))).drew
  generalize ((w3.setCell ⟨bc, 4, none⟩ (.int .i64 ((off : Int) + 9 + 11))).setCell ⟨bc, 9, none⟩ (.int .i64 (wrap64 (dm + sx8 x)))).drew = w5 at hs5 ⊢
  clear hs3 c10 c4 f4 c8 f8 c9 f9 cv cv2 HLZ hy HSX
  have c8 := hs5.ds.cur.cM
  have f8 := hs5.ds.cur.free 8
  have c9 := hs5.ds.cur.cDm
  go_region
  have hs4 := (hs5.setM (wrap64 (m + wrap64 (dm + sx8 x)))).drew
  generalize (w5.setCell ⟨bc, 8, none⟩ (.int .i64 (wrap64 (m + wrap64 (dm + sx8 x))))).drew = w4 at hs4 ⊢
  clear hs5 c8 f8 c9
  have HV := show Hid _ from hs4.drew.value hm
  have c6 := hs4.ds.cur.cT
  have b0 := hs4.b0
  have b1 := hs4.b1
  have bf := hs4.bf 0
  have bf1 := hs4.bf 1
  go_wp2_with fail
  go_region_with (go_at_call 14; refine Calls.mono (Hid.out HV) ?_; rintro e w' ⟨rfl, n, rfl⟩)
  all_goals go_wp2
  all_goals refine bodyPost_ret (v := pt (IntKind.i64.wrap (IntKind.u64.wrap (t + IntKind.u64.wrap (step + IntKind.u64.wrap (sx7 s))))) (wrap64 (m + wrap64 (dm + sx8 x)))) (by simp [results, Ybad.results12, go_sem, b0, b1, pt]) rfl ⟨rfl, (hs4.drewN _).done _ _⟩
end Go.Proofs.YbulkxgcDoor.Dc
