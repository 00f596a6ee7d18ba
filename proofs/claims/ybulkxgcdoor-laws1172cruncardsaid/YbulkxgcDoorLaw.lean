import Derived.Test.YbulkxgcDoorChO
import Derived.OwnWalk
namespace Go.Proofs.YbulkxgcDoor.Dc
open Go.RowKit
open _root_.Go.Proofs.YbulkxgcDoor.Bt

theorem ptC_length (P : List (Int × Int)) : (ptCells P).length = P.length * 2 := by
  induction P with
  | nil => rfl
  | cons p P ih =>
    have e : ptCells (p :: P) = .int .i64 p.1 :: .float .f64 (Flt.F p.2) :: ptCells P := rfl
    rw [e, List.length_cons, List.length_cons, ih, List.length_cons]
    omega
theorem ptC_drop (P : List (Int × Int)) : ∀ K, ptCells (P.drop K) = (ptCells P).drop (K * 2) := by
  induction P with
  | nil => intro K; simp [ptCells]
  | cons p P ih =>
    intro K
    cases K with
    | zero => rfl
    | succ K =>
      have e : ptCells (p :: P) = .int .i64 p.1 :: .float .f64 (Flt.F p.2) :: ptCells P := rfl
      rw [List.drop_succ_cons, ih, e, show (K + 1) * 2 = K * 2 + 1 + 1 by omega, List.drop_succ_cons, List.drop_succ_cons]
theorem ptC_one (P : List (Int × Int)) : ∀ u ∈ ptCells P, u.oneCell' = true := by
  intro u hu
  simp only [ptCells, List.mem_flatMap, List.mem_cons, List.not_mem_nil, or_false] at hu
  obtain ⟨p, _, rfl | rfl⟩ := hu <;> rfl

theorem ptC_at (P : List (Int × Int)) : ∀ i, (h : i < P.length) → (ptCells P)[i * 2]? = some (.int .i64 P[i].1) ∧ (ptCells P)[i * 2 + 1]? = some (.float .f64 (Flt.F P[i].2)) := by
  induction P with
  | nil => intro i h; cases h
  | cons p P ih =>
    intro i h
    have e : ptCells (p :: P) = .int .i64 p.1 :: .float .f64 (Flt.F p.2) :: ptCells P := rfl
    cases i with
    | zero => exact ⟨rfl, rfl⟩
    | succ i =>
      have := ih i (by simpa using h)
      rw [e, show (i + 1) * 2 = i * 2 + 1 + 1 by omega]
      simpa using this

theorem lay3 (w : World) (a b c : Obj) : (((w.alloc a).alloc b).alloc c).heap[w.heap.size]? = some a ∧ (((w.alloc a).alloc b).alloc c).heap[w.heap.size + 1]? = some b ∧ (((w.alloc a).alloc b).alloc c).heap[w.heap.size + 1 + 1]? = some c ∧ (((w.alloc a).alloc b).alloc c).heap.size = w.heap.size + 3 := by
  have e1 : (w.alloc a).heap.size = w.heap.size + 1 := by simp
  have e2 : ((w.alloc a).alloc b).heap.size = w.heap.size + 1 + 1 := by simp
  refine ⟨?_, ?_, ?_, by simp⟩
  · rw [Below.heap_alloc _ _ _ (by rw [e2]; omega), Below.heap_alloc _ _ _ (by rw [e1]; omega)]
    exact heap_alloc_new w a
  · rw [Below.heap_alloc _ _ _ (by rw [e2]; omega), ← e1]
    exact heap_alloc_new _ b
  · rw [← e2]
    exact heap_alloc_new _ c

abbrev objA (sd1 : Option Addr) (ld1 cd1 n1 : Nat) (first1 : Int) (sd2 : Option Addr) (ld2 cd2 n2 : Nat) (first2 : Int) : Obj :=
  .cells #[.slice sd1 ld1 cd1, .int .i32 n1, .bool false, .int .i64 first1, .int .i64 0, .pointer none, .slice sd2 ld2 cd2, .int .i32 n2, .bool false, .int .i64 first2, .int .i64 0, .pointer none] 32
abbrev objB (z K N : Nat) : Obj := .cells #[.slice (some ⟨z, 0, none⟩) 2 2, .int .i64 K, .int .i64 N, .int .i64 0, .int .i64 0, .int .u64 0] 36
abbrev objC (z : Nat) : Obj := .cells #[.string { data := #[120] }, .string { data := #[] }, .slice none 0 0, .slice none 0 0, .pointer (some ⟨z + 1, 0, none⟩)] 39

theorem dec_here (w w6 : World) (first1 first2 : Int) (sd1 sp1 sd2 sp2 : Option Addr) (ld1 cd1 ld2 cd2 n1 n2 K N g1 o1 g2 o2 : Nat) (P1 P2 : List (Int × Int)) (hb : Below w.heap.size w w6) (hg : GlB w w.heap.size g1 o1 g2 o2)
    (hr1 : ChR w6 first1 sd1 ld1 cd1 sp1 P1) (hr2 : ChR w6 first2 sd2 ld2 cd2 sp2 P2) (hn1 : P1.length = n1) (hn2 : P2.length = n2) (hK : K ≤ n1) (hN : n1 - K + n2 = N) (wz : World) (hz : wz = ((w6.alloc (objA sd1 ld1 cd1 n1 first1 sd2 ld2 cd2 n2 first2)).alloc (objB w6.heap.size K N)).alloc (objC w6.heap.size)) :
    Calls Ybad.prog 6 #[.pointer (some ⟨w6.heap.size + 1 + 1, 0, none⟩)] wz fun e w' => e = .returned (.tuple #[]) ∧ ∃ R, w'.cell? ⟨w6.heap.size + 1 + 1, 3, none⟩ = some (.slice (some ⟨R, 0, none⟩) N N) ∧ w'.cell? ⟨w6.heap.size + 1 + 1, 4, none⟩ = some (.pointer none) ∧
      (∀ j u, (ptCells (P1.drop K ++ P2))[j]? = some u → w'.cell? ⟨R, j, none⟩ = some u) ∧ Below w6.heap.size w6 w' := by
  have hbz : Below w6.heap.size w6 wz := by
    subst hz
    exact (((Below.refl _ _).alloc (Nat.le_refl _) _).alloc (by simp) _).alloc (by simp; omega) _
  obtain ⟨ra, rb, rc, rs⟩ := lay3 w6 (objA sd1 ld1 cd1 n1 first1 sd2 ld2 cd2 n2 first2) (objB w6.heap.size K N) (objC w6.heap.size)
  rw [← hz] at ra rb rc rs
  have hr1' := hr1.below hbz
  have hr2' := hr2.below hbz
  have at_ : ∀ b o v cs t, wz.heap[b]? = some (.cells cs t (0, 0)) → cs[o]? = some v → At wz wz.heap.size b o v := fun b o v cs t hh hv => ⟨lt_of_block hh, (cell_of_row wz b o cs t (0, 0) hh).trans hv⟩
  have env : Env wz wz.heap.size (w6.heap.size + 1) w6.heap.size K N P1 P2 :=
    ⟨at_ _ _ _ _ _ rb rfl, at_ _ _ _ _ _ rb rfl, at_ _ _ _ _ _ rb rfl,
     ⟨sd1, ld1, cd1, first1, at_ _ _ _ _ _ ra rfl, by rw [hn1]; exact at_ _ _ _ _ _ ra rfl, at_ _ _ _ _ _ ra rfl, hr1.le, hr1'.data⟩,
     ⟨sd2, ld2, cd2, first2, at_ _ _ _ _ _ ra rfl, by rw [hn2]; exact at_ _ _ _ _ _ ra rfl, at_ _ _ _ _ _ ra rfl, hr2.le, hr2'.data⟩⟩
  have hgz : GlB wz wz.heap.size g1 o1 g2 o2 := by
    have hbw : Below w.heap.size w wz := hb.trans (Below.less hbz hb.size)
    have h := hg.below hbw
    have hle := hbw.size
    have up : ∀ b o v, At wz w.heap.size b o v → At wz wz.heap.size b o v := fun b o v h => ⟨Nat.lt_of_lt_of_le h.1 hle, h.2⟩
    exact ⟨up _ _ _ h.tw, up _ _ _ h.tw1, up _ _ _ h.vw, up _ _ _ h.vw2, up _ _ _ h.pw, Nat.le_refl _⟩
  have l1 := hr1.le
  have l2 := hr2.le
  have hNN : N = (P1.drop K ++ P2).length := by rw [List.length_append, List.length_drop, hn1, hn2, hN]
  refine (decode_any (w6.heap.size + 1 + 1) (w6.heap.size + 1) w6.heap.size K N P1 P2 wz (by omega) env (at_ _ _ _ _ _ rc rfl) hNN (by omega) (at_ _ 3 (.slice none 0 0) _ _ rc rfl).2 (frozen_of_row wz _ 3 _ 39 rc) (frozen_of_row wz _ 4 _ 39 rc) g1 o1 g2 o2 hgz).mono ?_
  rintro e w' ⟨rfl, R, _, h3, h4, hc, hk⟩
  exact ⟨rfl, R, h3, h4, hc, hbz.trans (hk.below (by omega) (by omega))⟩

set_option maxHeartbeats 1000000 in
set_option maxRecDepth 100000 in
theorem law_long (first1 v1 : Int) (a1 : Option Addr) (l1 c1 : Nat) (e1 : Bool) (first2 v2 : Int) (a2 : Option Addr) (l2 c2 : Nat) (e2 : Bool) (skip : Int) (w : World) (h : 1024 < l1) :
    Calls Ybad.prog 3 #[.int .i64 first1, .int .i16 v1, .slice a1 l1 c1, .bool e1, .int .i64 first2, .int .i16 v2, .slice a2 l2 c2, .bool e2, .int .u16 skip] w fun e w' => e = .returned (.bool true) ∧ Below w.heap.size w w' := by
  have hz : (1024 : Int) < (l1 : Int) := by omega
  go_enter Ybad.func3, Ybad.ntmps3
  go_wp2_with fail
  go_ret
  exact ⟨rfl, Below.refl _ _⟩
set_option maxHeartbeats 1000000 in
set_option maxRecDepth 100000 in
theorem law_long2 (first1 v1 : Int) (a1 : Option Addr) (l1 c1 : Nat) (e1 : Bool) (first2 v2 : Int) (a2 : Option Addr) (l2 c2 : Nat) (e2 : Bool) (skip : Int) (w : World) (h1 : l1 ≤ 1024) (h : 1024 < l2) :
    Calls Ybad.prog 3 #[.int .i64 first1, .int .i16 v1, .slice a1 l1 c1, .bool e1, .int .i64 first2, .int .i16 v2, .slice a2 l2 c2, .bool e2, .int .u16 skip] w fun e w' => e = .returned (.bool true) ∧ Below w.heap.size w w' := by
  have hd1 : decide ((1024 : Int) < (l1 : Int)) = false := decide_eq_false (by omega)
  have hz : (1024 : Int) < (l2 : Int) := by omega
  go_enter Ybad.func3, Ybad.ntmps3
  go_wp2_with fail
  go_ret
  exact ⟨rfl, Below.refl _ _⟩

set_option maxHeartbeats 2000000 in
set_option maxRecDepth 100000 in
theorem law_main (first1 v1 : Int) (a1 : Option Addr) (c1 : Nat) (L1 : List Ab) (e1 : Bool) (first2 v2 : Int) (a2 : Option Addr) (c2 : Nat) (L2 : List Ab) (e2 : Bool) (skip g1 o1 g2 o2 : Nat) (w : World)
    (f1 : -9223372036854775808 ≤ first1) (f2 : first1 ≤ 9223372036854775807) (x1 : -32768 ≤ v1) (x2 : v1 < 32768) (f3 : -9223372036854775808 ≤ first2) (f4 : first2 ≤ 9223372036854775807) (x3 : -32768 ≤ v2) (x4 : v2 < 32768) (hsk : skip ≤ 65535)
    (s1 : ∀ p ∈ L1, Small p) (s2 : ∀ p ∈ L2, Small p) (t1 : Steps w a1 L1) (t2 : Steps w a2 L2) (hg : GlB w w.heap.size g1 o1 g2 o2) (hl1 : L1.length ≤ 1024) (hl2 : L2.length ≤ 1024) :
    Calls Ybad.prog 3 #[.int .i64 first1, .int .i16 v1, .slice a1 L1.length c1, .bool e1, .int .i64 first2, .int .i16 v2, .slice a2 L2.length c2, .bool e2, .int .u16 skip] w fun e w' => e = .returned (.bool true) ∧ Below w.heap.size w w' := by
  obtain ⟨i0, hi, hz0, hz1, hz2⟩ := point_info
  have HX1 := show Hid _ from chunk_one first1 v1 a1 c1 L1 e1 w x1 x2 hl1 s1 f1 f2 t1
  have HX2 : Hid (∀ w', Below w.heap.size w w' → Calls Ybad.prog 5 #[.int .i64 first2, .int .i16 v2, .slice a2 L2.length c2, .bool e2] w' _) := fun w' hb => chunk_one first2 v2 a2 c2 L2 e2 w' x3 x4 hl2 s2 f3 f4 (fun i h => by
    obtain ⟨b, o, k1, k2, k3, k4⟩ := t2 i h
    exact ⟨b, o, k1, Nat.lt_of_lt_of_le k2 hb.size, (hb.cell (p := ⟨b, o + i * 2, none⟩) k2).trans k3, (hb.cell (p := ⟨b, o + i * 2 + 1, none⟩) k2).trans k4⟩)
  have HG := show Hid _ from hg
  clear t1 t2 s1 s2 hg
  have hd1 : decide ((1024 : Int) < (L1.length : Int)) = false := decide_eq_false (by omega)
  have hd2 : decide ((1024 : Int) < (L2.length : Int)) = false := decide_eq_false (by omega)
  go_enter Ybad.func3, Ybad.ntmps3
  go_wp2_with fail
  refine Calls.mono HX1.out ?_
  rintro e wa ⟨sd1, ld1, cd1, sp1, P1, rfl, hr1, hb1⟩
  go_wp2_with fail
  refine Calls.mono (HX2.out wa hb1) ?_
  rintro e wb ⟨sd2, ld2, cd2, sp2, P2, rfl, hr2, hb2⟩
  have HB := show Hid (Below w.heap.size w wb) from hb1.trans (Below.less hb2 hb1.size)
  have HR1 := show Hid _ from hr1.below hb2
  have HR2 := show Hid _ from hr2
  obtain ⟨n1, hn1⟩ : ∃ n, P1.length = n := ⟨_, rfl⟩
  obtain ⟨n2, hn2⟩ : ∃ n, P2.length = n := ⟨_, rfl⟩
  have ln1 : n1 ≤ 1025 := hn1 ▸ hr1.le
  have ln2 : n2 ≤ 1025 := hn2 ▸ hr2.le
  rw [hn1, hn2]
  have HN1 := show Hid _ from hn1
  have HN2 := show Hid _ from hn2
  clear hn1 hn2 hr1 hr2 hb1 hb2 HX1 HX2
  obtain ⟨K, hK, hKle⟩ : ∃ K : Nat, Int.tmod (skip : Int) ((n1 : Int) + 1) = (K : Int) ∧ K ≤ n1 := by
    refine ⟨skip % (n1 + 1), ?_, ?_⟩
    · rw [Int.tmod_eq_emod_of_nonneg (by omega), show (n1 : Int) + 1 = ((n1 + 1 : Nat) : Int) by omega]
      exact (Int.natCast_emod _ _).symm
    · exact Nat.le_of_lt_succ (Nat.mod_lt skip (Nat.succ_pos n1))
  go_upto_region 7 with (first
    | (at_make; refine wpList_make_own _ rfl _ _ 26 rfl w.heap.size 42 i0 _ 2 Ybad.underlying26 hi hz0 hz1 _ _ _ (n1 + n2) rfl rfl (by omega) (by rw [hz2]; omega) (by simp [maxLen]; omega) (by have := HB.out.size; omega) ?_; intro w4 hown4 hgr4)
    | fail)
  have HBQ : Hid (Below wb.heap.size wb w4) := (Below.refl _ _).grown hgr4 (Nat.le_refl _) (by simp)
  have hQw : w.heap.size ≤ wb.heap.size := HB.out.size
  obtain ⟨Q0, hQ0⟩ : ∃ Q, wb.heap.size = Q := ⟨_, rfl⟩
  rw [hQ0] at hown4 ⊢
  have HQ0 := show Hid _ from hQ0
  clear hgr4 hQ0
  go_cut [24] from 52 to 103 (fun v24 wx => v24 = .slice (some ⟨Q0, 0, none⟩) (n1 - K) (n1 + n2) ∧ wx.ownsRow w.heap.size 42 2 (.slice (some ⟨Q0, 0, none⟩) (n1 - K) (n1 + n2)) (n1 - K) (ptCells (P1.drop K)) ∧ Below Q0 wb wx)
  case first =>
    rcases HR1.out.row with ⟨rfl, rfl⟩ | ⟨R, rfl, hRl, hRc⟩
    · have hkc : (K : Int) ≤ (n1 : Int) := by omega
      go_wp2_with (at_builtin; refine wpList_append_fits_any _ rfl (.tmp 64) (.tmp 67) 26 rfl w.heap.size 42 i0 2 Ybad.underlying26 hi hz1 Q0 0 (n1 + n2) [] rfl hown4 _ (n1 - K) (n1 - K) (ptCells (([] : List (Int × Int)).drop K)) rfl ?c1 ?c2 ?c3 ?c4 (by omega) ?_)
      case c1 =>
        have : n1 = 0 := HN1.out.symm
        rw [ptC_length, List.length_drop, HN1.out]
      case c2 =>
        have : n1 = 0 := HN1.out.symm
        omega
      case c3 => intro ad _ j u hu; simp [ptCells] at hu
      case c4 => exact ptC_one _
      intro w5 hown5 hgr5
      go_wp2_with fail
      go_meet
      refine ⟨rfl, by rw [List.drop_nil]; exact hown5, ?_⟩
      rw [← HQ0.out]
      exact HBQ.out.grown hgr5 (by rw [HQ0.out]; exact Nat.le_of_lt (hown4.lt Q0 rfl).2) (fun k hk => by cases hk; rw [HQ0.out]; exact Nat.le_refl _)
    · rcases Nat.lt_or_ge K n1 with hlt | hge
      · have hne : ¬ n1 = K := by omega
        go_wp2_with (at_builtin; refine wpList_append_fits_any _ rfl (.tmp 64) (.tmp 67) 26 rfl w.heap.size 42 i0 2 Ybad.underlying26 hi hz1 Q0 0 (n1 + n2) [] rfl hown4 _ (n1 - K) (n1 - K) (ptCells (P1.drop K)) rfl ?c1 ?c2 ?c3 ?c4 (by omega) ?_)
        case c1 => rw [ptC_length, List.length_drop, HN1.out]
        case c2 => intro h; cases h
        case c3 =>
          rintro ad had j u hu
          cases had
          rw [Addr.add_lit, HBQ.out.cell (p := ⟨R, K * 2 + j, none⟩) hRl]
          refine hRc _ u ?_
          rw [ptC_drop, List.getElem?_drop] at hu
          exact hu
        case c4 => exact ptC_one _
        intro w5 hown5 hgr5
        go_wp2_with fail
        go_meet
        refine ⟨rfl, hown5, ?_⟩
        rw [← HQ0.out]
        exact HBQ.out.grown hgr5 (by rw [HQ0.out]; exact Nat.le_of_lt (hown4.lt Q0 rfl).2) (fun k hk => by cases hk; rw [HQ0.out]; exact Nat.le_refl _)
      · obtain rfl : K = n1 := by omega
        go_wp2_with (at_builtin; refine wpList_append_fits_any _ rfl (.tmp 64) (.tmp 67) 26 rfl w.heap.size 42 i0 2 Ybad.underlying26 hi hz1 Q0 0 (K + n2) [] rfl hown4 _ 0 0 [] rfl rfl ?c2 ?c3 ?c4 (by omega) ?_)
        case c3 => intro ad _ j u hu; simp at hu
        case c4 => intro u hu; cases hu
        intro w5 hown5 hgr5
        go_wp2_with fail
        go_meet
        have hdn : P1.drop K = [] := List.drop_eq_nil_of_le (Nat.le_of_eq HN1.out)
        refine ⟨by rw [Nat.sub_self], by rw [Nat.sub_self, hdn]; exact hown5, ?_⟩
        rw [← HQ0.out]
        exact HBQ.out.grown hgr5 (by rw [HQ0.out]; exact Nat.le_of_lt (hown4.lt Q0 rfl).2) (fun k hk => by cases hk; rw [HQ0.out]; exact Nat.le_refl _)
  case rest =>
  obtain ⟨rfl, hown5, hb5⟩ := hcut
  clear hown4
  have hQc : Q0 < wc.heap.size := (hown5.lt Q0 rfl).2
  have HB5 := show Hid (Below wb.heap.size wb wc) by rw [HQ0.out]; exact hb5
  clear hb5
  have HR2c := show Hid _ from HR2.out.row.below HB5.out
  go_upto_region 8 with fail
  go_wp2_with (at_builtin; refine wpList_append_fits_any _ rfl (.tmp 69) (.tmp 70) 26 rfl w.heap.size 42 i0 2 Ybad.underlying26 hi hz1 Q0 (n1 - K) (n1 + n2) _ rfl hown5 sp2 n2 n2 (ptCells P2) rfl ?d1 ?d2 ?d3 ?d4 ?d5 ?_)
  case d1 => rw [ptC_length, HN2.out]
  case d2 =>
    intro hsp
    rcases HR2c.out with ⟨_, hP⟩ | ⟨R, hR, _⟩
    · have : n2 = 0 := by rw [← HN2.out, hP]; rfl
      exact ⟨this, this⟩
    · rw [hsp] at hR; cases hR
  case d3 =>
    intro ad had j u hu
    rcases HR2c.out with ⟨hP, _⟩ | ⟨R, hR, _, hc⟩
    · rw [hP] at had; cases had
    · rw [hR] at had
      cases had
      rw [Addr.add_lit, Nat.zero_add]
      exact hc j u hu
  case d4 => exact ptC_one _
  case d5 => omega
  intro w6 hown6 hgr6
  have HB6 : Hid (Below wb.heap.size wb w6) := HB5.out.grown hgr6 (by rw [HQ0.out]; exact Nat.le_of_lt hQc) (fun k hk => by cases hk; rw [HQ0.out]; exact Nat.le_refl _)
  obtain ⟨N, hN⟩ : ∃ N, n1 - K + n2 = N := ⟨_, rfl⟩
  have hN2 : N ≤ 2050 := by omega
  rw [hN] at hown6 ⊢
  rw [← ptCells_append] at hown6
  have hQ6 : Q0 < w6.heap.size := (hown6.lt Q0 rfl).2
  have HN := show Hid _ from hN
  clear hown5 hgr6 hQc HB5 HR2c hN
  have HD := show Hid _ from dec_here w w6 first1 first2 sd1 sp1 sd2 sp2 ld1 cd1 ld2 cd2 n1 n2 K N g1 o1 g2 o2 P1 P2 (HB.out.trans (Below.less HB6.out hQw)) HG.out (HR1.out.below HB6.out) (HR2.out.below HB6.out) HN1.out HN2.out hKle HN.out _ rfl
  go_wp2_with fail
  refine Calls.mono HD.out ?_
  rintro e wd ⟨rfl, R, h3, h4, hcR, hbd⟩
  have hcQ : ∀ j u, (ptCells (P1.drop K ++ P2))[j]? = some u → wd.cell? ⟨Q0, j, none⟩ = some u := by
    intro j u hu
    have hj : j < N * 2 := by
      have := (List.getElem?_eq_some_iff.1 hu).1
      rw [hown6.1] at this
      exact this
    rw [hbd.cell (p := ⟨Q0, j, none⟩) hQ6, hown6.cellAt j hj]
    exact hu
  have HCR := show Hid _ from hcR
  have HCQ := show Hid _ from hcQ
  have HBD := show Hid (Below w.heap.size w wd) from (HB.out.trans (Below.less HB6.out hQw)).trans (Below.less hbd (Nat.le_trans hQw HB6.out.size))
  obtain ⟨z, hz⟩ : ∃ z, w6.heap.size + 1 + 1 = z := ⟨_, rfl⟩
  rw [hz] at h3 h4 ⊢
  clear hz hcR hcQ hbd hown6 hQ6 HD
  go_wp2_with fail
  have hzl : z < wd.heap.size := World.block_lt_of_cell? wd ⟨z, 3, none⟩ h3
  obtain ⟨PP, hPP⟩ : ∃ PP, P1.drop K ++ P2 = PP := ⟨_, rfl⟩
  have hPN : PP.length = N := by rw [← hPP, List.length_append, List.length_drop, HN1.out, HN2.out, HN.out]
  have hPs : ∀ q ∈ PP, q.2.natAbs ≤ 2147483648 := by
    intro q hq
    rw [← hPP, List.mem_append] at hq
    rcases hq with hq | hq
    · exact HR1.out.small q (List.mem_of_mem_drop hq)
    · exact HR2.out.small q hq
  rw [hPP] at HCR HCQ
  have HPN := show Hid _ from hPN
  have HPS := show Hid _ from hPs
  have H3 := show Hid _ from h3
  clear hPP hPN hPs h3 h4 hi hz0 hz1 hz2 HN1 HN2 HN HR1 HR2 HB HB6 HG HQ0 hQw hK
  go_loopg [27] N (fun g a27 wr => ∃ i, i ≤ N ∧ g = N - i ∧ a27 = .int .i64 i ∧ Below wd.heap.size wd wr)
  case atStart => exact ⟨0, by omega, by omega, rfl, Below.refl _ _⟩
  case round =>
    obtain ⟨i, hi, rfl, rfl, hb⟩ := hrel
    by_cases hin : i < N
    · have hip : i < PP.length := by rw [HPN.out]; exact hin
      obtain ⟨q, hq⟩ : ∃ q, PP[i] = q := ⟨_, rfl⟩
      have hat := ptC_at PP i hip
      have hqs := HPS.out q (by rw [← hq]; exact List.getElem_mem hip)
      rw [hq] at hat
      have k0 := HCR.out _ _ hat.1
      have k1 := HCR.out _ _ hat.2
      have k2 := HCQ.out _ _ hat.1
      have k3 := HCQ.out _ _ hat.2
      have hRl := World.block_lt_of_cell? wd ⟨R, i * 2, none⟩ k0
      have hQl := World.block_lt_of_cell? wd ⟨Q0, i * 2, none⟩ k2
      have r0 := (hb.cell (p := ⟨R, i * 2, none⟩) hRl).trans k0
      have r1 := (hb.cell (p := ⟨R, i * 2 + 1, none⟩) hRl).trans k1
      have r2 := (hb.cell (p := ⟨Q0, i * 2, none⟩) hQl).trans k2
      have r3 := (hb.cell (p := ⟨Q0, i * 2 + 1, none⟩) hQl).trans k3
      have h3 := (hb.cell (p := ⟨z, 3, none⟩) hzl).trans H3.out
      have hord := Flt.order_F q.2 (by omega)
      clear k0 k1 k2 k3 hRl hQl hat hq
      go_wp2_with fail
      go_quiet (fail)
      have hbn : Below wd.heap.size wd (wr.drewN nq) := ⟨hb.os, hb.tape, hb.output, hb.size, hb.block⟩
      go_wp2_with fail
      go_roundg (N - (i + 1))
      case measure => omega
      case rel => exact ⟨i + 1, by omega, rfl, rfl, hbn⟩
    · obtain rfl : i = N := by omega
      have hz : decide ((i : Int) < (i : Int)) = false := by simp
      go_wp2_with fail
      go_ret
      exact ⟨rfl, HBD.out.trans (Below.less hb HBD.out.size)⟩
theorem law_any (first1 v1 : Int) (a1 : Option Addr) (c1 : Nat) (L1 : List Ab) (e1 : Bool) (first2 v2 : Int) (a2 : Option Addr) (c2 : Nat) (L2 : List Ab) (e2 : Bool) (skip : Int) (g1 o1 g2 o2 : Nat) (w : World)
    (f1 : -9223372036854775808 ≤ first1) (f2 : first1 ≤ 9223372036854775807) (x1 : -32768 ≤ v1) (x2 : v1 ≤ 32767) (f3 : -9223372036854775808 ≤ first2) (f4 : first2 ≤ 9223372036854775807) (x3 : -32768 ≤ v2) (x4 : v2 ≤ 32767) (k1 : 0 ≤ skip) (k2 : skip ≤ 65535)
    (s1 : ∀ p ∈ L1, Small p) (s2 : ∀ p ∈ L2, Small p) (t1 : Steps w a1 L1) (t2 : Steps w a2 L2) (hg : GlB w w.heap.size g1 o1 g2 o2) :
    Calls Ybad.prog 3 #[.int .i64 first1, .int .i16 v1, .slice a1 L1.length c1, .bool e1, .int .i64 first2, .int .i16 v2, .slice a2 L2.length c2, .bool e2, .int .u16 skip] w fun e w' => e = .returned (.bool true) ∧ Below w.heap.size w w' := by
  by_cases hl1 : L1.length ≤ 1024
  · by_cases hl2 : L2.length ≤ 1024
    · obtain ⟨sk, rfl⟩ : ∃ s : Nat, skip = (s : Int) := ⟨skip.toNat, by omega⟩
      exact law_main first1 v1 a1 c1 L1 e1 first2 v2 a2 c2 L2 e2 sk g1 o1 g2 o2 w f1 f2 x1 (by omega) f3 f4 x3 (by omega) (by omega) s1 s2 t1 t2 hg hl1 hl2
    · exact law_long2 first1 v1 a1 L1.length c1 e1 first2 v2 a2 L2.length c2 e2 skip w hl1 (by omega)
  · exact law_long first1 v1 a1 L1.length c1 e1 first2 v2 a2 L2.length c2 e2 skip w (by omega)
end Go.Proofs.YbulkxgcDoor.Dc
