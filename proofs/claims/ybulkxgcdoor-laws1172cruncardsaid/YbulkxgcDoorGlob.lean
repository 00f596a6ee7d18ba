import Derived.Test.YbulkxgcDoorRows
import Derived.ProofKit
import Derived.LaidMore
import Derived.OpenShut
import Derived.Stop.Joined
namespace Go.Proofs.YbulkxgcDoor.Gb
open Go.ChangeShapes Go.WideShapes Go.ChangeAt Go.RowKit

theorem gTw : Ybad.prog.globalNamed (Rows.lawS1172CRunSpec.vars.getD 0 "") = some 1 := by kernel_rfl
theorem gVw : Ybad.prog.globalNamed (Rows.lawS1172CRunSpec.vars.getD 1 "") = some 2 := by kernel_rfl
theorem gPw : Ybad.prog.globalNamed (Rows.lawS1172CRunSpec.vars.getD 2 "") = some 3 := by kernel_rfl
theorem tTw : (Ybad.prog.globals[1]?).map (·.type) = some 72 := by kernel_rfl
theorem tVw : (Ybad.prog.globals[2]?).map (·.type) = some 72 := by kernel_rfl
theorem tPw : (Ybad.prog.globals[3]?).map (·.type) = some 78 := by kernel_rfl
theorem cells3 : Ybad.prog.cellsOf 3 = 1 := by kernel_rfl
theorem cells40 : Ybad.prog.cellsOf 40 = 1 := by kernel_rfl
theorem cells78 : Ybad.prog.cellsOf 78 = 23 := by kernel_rfl

/-- the list of the row -/
abbrev laid3 : List (String × DataW Unit) := Rows.lawS1172CRunRow.laid

/-- a slice of integers with no spare cells -/
theorem row_of {W : World} {fuel : Nat} {cs : Array Value} {p : List MemPlace} {zs : List Int} (i : Nat) (hi : i < zs.length) (hd : DataW.trod (fun _ => ()) Ybad.prog W 0 (fun _ => true) false fuel 72 cs.toList = some (.slice (zs.map fun z => .lit (.int .i64 z)) [], p)) :
    ∃ g o, cs[0]? = some (.slice (some ⟨g, o, none⟩) zs.length zs.length) ∧ W.cell? ⟨g, o + i, none⟩ = some (.int .i64 (zs.getD i 0)) := by
  rcases open_ints Ybad.underlying72 Ybad.underlying3 cells3 hd with ⟨_, hx⟩ | ⟨a, len, cap, ys, hcs, _, hl, _, hz, hx, hcell, _⟩
  · cases hx
  · simp only [if_true] at hz
    simp only [Prod.mk.injEq, DataW.slice.injEq] at hx
    obtain ⟨⟨hx1, hx2⟩, _⟩ := hx
    have hlc : ys.drop len = [] := by
      have := congrArg List.length hx2
      simp [lits] at this
      exact List.drop_eq_nil_of_le (by omega)
    have hle : ys.length ≤ len := by simpa using hlc
    have hcl : cap = len := by omega
    have htk : ys.take len = ys := List.take_of_length_le hle
    rw [htk] at hx1
    have hyz : zs = ys := by
      have hinj : ∀ a b : List Int, (a.map fun z => (DataW.lit (.int .i64 z) : DataW Unit)) = lits .i64 b → a = b := by
        intro a
        induction a with
        | nil => intro b h; cases b <;> simp [lits] at h ⊢
        | cons x a ih =>
          intro b h
          cases b with
          | nil => simp [lits] at h
          | cons y b =>
            simp [lits] at h
            rw [h.1, ih b (by simpa [lits] using h.2)]
      exact hinj _ _ hx1
    subst hyz
    subst hcl
    obtain ⟨g, o, spot⟩ := a
    have c0 := hcell i hi
    have hspot : spot = none := by simpa [Addr.add] using World.cell?_spot (hcell 0 (by omega))
    subst hspot
    refine ⟨g, o, ?_, by simpa [Addr.add_lit] using c0⟩
    rw [← Array.getElem?_toList, hcs, hz]
    rfl

theorem float_of_trod {W : World} {fuel : Nat} {cs : List Value} {p : List MemPlace} {n : Nat} (h : DataW.trod (fun _ => ()) Ybad.prog W 0 (fun _ => true) false fuel 40 cs = some (.lit (.float .f64 n), p)) : cs = [.float .f64 n] := by
  cases fuel with
  | zero => simp [DataW.trod] at h
  | succ fuel =>
    match cs, h with
    | [c], h =>
      cases c <;> simp [DataW.trod, Ybad.underlying40] at h
      simp_all
    | [], h => simp [DataW.trod, Ybad.underlying40] at h
    | _ :: _ :: _, h => simp [DataW.trod, Ybad.underlying40] at h

/-- WHAT THE CONDITION GIVES THE WALKS -/
theorem of_laid {W : World} (h : laidMetH Ybad.prog laid3 W) : ∃ g1 o1 g2 o2, W.cell? ⟨1, 0, none⟩ = some (.slice (some ⟨g1, o1, none⟩) 5 5) ∧ W.cell? ⟨g1, o1 + 1, none⟩ = some (.int .i64 7) ∧
    W.cell? ⟨2, 0, none⟩ = some (.slice (some ⟨g2, o2, none⟩) 9 9) ∧ W.cell? ⟨g2, o2 + 2, none⟩ = some (.int .i64 8) ∧ W.cell? ⟨3, 0, none⟩ = some (.float .f64 4607182418800017408) := by
  rw [MakeChecks.laidMetH_plain _ _ _ (by kernel_rfl)] at h
  obtain ⟨ps, ⟨g3, t3, cs3, f3, p3, q3, hg3, ht3, hv3, hd3, ⟨g1, t1, cs1, f1, p1, q1, hg1, ht1, hv1, hd1, ⟨g2, t2, cs2, f2, p2, q2, hg2, ht2, hv2, hd2, _, _⟩, _⟩, _⟩, _, _⟩ := h
  obtain rfl := Option.some.inj (gPw.symm.trans hg3)
  obtain rfl := Option.some.inj (gTw.symm.trans hg1)
  obtain rfl := Option.some.inj (gVw.symm.trans hg2)
  obtain rfl := Option.some.inj (tPw.symm.trans ht3)
  obtain rfl := Option.some.inj (tTw.symm.trans ht1)
  obtain rfl := Option.some.inj (tVw.symm.trans ht2)
  obtain ⟨b1, o1, e1, e2⟩ := row_of (zs := [0, 7, 12, 20, 64]) 1 (by decide) hd1
  obtain ⟨b2, o2, e3, e4⟩ := row_of (zs := [0, 4, 8, 12, 16, 24, 32, 64, -1]) 2 (by decide) hd2
  refine ⟨b1, o1, b2, o2, (World.var?_cell hg1 hv1 0).trans e1, e2, (World.var?_cell hg2 hv2 0).trans e3, e4, (World.var?_cell hg3 hv3 0).trans ?_⟩
  obtain ⟨xs, m1, rfl, hx1, hlen, hn3, hel⟩ := DataW.trod_array Ybad.underlying78 hd3
  have h0 := hel 0 (by decide)
  rw [cells40] at h0
  simp only [Prod.mk.injEq] at hx1
  have hx0 : ∃ p, xs[0]? = some (.lit (.float .f64 4607182418800017408), p) := by
    have hh := hx1.1
    unfold Rows.laid_example_com_skeinwatch_skeinwatch_query_pow10 at hh
    have := congrArg (fun d => match d with | DataW.agg l => l[0]? | _ => none) hh
    simp only [List.getElem?_map] at this
    cases hx : xs[0]? with
    | none => rw [hx] at this; simp at this
    | some y =>
      rw [hx] at this
      simp at this
      exact ⟨y.2, by rw [this]⟩
  obtain ⟨p, hp⟩ := hx0
  rw [hp] at h0
  have := float_of_trod h0
  rw [← Array.getElem?_toList]
  simp only [Nat.zero_mul, List.drop_zero] at this
  have hc : (cs3.toList.take 1)[0]? = some (.float .f64 4607182418800017408) := by rw [this]; rfl
  rw [List.getElem?_take] at hc
  simpa using hc
end Go.Proofs.YbulkxgcDoor.Gb
