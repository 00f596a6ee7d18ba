import Derived.Test.YbulkxgcDoorNewC
namespace Go.Proofs.YbulkxgcDoor.Dc
open Go.RowKit
open _root_.Go.Proofs.YbulkxgcDoor.Bt

/-- a cursor that has the points rem to come, all told -/
def CurSt (w : World) (B bc br : Nat) (P2 rem : List (Int × Int)) : Prop :=
  (∃ pts, rem = pts ++ P2 ∧ Cs w B bc (.pointer (some ⟨br, 0, none⟩)) 0 rem.length pts) ∨ Cs w B bc (.pointer (some ⟨br, 0, none⟩)) 1 rem.length rem

theorem CurSt.same {w w' : World} {B bc br : Nat} {P2 rem : List (Int × Int)} (h : CurSt w B bc br P2 rem) (hb : Below B w w') (he : w'.heap[bc]? = w.heap[bc]?) : CurSt w' B bc br P2 rem := by
  rcases h with ⟨pts, h1, h2⟩ | h
  · exact .inl ⟨pts, h1, h2.same hb he⟩
  · exact .inr (h.same hb he)
theorem CurSt.lt {w : World} {B bc br : Nat} {P2 rem : List (Int × Int)} (h : CurSt w B bc br P2 rem) : bc < w.heap.size := by
  rcases h with ⟨pts, _, h2⟩ | h
  · exact h2.lt
  · exact h.lt

/-- what 'next' hands back: the next point, or nothing -/
def Nx (w' : World) (B bc br : Nat) (P2 rem : List (Int × Int)) (a : Int) (b : Nat) (ok : Bool) : Prop :=
  (ok = false ∧ rem = []) ∨ (ok = true ∧ ∃ p r, rem = p :: r ∧ a = p.1 ∧ b = Flt.F p.2 ∧ CurSt w' B bc br P2 r)
theorem Nx.same {w w' : World} {B bc br : Nat} {P2 rem : List (Int × Int)} {a : Int} {b : Nat} {ok : Bool} (h : Nx w B bc br P2 rem a b ok) (hb : Below B w w') (he : w'.heap[bc]? = w.heap[bc]?) : Nx w' B bc br P2 rem a b ok := by
  rcases h with h | ⟨h1, p, r, h2, h3, h4, h5⟩
  · exact .inl h
  · exact .inr ⟨h1, p, r, h2, h3, h4, h5.same hb he⟩

theorem cnext_any (B bc br bch skip n : Nat) (P1 P2 rem : List (Int × Int)) (w : World) (hr : rem.length ≤ 100000) (h : CurSt w B bc br P2 rem) (he : Env w B br bch skip n P1 P2) (g1 o1 g2 o2 : Nat) (hg : GlB w B g1 o1 g2 o2) :
    Calls Ybad.prog 10 #[.pointer (some ⟨bc, 0, none⟩)] w fun e w' => ∃ a b ok, e = .returned (.tuple #[.agg #[.int .i64 a, .float .f64 b], .bool ok]) ∧ Nx w' B bc br P2 rem a b ok ∧ Kp bc w w' := by
  cases rem with
  | nil =>
    have hc : ∃ kk pts, Cs w B bc (.pointer (some ⟨br, 0, none⟩)) kk 0 pts := by
      rcases h with ⟨pts, _, h2⟩ | h
      · exact ⟨_, _, h2⟩
      · exact ⟨_, _, h⟩
    obtain ⟨kk, pts, hc⟩ := hc
    refine Calls.mono (cnext_end B bc br kk pts w hc) ?_
    rintro e w' ⟨rfl, hb⟩
    exact ⟨0, 0, false, rfl, .inl ⟨rfl, rfl⟩, Kp.of_below hb⟩
  | cons p r =>
    rw [List.length_cons] at hr
    rcases h with ⟨pts, h1, h2⟩ | h
    · cases pts with
      | nil =>
        rw [List.nil_append] at h1
        subst h1
        refine Calls.mono (cnext_two B bc br bch skip n r.length (by omega) P1 p r w h2 he g1 o1 g2 o2 hg) ?_
        rintro e w' ⟨rfl, hc, hk⟩
        exact ⟨p.1, Flt.F p.2, true, rfl, .inr ⟨rfl, p, r, rfl, rfl, rfl, .inr hc⟩, hk⟩
      | cons q pts =>
        obtain ⟨rfl, rfl⟩ := List.cons.inj h1
        refine Calls.mono (cnext_same B bc br 0 (pts ++ P2).length (Nat.le_of_succ_le hr) p pts w h2 g1 o1 g2 o2 hg) ?_
        rintro e w' ⟨rfl, hc, hk⟩
        exact ⟨p.1, Flt.F p.2, true, rfl, .inr ⟨rfl, p, _, rfl, rfl, rfl, .inl ⟨pts, rfl, hc⟩⟩, hk⟩
    · refine Calls.mono (cnext_same B bc br 1 r.length (by omega) p r w h g1 o1 g2 o2 hg) ?_
      rintro e w' ⟨rfl, hc, hk⟩
      exact ⟨p.1, Flt.F p.2, true, rfl, .inr ⟨rfl, p, r, rfl, rfl, rfl, .inr hc⟩, hk⟩
end Go.Proofs.YbulkxgcDoor.Dc
