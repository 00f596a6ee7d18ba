import Derived.Test.YbulkxgcDoorNext70
import Derived.Test.YbulkxgcDoorNext78
import Derived.Test.YbulkxgcDoorNextZ
namespace Go.Proofs.YbulkxgcDoor.Dc
open Go.RowKit
open _root_.Go.Proofs.YbulkxgcDoor.Bt
open _root_.Go.Proofs.YbulkxgcDoor.Flt

/-- a step: DT, DV -/
abbrev Ab := Int × Int
/-- eight bits, signed -/
def Small (p : Ab) : Prop := -128 ≤ p.1 ∧ p.1 < 128 ∧ -128 ≤ p.2 ∧ p.2 < 128

def timeBits (a : Int) : List Bool := if a / 2 = 0 then bitsOf 0 1 else bitsOf 2 2 ++ bitsOf (a / 2 % 128).toNat 7
def valBits (b : Int) : List Bool := if b = 0 then bitsOf 0 1 else bitsOf 6 3 ++ bitsOf (b % 256).toNat 8
def stepBits (p : Ab) : List Bool := timeBits p.1 ++ valBits p.2

/-- the coder's numbers -/
structure Sn where
  t : Int
  step : Int
  m : Int
  dm : Int
def nxt (s : Sn) (p : Ab) : Sn :=
  let step := IntKind.u64.wrap (s.step + IntKind.u64.wrap (p.1 / 2))
  let dm := wrap64 (s.dm + p.2)
  ⟨IntKind.u64.wrap (s.t + step), step, wrap64 (s.m + dm), dm⟩

/-- n steps are still to come -/
def Good (s : Sn) (n : Nat) : Prop := n ≤ 1024 ∧ 0 ≤ s.step ∧ s.step < 18446744073709551616 ∧ s.dm.natAbs ≤ 128 * (1024 - n) ∧ s.m.natAbs ≤ 32768 + 131072 * (1024 - n)

theorem Good.next {s : Sn} {n : Nat} (h : Good s (n + 1)) (p : Ab) (hp : Small p) : Good (nxt s p) n ∧ (nxt s p).m.natAbs ≤ 2147483648 := by
  obtain ⟨h1, h2, h3, h4, h5⟩ := h
  obtain ⟨p1, p2, p3, p4⟩ := hp
  have ed : (nxt s p).dm = s.dm + p.2 := by
    show wrap64 (s.dm + p.2) = _
    unfold wrap64; omega
  have em : (nxt s p).m = s.m + (nxt s p).dm := by
    show wrap64 (s.m + wrap64 (s.dm + p.2)) = _
    have : wrap64 (s.dm + p.2) = s.dm + p.2 := ed
    rw [this, ed]
    unfold wrap64; omega
  have es : (nxt s p).step = IntKind.u64.wrap (s.step + IntKind.u64.wrap (p.1 / 2)) := rfl
  have hw : 0 ≤ (nxt s p).step ∧ (nxt s p).step < 18446744073709551616 := by
    rw [es, IntKind.wrap_u64, IntKind.wrap_u64]; omega
  refine ⟨⟨by omega, hw.1, hw.2, by rw [ed]; omega, by rw [em, ed]; omega⟩, by rw [em, ed]; omega⟩

/-- the points that the steps stand for -/
def ptsOf (s : Sn) : List Ab → List (Int × Int)
  | [] => []
  | p :: l => (IntKind.i64.wrap (nxt s p).t, (nxt s p).m) :: ptsOf (nxt s p) l
def bitsAll (l : List Ab) : List Bool := l.flatMap stepBits

theorem ptsOf_length (l : List Ab) : ∀ s, (ptsOf s l).length = l.length := by
  induction l with
  | nil => intro s; rfl
  | cons p l ih => intro s; simp [ptsOf, ih]

theorem sx7_small {a : Int} (h1 : -128 ≤ a) (h2 : a < 128) : sx7 (a / 2 % 128).toNat = a / 2 := by
  unfold sx7; split <;> omega
theorem sx8_small {b : Int} (h1 : -128 ≤ b) (h2 : b < 128) : sx8 (b % 256).toNat = b := by
  unfold sx8; split <;> omega

theorem next_any (bc g nb cap : Nat) (bs : List Bool) (vr : Value) (kk : Int) (off left : Nat) (s : Sn) (cl : Nat) (w : World) (h : Ds w bc g nb cap bs vr kk off (left + 1) s.t s.step s.m s.dm false cl)
    (hl : left ≤ 100000) (p : Ab) (hp : Small p) (n : Nat) (hG : Good s (n + 1)) (rest : List Bool) (hb : bs.drop off = stepBits p ++ rest)
    (g1 o1 g2 o2 : Nat) (hg : Gl bc w g1 o1 g2 o2) :
    Calls Ybad.prog 12 #[.pointer (some ⟨bc, 3, none⟩)] w fun e w' => e = .returned (pt (IntKind.i64.wrap (nxt s p).t) (nxt s p).m) ∧ Ds w' bc g nb cap bs vr kk (off + (stepBits p).length) left (nxt s p).t (nxt s p).step (nxt s p).m (nxt s p).dm false cl ∧ Kp bc w w' := by
  have hm := (hG.next p hp).2
  obtain ⟨h1, h2, h3, h4, h5⟩ := hG
  have hp' := hp
  obtain ⟨p1, p2, p3, p4⟩ := hp'
  have es0 : p.1 / 2 = 0 → (nxt s p).step = s.step := fun h0 => by
    show IntKind.u64.wrap (s.step + IntKind.u64.wrap (p.1 / 2)) = _
    rw [h0, IntKind.wrap_u64, IntKind.wrap_u64]; omega
  have et0 : (nxt s p).t = IntKind.u64.wrap (s.t + (nxt s p).step) := rfl
  have ed0 : p.2 = 0 → (nxt s p).dm = s.dm := fun h0 => by
    show wrap64 (s.dm + p.2) = _
    rw [h0]; unfold wrap64; omega
  have em0 : (nxt s p).m = wrap64 (s.m + (nxt s p).dm) := rfl
  by_cases ha : p.1 / 2 = 0 <;> by_cases hv : p.2 = 0
  · have hb' : bs.drop off = bitsOf 0 1 ++ (bitsOf 0 1 ++ rest) := by rw [hb]; unfold stepBits timeBits valBits; rw [if_pos ha, if_pos hv, List.append_assoc]
    have hlen : (stepBits p).length = 2 := by unfold stepBits timeBits valBits; rw [if_pos ha, if_pos hv, List.length_append, bitsOf_length]
    have c := next_zz bc g nb cap bs vr kk off left s.t s.step s.m s.dm cl w h hl rest hb' (by rw [← ed0 hv, ← em0]; exact hm) g1 o1 g2 o2 hg
    rw [hlen, em0, et0, es0 ha, ed0 hv]
    exact c
  · have hb' : bs.drop off = bitsOf 0 1 ++ (bitsOf 6 3 ++ (bitsOf (p.2 % 256).toNat 8 ++ rest)) := by rw [hb]; unfold stepBits timeBits valBits; rw [if_pos ha, if_neg hv]; simp only [List.append_assoc]
    have hlen : (stepBits p).length = 12 := by unfold stepBits timeBits valBits; rw [if_pos ha, if_neg hv]; simp only [List.length_append, bitsOf_length]
    have e8 := sx8_small p3 p4
    have edm : (nxt s p).dm = wrap64 (s.dm + sx8 (p.2 % 256).toNat) := by rw [e8]; rfl
    have c := next_08 bc g nb cap bs vr kk off left s.t s.step s.m s.dm cl w h hl (p.2 % 256).toNat (by omega) rest hb' (by rw [← edm, ← em0]; exact hm) g1 o1 g2 o2 hg
    rw [← edm] at c
    rw [hlen, em0, et0, es0 ha]
    exact c
  · have hb' : bs.drop off = bitsOf 2 2 ++ (bitsOf (p.1 / 2 % 128).toNat 7 ++ (bitsOf 0 1 ++ rest)) := by rw [hb]; unfold stepBits timeBits valBits; rw [if_neg ha, if_pos hv]; simp only [List.append_assoc]
    have hlen : (stepBits p).length = 10 := by unfold stepBits timeBits valBits; rw [if_neg ha, if_pos hv]; simp only [List.length_append, bitsOf_length]
    have e7 := sx7_small p1 p2
    have est : (nxt s p).step = IntKind.u64.wrap (s.step + IntKind.u64.wrap (sx7 (p.1 / 2 % 128).toNat)) := by rw [e7]; rfl
    have c := next_70 bc g nb cap bs vr kk off left s.t s.step s.m s.dm cl w h hl (p.1 / 2 % 128).toNat (by omega) rest hb' (by rw [← ed0 hv, ← em0]; exact hm) g1 o1 g2 o2 hg
    rw [← est] at c
    rw [hlen, em0, et0, ed0 hv]
    exact c
  · have hb' : bs.drop off = bitsOf 2 2 ++ (bitsOf (p.1 / 2 % 128).toNat 7 ++ (bitsOf 6 3 ++ (bitsOf (p.2 % 256).toNat 8 ++ rest))) := by rw [hb]; unfold stepBits timeBits valBits; rw [if_neg ha, if_neg hv]; simp only [List.append_assoc]
    have hlen : (stepBits p).length = 20 := by unfold stepBits timeBits valBits; rw [if_neg ha, if_neg hv]; simp only [List.length_append, bitsOf_length]
    have e7 := sx7_small p1 p2
    have e8 := sx8_small p3 p4
    have est : (nxt s p).step = IntKind.u64.wrap (s.step + IntKind.u64.wrap (sx7 (p.1 / 2 % 128).toNat)) := by rw [e7]; rfl
    have edm : (nxt s p).dm = wrap64 (s.dm + sx8 (p.2 % 256).toNat) := by rw [e8]; rfl
    have c := next_78 bc g nb cap bs vr kk off left s.t s.step s.m s.dm cl w h hl (p.1 / 2 % 128).toNat (by omega) (p.2 % 256).toNat (by omega) rest hb' (by rw [← edm, ← em0]; exact hm) g1 o1 g2 o2 hg
    rw [← est, ← edm] at c
    rw [hlen, em0, et0]
    exact c

/-- where the decoder stands: what is still to come -/
def Plan (bs : List Bool) (off : Nat) (s : Sn) (first : Bool) (pts : List (Int × Int)) : Prop :=
  (first = true ∧ ∃ z l, z < 65536 ∧ (∀ p ∈ l, Small p) ∧ l.length ≤ 1024 ∧ s.step = 0 ∧ bs.drop off = bitsOf 0 5 ++ (bitsOf 16 6 ++ (bitsOf z 16 ++ bitsAll l)) ∧ pts = (IntKind.i64.wrap s.t, unz z) :: ptsOf ⟨s.t, 0, unz z, 0⟩ l) ∨
  (first = false ∧ ∃ l, (∀ p ∈ l, Small p) ∧ Good s l.length ∧ bs.drop off = bitsAll l ∧ pts = ptsOf s l)

theorem unz_le {z : Nat} (h : z < 65536) : (unz z).natAbs ≤ 32768 := by unfold unz; split <;> omega

theorem plan_next (bc g nb cap : Nat) (bs : List Bool) (vr : Value) (kk : Int) (off : Nat) (s : Sn) (first : Bool) (cl : Nat) (w : World) (p : Int × Int) (pts : List (Int × Int))
    (h : Ds w bc g nb cap bs vr kk off (p :: pts).length s.t s.step s.m s.dm first cl) (hp : Plan bs off s first (p :: pts)) (g1 o1 g2 o2 : Nat) (hg : Gl bc w g1 o1 g2 o2) :
    Calls Ybad.prog 12 #[.pointer (some ⟨bc, 3, none⟩)] w fun e w' => e = .returned (pt p.1 p.2) ∧ (∃ off' s', Ds w' bc g nb cap bs vr kk off' pts.length s'.t s'.step s'.m s'.dm false cl ∧ Plan bs off' s' false pts) ∧ Kp bc w w' := by
  rcases hp with ⟨rfl, z, l, hz, hsm, hl, hs0, hb, he⟩ | ⟨rfl, l, hsm, hG, hb, he⟩
  · obtain ⟨rfl, rfl⟩ := List.cons.inj he
    rw [List.length_cons, ptsOf_length] at h
    refine Calls.mono (next_first bc g nb cap bs vr kk off l.length s.t s.step s.m s.dm cl w h (by omega) z _ hz hb g1 o1 g2 o2 hg) ?_
    rintro e w' ⟨rfl, hd, hk⟩
    refine ⟨rfl, ⟨off + 27, ⟨s.t, 0, unz z, 0⟩, ?_, .inr ⟨rfl, l, hsm, ⟨hl, by show (0 : Int) ≤ 0; omega, by show (0 : Int) < 18446744073709551616; omega, by simp, ?_⟩, ?_, rfl⟩⟩, hk⟩
    · rw [ptsOf_length]; rw [hs0] at hd; exact hd
    · have := unz_le hz; show (unz z).natAbs ≤ _; omega
    · have h1 := drop_next (xs := bitsOf 0 5) hb
      have h2 := drop_next (xs := bitsOf 16 6) h1
      have h3 := drop_next (xs := bitsOf z 16) h2
      rw [bitsOf_length, bitsOf_length, bitsOf_length] at h3
      exact h3
  · cases l with
    | nil => exact absurd he (by simp [ptsOf])
    | cons q l =>
      obtain ⟨rfl, rfl⟩ := List.cons.inj he
      rw [List.length_cons, ptsOf_length] at h
      have hq := hsm q (by simp)
      have hl := hG.1
      rw [List.length_cons] at hl hG
      refine Calls.mono (next_any bc g nb cap bs vr kk off l.length s cl w h (by omega) q hq l.length hG (bitsAll l) (by rw [hb]; rfl) g1 o1 g2 o2 hg) ?_
      rintro e w' ⟨rfl, hd, hk⟩
      refine ⟨rfl, ⟨off + (stepBits q).length, nxt s q, ?_, .inr ⟨rfl, l, fun p hp => hsm p (by simp [hp]), (hG.next q hq).1, drop_next (xs := stepBits q) (by rw [hb]; rfl), rfl⟩⟩, hk⟩
      rw [ptsOf_length]; exact hd
end Go.Proofs.YbulkxgcDoor.Dc
