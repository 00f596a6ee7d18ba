import Derived.Test.YbulkxciYield
namespace Go.Proofs.Ybulkxci.Yields
open Go.RowKit

/-- the places of the first k providers that are yielded -/
def E (nd : Nat → Int) (keep : Int → Bool) (k : Nat) : List Nat := (List.range k).filter fun j => keep (nd j)

theorem E_zero (nd : Nat → Int) (keep : Int → Bool) : E nd keep 0 = [] := rfl
theorem E_keep (nd : Nat → Int) (keep : Int → Bool) (k : Nat) (h : keep (nd k) = true) : E nd keep (k + 1) = E nd keep k ++ [k] := by
  simp [E, List.range_succ, h]
theorem E_drop (nd : Nat → Int) (keep : Int → Bool) (k : Nat) (h : keep (nd k) = false) : E nd keep (k + 1) = E nd keep k := by
  simp [E, List.range_succ, h]
theorem E_len (nd : Nat → Int) (keep : Int → Bool) (k : Nat) : (E nd keep k).length ≤ k := by
  have := List.length_filter_le (fun j => keep (nd j)) (List.range k)
  simpa [E] using this
theorem E_prefix (nd : Nat → Int) (keep : Int → Bool) (k n : Nat) (h : k ≤ n) : E nd keep k <+: E nd keep n := by
  obtain ⟨d, rfl⟩ := Nat.exists_eq_add_of_le h
  induction d with
  | zero => exact List.prefix_refl _
  | succ d ih =>
    have ih := ih (by omega)
    rw [show k + (d + 1) = k + d + 1 from rfl]
    cases hk : keep (nd (k + d)) with
    | true => rw [E_keep nd keep _ hk]; exact ih.trans (List.prefix_append _ _)
    | false => rw [E_drop nd keep _ hk]; exact ih

/-- what is gathered in the end -/
def R (nd : Nat → Int) (keep : Int → Bool) (n : Nat) (limit : Int) : List Nat := (E nd keep n).take (max limit 1).toNat

theorem R_all (nd : Nat → Int) (keep : Int → Bool) (n : Nat) (limit : Int) (h : E nd keep n = [] ∨ ((E nd keep n).length : Int) < limit) : R nd keep n limit = E nd keep n := by
  unfold R
  rcases h with h | h
  · simp [h]
  · exact List.take_of_length_le (by omega)
theorem R_stop (nd : Nat → Int) (keep : Int → Bool) (k n : Nat) (limit : Int) (hk : k < n) (hy : keep (nd k) = true) (h : E nd keep k = [] ∨ ((E nd keep k).length : Int) < limit)
    (hs : ¬ ((E nd keep k).length : Int) + 1 < limit) : R nd keep n limit = E nd keep k ++ [k] := by
  have hp := E_prefix nd keep (k + 1) n hk
  rw [E_keep nd keep k hy] at hp
  have hl : (max limit 1).toNat = (E nd keep k ++ [k]).length := by
    simp only [List.length_append, List.length_cons, List.length_nil]
    rcases h with h | h
    · rw [h] at hs ⊢; simp at hs ⊢; omega
    · omega
  unfold R
  rw [hl]
  exact (List.prefix_iff_eq_take.1 hp).symm

/-- a cell that the call of the sequence does not turn -/
def At (base bp bn : Nat) (w : World) (b o : Nat) (v : Value) : Prop := b < base ∧ b ≠ bp ∧ b ≠ bn ∧ w.cell? ⟨b, o, none⟩ = some v

theorem At.kept {base bp bn : Nat} {w w' : World} {b o : Nat} {v : Value} (h : At base bp bn w b o v) (hk : Kept base bp bn w w') : w'.cell? ⟨b, o, none⟩ = some v :=
  (World.cell?_of_block (w := w) (hk.block b h.1 h.2.1 h.2.2.1)).trans h.2.2.2

/-- the nodes: none, or a row of n -/
def IsNodes (base bp bn : Nat) (w : World) (n : Nat) (nd : Nat → Int) (v : Value) : Prop :=
  (v = .slice none 0 0 ∧ ∀ k, nd k = -1) ∨ ∃ g, v = .slice (some ⟨g, 0, none⟩) n n ∧ ∀ k, k < n → At base bp bn w g k (.int .i64 (nd k))
/-- the set: none, or a row of m bools -/
def IsSet (base bp bn : Nat) (w : World) (n : Nat) (nd : Nat → Int) (keep : Int → Bool) (v : Value) : Prop :=
  (v = .slice none 0 0 ∧ ∀ k, keep k = true) ∨ ∃ g m ins, v = .slice (some ⟨g, 0, none⟩) m m ∧ (∀ j, j < m → At base bp bn w g j (.bool (List.getD ins j false))) ∧ keep = lies ins ∧ ∀ k, k < n → nd k < m

theorem run_neq_nil56 : ∀ (w : World) (a : Option Addr) (n c n' c' : Nat), (binOp .neq 56 (.slice a n c) (.slice none n' c')).run Yba.prog w = .ok (.bool (!a.isNone)) w := fun w a n c n' c' => run_neq_slice_nil_any w _ _ a n c n' c' Yba.underlying56
theorem run_neq_nil55 : ∀ (w : World) (a : Option Addr) (n c n' c' : Nat), (binOp .neq 55 (.slice a n c) (.slice none n' c')).run Yba.prog w = .ok (.bool (!a.isNone)) w := fun w a n c n' c' => run_neq_slice_nil_any w _ _ a n c n' c' Yba.underlying55

theorem got_next {base bp bn bl : Nat} {limit x : Int} {ptr : Nat → Option Addr} {nd : Nat → Int} {keep : Int → Bool} {k : Nat} {vp vn : Value} {w : World} (hk : keep (nd k) = true) (hx : x = nd k)
    (h : Got base bp bn bl limit ((E nd keep k).map (fun j => .pointer (ptr j)) ++ [.pointer (ptr k)]) ((E nd keep k).map (fun j => .int .i64 (nd j)) ++ [.int .i64 x]) vp vn w) :
    Got base bp bn bl limit ((E nd keep (k + 1)).map fun j => .pointer (ptr j)) ((E nd keep (k + 1)).map fun j => .int .i64 (nd j)) vp vn w := by
  subst hx
  rw [E_keep nd keep k hk]
  simpa using h
theorem got_stop {base bp bn bl : Nat} {limit x : Int} {ptr : Nat → Option Addr} {nd : Nat → Int} {keep : Int → Bool} {k n : Nat} {vp vn : Value} {w : World} (hkn : k < n) (hk : keep (nd k) = true) (hx : x = nd k)
    (hl : E nd keep k = [] ∨ ((E nd keep k).length : Int) < limit) (hs : ¬ ((E nd keep k).length : Int) + 1 < limit)
    (h : Got base bp bn bl limit ((E nd keep k).map (fun j => .pointer (ptr j)) ++ [.pointer (ptr k)]) ((E nd keep k).map (fun j => .int .i64 (nd j)) ++ [.int .i64 x]) vp vn w) :
    Got base bp bn bl limit ((R nd keep n limit).map fun j => .pointer (ptr j)) ((R nd keep n limit).map fun j => .int .i64 (nd j)) vp vn w := by
  subst hx
  rw [R_stop nd keep k n limit hkn hk hl hs]
  simpa using h

set_option maxHeartbeats 1000000 in
set_option maxRecDepth 1000000 in
theorem seq_any (base bp bn bl : Nat) (limit : Int) (vp vn : Value) (w : World) (n : Nat) (hn : n ≤ 1024)
    (b1 b2 b3 gl bh bt : Nat) (ptr : Nat → Option Addr) (nd : Nat → Int) (keep : Int → Bool) (vN vI : Value)
    (h : Got base bp bn bl limit [] [] vp vn w)
    (h1 : At base bp bn w b1 0 (.slice (some ⟨gl, 0, none⟩) n n)) (h2 : At base bp bn w b2 0 (.pointer (some ⟨bh, 0, none⟩))) (h3 : At base bp bn w b3 0 vI)
    (hl : ∀ k, k < n → At base bp bn w gl k (.pointer (ptr k))) (hN : IsNodes base bp bn w n nd vN) (hI : IsSet base bp bn w n nd keep vI)
    (hh : At base bp bn w bh 31 (.pointer (some ⟨bt, 0, none⟩))) (ht : At base bp bn w bt 2 vN) :
    Calls Yba.prog 24 #[.func (.func 14) #[] #[.pointer (some ⟨bp, 0, none⟩), .pointer (some ⟨bn, 0, none⟩), .pointer (some ⟨bl, 0, none⟩)], .pointer (some ⟨b1, 0, none⟩), .pointer (some ⟨b2, 0, none⟩), .pointer (some ⟨b3, 0, none⟩)] w fun e w' =>
      e = .returned (.tuple #[]) ∧ (∃ vp' vn', Got base bp bn bl limit ((R nd keep n limit).map fun j => .pointer (ptr j)) ((R nd keep n limit).map fun j => .int .i64 (nd j)) vp' vn' w') ∧ Kept base bp bn w w' := by
  have q55 := run_neq_nil55
  have q56 := run_neq_nil56
  have c1 := h1.2.2.2
  go_enter Yba.func24, Yba.ntmps24
  go_wp2
  go_loopw [10] (fun i wr => ∃ k : Nat, k ≤ n ∧ i = .int .i64 k ∧ (E nd keep k = [] ∨ ((E nd keep k).length : Int) < limit) ∧
      (∃ vp' vn', Got base bp bn bl limit ((E nd keep k).map fun j => .pointer (ptr j)) ((E nd keep k).map fun j => .int .i64 (nd j)) vp' vn' wr) ∧ Kept base bp bn w wr)
    (fun i _ => n - (intOf i).toNat)
  case atStart => exact ⟨0, Nat.zero_le _, rfl, .inl rfl, ⟨_, _, h⟩, Kept.refl _ _ _ _⟩
  case round =>
    obtain ⟨k, hk, rfl, hlim, ⟨vp', vn', hG⟩, hK⟩ := hrel
    by_cases hlt : k < n
    · have HE : Hid (E nd keep k = [] ∨ ((E nd keep k).length : Int) < limit) := hlim
      clear hlim c1
      have c2 := h2.kept hK
      have c3 := h3.kept hK
      have cl := (hl k hlt).kept hK
      have ch := hh.kept hK
      have ct := ht.kept hK
      have hlen := E_len nd keep k
      have hlen1 : ((E nd keep k).map fun j => Value.pointer (ptr j)).length ≤ 1024 := by rw [List.length_map]; omega
      have hlen2 : ((E nd keep k).map fun j => Value.int .i64 (nd j)).length ≤ 1024 := by rw [List.length_map]; omega
      have fcase : ∀ m', keep (nd k) = false → Got base bp bn bl limit ((E nd keep k).map fun j => .pointer (ptr j)) ((E nd keep k).map fun j => .int .i64 (nd j)) vp' vn' m' → Got base bp bn bl limit ((E nd keep (k + 1)).map fun j => .pointer (ptr j)) ((E nd keep (k + 1)).map fun j => .int .i64 (nd j)) vp' vn' m' := by
        intro m' e g; rw [E_drop nd keep k e]; exact g
      rcases hN with ⟨rfl, hN⟩ | ⟨gn, rfl, hN⟩
      · have hx : Hid ((-1 : Int) = nd k) := (hN k).symm
        rcases hI with ⟨rfl, hI⟩ | ⟨gi, m, ins, rfl, hic, rfl, him⟩
        · have hkeep : Hid (keep (nd k) = true) := hI _
          clear hI hN
          by_cases hs : ((E nd keep k).length : Int) + 1 < limit
          · go_wp2_with (go_at_call 14; refine (yield_any base bp bn bl limit _ _ _ vp' vn' (ptr k) _ hG hlen1 hlen2).mono ?_; rintro e w' ⟨rfl, ⟨vp2, vn2, hG2⟩, hK2⟩)
            go_roundw
            case rel => exact ⟨k + 1, by omega, by go_num, by rw [E_keep _ _ _ hkeep.out]; simp; omega, ⟨_, _, got_next hkeep.out hx.out hG2⟩, hK.trans hK2⟩
            case measure => simp [intOf]; omega
          · have hsd : decide (((E nd keep k).length : Int) + 1 < limit) = false := decide_eq_false hs
            have hs' : Hid (¬ ((E nd keep k).length : Int) + 1 < limit) := hs
            clear hs
            go_wp2_with (go_at_call 14; refine (yield_any base bp bn bl limit _ _ _ vp' vn' (ptr k) _ hG hlen1 hlen2).mono ?_; rintro e w' ⟨rfl, ⟨vp2, vn2, hG2⟩, hK2⟩)
            exact bodyPost_ret (v := .tuple #[]) (by simp [results, Yba.results24, go_sem]) rfl ⟨rfl, ⟨_, _, got_stop hlt hkeep.out hx.out HE.out (Int.not_lt.2 hs'.out) hG2⟩, hK.trans hK2⟩
        · have hkeep : Hid (lies ins (nd k) = true) := by rw [hN k]; exact lies_none ins
          clear hN hic him
          by_cases hs : ((E nd (lies ins) k).length : Int) + 1 < limit
          · go_wp2_with (first | (go_at_call 25; refine (liesIn_none _ _).mono ?_; rintro e w' ⟨rfl, rfl⟩) | (go_at_call 14; refine (yield_any base bp bn bl limit _ _ _ vp' vn' (ptr k) _ hG hlen1 hlen2).mono ?_; rintro e w' ⟨rfl, ⟨vp2, vn2, hG2⟩, hK2⟩))
            go_roundw
            case rel => exact ⟨k + 1, by omega, by go_num, by rw [E_keep _ _ _ hkeep.out]; simp; omega, ⟨_, _, got_next hkeep.out hx.out hG2⟩, hK.trans hK2⟩
            case measure => simp [intOf]; omega
          · have hsd : decide (((E nd (lies ins) k).length : Int) + 1 < limit) = false := decide_eq_false hs
            have hs' : Hid (¬ ((E nd (lies ins) k).length : Int) + 1 < limit) := hs
            clear hs
            go_wp2_with (first | (go_at_call 25; refine (liesIn_none _ _).mono ?_; rintro e w' ⟨rfl, rfl⟩) | (go_at_call 14; refine (yield_any base bp bn bl limit _ _ _ vp' vn' (ptr k) _ hG hlen1 hlen2).mono ?_; rintro e w' ⟨rfl, ⟨vp2, vn2, hG2⟩, hK2⟩))
            exact bodyPost_ret (v := .tuple #[]) (by simp [results, Yba.results24, go_sem]) rfl ⟨rfl, ⟨_, _, got_stop hlt hkeep.out hx.out HE.out (Int.not_lt.2 hs'.out) hG2⟩, hK.trans hK2⟩
      · have cn := (hN k hlt).kept hK
        rcases hI with ⟨rfl, hI⟩ | ⟨gi, m, ins, rfl, hic, rfl, him⟩
        · have hkeep : Hid (keep (nd k) = true) := hI _
          clear hI hN
          by_cases hs : ((E nd keep k).length : Int) + 1 < limit
          · go_wp2_with (go_at_call 14; refine (yield_any base bp bn bl limit _ _ _ vp' vn' (ptr k) _ hG hlen1 hlen2).mono ?_; rintro e w' ⟨rfl, ⟨vp2, vn2, hG2⟩, hK2⟩)
            go_roundw
            case rel => exact ⟨k + 1, by omega, by go_num, by rw [E_keep _ _ _ hkeep.out]; simp; omega, ⟨_, _, got_next hkeep.out rfl hG2⟩, hK.trans hK2⟩
            case measure => simp [intOf]; omega
          · have hsd : decide (((E nd keep k).length : Int) + 1 < limit) = false := decide_eq_false hs
            have hs' : Hid (¬ ((E nd keep k).length : Int) + 1 < limit) := hs
            clear hs
            go_wp2_with (go_at_call 14; refine (yield_any base bp bn bl limit _ _ _ vp' vn' (ptr k) _ hG hlen1 hlen2).mono ?_; rintro e w' ⟨rfl, ⟨vp2, vn2, hG2⟩, hK2⟩)
            exact bodyPost_ret (v := .tuple #[]) (by simp [results, Yba.results24, go_sem]) rfl ⟨rfl, ⟨_, _, got_stop hlt hkeep.out rfl HE.out (Int.not_lt.2 hs'.out) hG2⟩, hK.trans hK2⟩
        · clear hN
          cases hkp : lies ins (nd k) with
          | false =>
            have hkf : Hid (lies ins (nd k) = false) := hkp
            go_wp2_with (go_at_call 25; refine (liesIn_any gi m m ins (nd k) _ (him k hlt) (fun j hj => (hic j hj).kept hK)).mono ?_; rintro e w' ⟨rfl, rfl⟩)
            go_roundw
            case rel => exact ⟨k + 1, by omega, by go_num, by rw [E_drop _ _ _ hkf.out]; exact HE.out, ⟨_, _, fcase _ hkf.out hG⟩, hK⟩
            case measure => simp [intOf]; omega
          | true =>
            have hkeep : Hid (lies ins (nd k) = true) := hkp
            by_cases hs : ((E nd (lies ins) k).length : Int) + 1 < limit
            · go_wp2_with (first | (go_at_call 25; refine (liesIn_any gi m m ins (nd k) _ (him k hlt) (fun j hj => (hic j hj).kept hK)).mono ?_; rintro e w' ⟨rfl, rfl⟩) | (go_at_call 14; refine (yield_any base bp bn bl limit _ _ _ vp' vn' (ptr k) _ hG hlen1 hlen2).mono ?_; rintro e w' ⟨rfl, ⟨vp2, vn2, hG2⟩, hK2⟩))
              go_roundw
              case rel => exact ⟨k + 1, by omega, by go_num, by rw [E_keep _ _ _ hkeep.out]; simp; omega, ⟨_, _, got_next hkeep.out rfl hG2⟩, hK.trans hK2⟩
              case measure => simp [intOf]; omega
            · have hsd : decide (((E nd (lies ins) k).length : Int) + 1 < limit) = false := decide_eq_false hs
              have hs' : Hid (¬ ((E nd (lies ins) k).length : Int) + 1 < limit) := hs
              clear hs
              go_wp2_with (first | (go_at_call 25; refine (liesIn_any gi m m ins (nd k) _ (him k hlt) (fun j hj => (hic j hj).kept hK)).mono ?_; rintro e w' ⟨rfl, rfl⟩) | (go_at_call 14; refine (yield_any base bp bn bl limit _ _ _ vp' vn' (ptr k) _ hG hlen1 hlen2).mono ?_; rintro e w' ⟨rfl, ⟨vp2, vn2, hG2⟩, hK2⟩))
              exact bodyPost_ret (v := .tuple #[]) (by simp [results, Yba.results24, go_sem]) rfl ⟨rfl, ⟨_, _, got_stop hlt hkeep.out rfl HE.out (Int.not_lt.2 hs'.out) hG2⟩, hK.trans hK2⟩
    · obtain rfl : k = n := by omega
      go_wp2
      go_end0
      rw [R_all nd keep k limit hlim]
      exact ⟨rfl, ⟨_, _, hG⟩, hK⟩
end Go.Proofs.Ybulkxci.Yields
