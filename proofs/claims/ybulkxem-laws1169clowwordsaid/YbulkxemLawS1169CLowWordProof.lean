import Derived.Test.YbulkxemRows
import Derived.WalkKit
import Derived.WalkSpells
import Derived.WalkLawsBesides
import Derived.ProofKit
import Derived.OpenShut
import Derived.ShutString
import Derived.ChangeOld
import Derived.Below
namespace Go.Proofs.Ybulkxem.lawS1169CLowWord
open Go.ChangeShapes Go.WideShapes Go.ChangeAt Go.RowKit
open Go.ChangeMaps (open_string shut_string)
set_option linter.unusedVariables false

theorem own : ownKnob Yba.prog.godebug = none := by kernel_rfl
theorem laidOut : laidOutB Yba.prog = true := by kernel_rfl

/-- WHAT THE WALK IS TOLD OF A SLICE OF INTEGERS THAT CAME IN: it is nil; or it leads to a row of 'cap' cells, the numbers 'zs' (the first 'len' are its elements, the rest its spare room), each fitting its kind. -/
def IsRow (k : IntKind) (w : World) (a : Option Addr) (len cap : Nat) (zs : List Int) : Prop :=
  (a = none ∧ len = 0 ∧ cap = 0 ∧ zs = []) ∨
  ∃ x, a = some x ∧ len ≤ cap ∧ cap ≤ maxLen ∧ zs.length = cap ∧ (∀ i, i < zs.length → w.cell? (x.add i) = some (.int k (zs.getD i 0))) ∧ ∀ n ∈ zs, (Lit.int k n).wf = true

set_option maxHeartbeats 400000 in
theorem walk_long (a0 : Option Addr) (n cap : Nat) (w : World) (h : 1024 < n) :
    Calls Yba.prog 6 #[.slice a0 n cap] w fun e w' => e = .returned (.bool true) ∧ Below w.heap.size w w' := by
  have hz : (1024 : Int) < (n : Int) := by omega
  go_enter Yba.func6, Yba.ntmps6
  go_wp2
  go_ret
  exact ⟨rfl, Below.refl _ _⟩

set_option maxHeartbeats 400000 in
theorem walk_empty (a0 : Option Addr) (cap : Nat) (w : World) :
    Calls Yba.prog 6 #[.slice a0 0 cap] w fun e w' => e = .returned (.bool true) ∧ Below w.heap.size w w' := by
  go_enter Yba.func6, Yba.ntmps6
  go_wp2
  refine wp_loop_rounds 1 ?_
  rw [rounds_succ]
  go_wp2
  go_ret
  exact ⟨rfl, (Below.refl _ _).alloc (Nat.le_refl _) _⟩

set_option maxHeartbeats 1000000 in
set_option maxRecDepth 100000 in
theorem walk_some (b off n cap : Nat) (zs : List Int) (w : World) (hn : n ≤ 1024) (h0 : 0 < n) (hb : b < w.heap.size)
    (hc : ∀ j, j < n → w.cell? ⟨b, off + j, none⟩ = some (.int .u64 (zs.getD j 0))) :
    Calls Yba.prog 6 #[.slice (some ⟨b, off, none⟩) n cap] w fun e w' => e = .returned (.bool true) ∧ Below w.heap.size w w' := by
  have hd1 : decide ((1024 : Int) < (n : Int)) = false := decide_eq_false (by omega)
  have hd2 : ((n : Int) == 0) = false := by simp; omega
  have z0 : (0 : Int) < (n : Int) := by omega
  have c0 : w.cell? ⟨b, off, none⟩ = some (.int .u64 (zs.getD 0 0)) := hc 0 h0
  obtain ⟨v, hv⟩ : ∃ v, v = zs.getD 0 0 := ⟨_, rfl⟩
  rw [← hv] at c0
  have HV : Hid (v = zs.getD 0 0) := hv
  clear hv
  go_enter Yba.func6, Yba.ntmps6
  go_wp2
  go_loop [5, 16] (fun s i => ∃ k : Nat, k ≤ n ∧ i = .int .i64 k ∧ s = .int .u64 (if k = 0 then 0 else v)) (fun _ i => n - (intOf i).toNat)
  case atStart => exact ⟨0, by omega, rfl, rfl⟩
  case round =>
    obtain ⟨k, hk, rfl, rfl⟩ := hrel
    by_cases hlt : k < n
    · have ck := hc k hlt
      by_cases hk0 : k = 0
      · subst hk0
        have ck' : w.cell? ⟨b, off, none⟩ = some (.int .u64 v) := c0
        clear hc ck
        go_wp2
        go_round
        case rel => exact ⟨1, by omega, rfl, rfl⟩
        case measure => simp [intOf]; omega
      · have hk1 : ((k : Int) == 0) = false := by simp; omega
        clear hc c0
        rw [if_neg hk0]
        go_wp2
        go_round
        case rel => exact ⟨k + 1, by omega, by go_num, by rw [if_neg (by omega)]⟩
        case measure => simp [intOf]; omega
    · obtain rfl : k = n := by omega
      rw [if_neg (by omega)]
      clear hc c0
      go_wp2
      go_ret
      exact ⟨by simp, (Below.refl _ _).alloc (Nat.le_refl _) _⟩

theorem walk (a0 : Option Addr) (len0 cap0 : Nat) (z0 : List Int) (w : World) (w0 : IsRow .u64 w a0 len0 cap0 z0) :
    Calls Yba.prog 6 #[.slice a0 len0 cap0] w fun e w' => e = .returned (.bool true) ∧ Below w.heap.size w w' := by
  by_cases hn : len0 ≤ 1024
  · by_cases h0 : len0 = 0
    · subst h0
      exact walk_empty a0 cap0 w
    · rcases w0 with ⟨_, h, _⟩ | ⟨x, rfl, hl, hm, hz, hc, hw⟩
      · omega
      · obtain ⟨b, off, spot⟩ := x
        have c0 := hc 0 (by omega)
        have hspot : spot = none := by simpa [Addr.add] using World.cell?_spot c0
        subst hspot
        exact walk_some b off len0 cap0 z0 w hn (by omega) (by simpa [Addr.add_lit] using World.block_lt_of_cell? w _ c0) (fun j hj => by rw [← Addr.add_lit]; exact hc j (by omega))
  · exact walk_long a0 len0 cap0 w (by omega)

set_option maxRecDepth 100000 in
theorem lifted (os : Os) (started : os.Started) (H : Type) (enc : TypeId × Value → H) :
    ReturnsInHanded {} Yba.checked os 6 .any (Rows.lawS1169CLowWordSpec.pre6 enc Yba.prog Yba.f6 Rows.lawS1169CLowWordRow.domain false) (Rows.lawS1169CLowWordSpec.post enc Yba.prog Yba.f6 false true false false) := by
  refine returnsInHanded_of_change (C := Yba.checked) own started (by kernel_rfl) Yba.func6
    (ChangeSpec.witness6 (enc := enc) (C := Yba.checked) false ⟨#[], #[.slice none 0 0], []⟩ 8 (by kernel_rfl) (by kernel_rfl) (by kernel_rfl) (by kernel_rfl)) ?_
  intro W base args ds gs before hval0 hW hcnd _
  have hval : ∀ (j : Nat) t v, Yba.f6.params[j]? = some t → args[j]? = some v → Value.okWide Yba.prog W .any base t v := hval0
  have hW' := hW
  obtain ⟨p, q, hA0, hV, rfl, hfz, hnd⟩ := hW
  have hA : DataW.TrodAll enc Yba.prog W 0 (fun _ => true) true Yba.f6.params.toList args.toList ds p := hA0
  rw [Yba.params6] at hA hval
  obtain ⟨v0, vs0, d0, ds0, p0, q0, hargs, rfl, rfl, h0, r0⟩ := trodAll_cons hA
  obtain ⟨rfl, rfl, rfl⟩ := trodAll_nil r0
  obtain rfl : args = #[v0] := by cases args; simp_all
  obtain ⟨rfl, rfl⟩ := trodVars_none hV
  obtain ⟨a0, len0, cap0, rfl⟩ := okWide_slice Yba.underlying43 (hval 0 43 v0 rfl rfl)
  have k0 := h0
  have lt0 : ∀ x ∈ p0, x.block < W.heap.size := by obtain ⟨m, hm⟩ := k0; exact DataW.trod_lt m _ _ _ hm
  obtain ⟨z0, w0⟩ : ∃ zs, IsRow .u64 W a0 len0 cap0 zs := by
    obtain ⟨fuel, hf⟩ := h0
    rcases open_ints Yba.underlying43 Yba.underlying35 (by kernel_rfl) hf with ⟨hcs, _⟩ | ⟨x, l, c, zs, hcs, _, hl, hm, hz, _, hcell, hwz⟩
    · simp [Value.cells] at hcs
      obtain ⟨rfl, rfl, rfl⟩ := hcs
      exact ⟨[], .inl ⟨rfl, rfl, rfl, rfl⟩⟩
    · simp [Value.cells] at hcs
      obtain ⟨rfl, rfl, rfl⟩ := hcs
      exact ⟨zs, .inr ⟨_, rfl, hl, hm, by simpa using hz, hcell, hwz⟩⟩
  clear hA0 hval0
  refine (walk a0 len0 cap0 z0 W w0).mono fun e W' ⟨he, bel⟩ => ?_
  subst he
  exact ⟨_, rfl, _, _, _, [], _, [], hW', trodAll_mk1 (shut_bool Yba.underlying4 _), (trodAll_cons_mk (Below.trod laidOut (by kernel_rfl) (of_decide_eq_true (by kernel_rfl)) k0 bel lt0) trodAll_mk0), rfl, bel.frame _, fun h => by cases h⟩

theorem over : Rows.lawS1169CLowWordRow.holds Yba.pinned (OpenSpec.ofChange Rows.lawS1169CLowWordSpec) :=
  OpenClaim.holds_of_wide 6 Yba.f6 rfl rfl rfl rfl rfl rfl rfl ⟨rfl, rfl, rfl, rfl, rfl⟩ rfl rfl rfl rfl rfl (by kernel_rfl) Yba.func6 (by kernel_rfl)
    (of_decide_eq_true (by kernel_rfl)) (by unfold Func.isWrapper; first | (rw [if_pos (by decide +kernel)]; kernel_rfl) | (rw [if_neg (by decide +kernel)]; exact ⟨rfl, rfl⟩))
    (fun os started H enc _ => lifted os started H enc)

/-- ████ THE STATEMENT ████ -/
theorem proved : Rows.LawS1169CLowWordSaid := over
#print axioms proved
end Go.Proofs.Ybulkxem.lawS1169CLowWord
