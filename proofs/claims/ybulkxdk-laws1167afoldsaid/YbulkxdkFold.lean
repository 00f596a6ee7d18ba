import Derived.Test.YbulkxdkMean
import Derived.Deep.QuietTactic
import Derived.BigQuiet
namespace Go.Proofs.Ybulkxdk.Fold
open Go.RowKit Ieee
open _root_.Go.Proofs.Ybulkxdk.Flt

/-- a NaN's bits -/
def NaN (b : Nat) : Prop := (double.read b).isNaN = true

/-- 'o' told: these very bits, or some NaN -/
def Rep (o : Option Nat) (b : Nat) : Prop := o = some b ∨ (o = none ∧ NaN b)

theorem nan_cut (x y t : Nat) : NaN ((Question.nanBits .f64 x y).cut t) := by
  have h : (Question.nanBits .f64 x y).cut t = (t % 2) * 9223372036854775808 + 9218868437227405312 + 1 + (t / 2) % 4503599627370495 := rfl
  have hbin : double.binade = 4503599627370496 := by decide
  have hinf : double.infRung = 9218868437227405312 := by decide
  have hsw : double.signWeight = 9223372036854775808 := by decide
  rw [h]
  have hv : (t / 2) % 4503599627370495 < 4503599627370495 := Nat.mod_lt _ (by decide)
  have hu : t % 2 = 0 ∨ t % 2 = 1 := by omega
  generalize (t / 2) % 4503599627370495 = v at *
  generalize t % 2 = u at *
  have e : (u * 9223372036854775808 + 9218868437227405312 + 1 + v) % 9223372036854775808 = 9218868437227405312 + 1 + v := by
    rcases hu with rfl | rfl <;> omega
  unfold NaN Format.read
  simp only [hbin, hinf, hsw, e]
  rw [if_neg (by omega), if_neg (by omega), if_neg (by omega)]
  rfl

theorem floatBits_nan_left (x y : Nat) (h : NaN x) : floatBits .add .f64 x y = none ∧ floatBits .quo .f64 x y = none := by
  unfold NaN at h
  constructor
  · show ((double.read x).sum (double.read y)).map double.write = none
    cases hx : double.read x with
    | number s m e => rw [hx] at h; simp [Datum.isNaN] at h
    | infinity s => rw [hx] at h; simp [Datum.isNaN] at h
    | nan s t => cases double.read y <;> rfl
  · show ((double.read x).quotient 54 (double.read y)).map double.write = none
    cases hx : double.read x with
    | number s m e => rw [hx] at h; simp [Datum.isNaN] at h
    | infinity s => rw [hx] at h; simp [Datum.isNaN] at h
    | nan s t => cases double.read y <;> rfl

theorem order_nan (x : Nat) (h : NaN x) : FloatKind.f64.format.order x x = none := by
  unfold NaN at h
  show (double.read x).order (double.read x) = none
  cases hx : double.read x with
  | number s m e => rw [hx] at h; simp [Datum.isNaN] at h
  | infinity s => rw [hx] at h; simp [Datum.isNaN] at h
  | nan s t => rfl

theorem run_arith (op : BinOp) (hop : op = .add ∨ op = .quo) (x y : Nat) (w : World) :
    ∃ r q, (binOp op 23 (.float .f64 x) (.float .f64 y)).run Yba.prog w = .ok (.float .f64 r) (w.drewN q) ∧ Rep (floatBits op .f64 x y) r := by
  cases h : floatBits op .f64 x y with
  | some r => exact ⟨r, 0, run_float_arith w op 23 .f64 x y r h, .inl rfl⟩
  | none =>
    refine ⟨(Question.nanBits .f64 x y).cut (w.tape w.drawn (.nanBits .f64 x y)), 1, ?_, .inr ⟨rfl, nan_cut _ _ _⟩⟩
    rcases hop with rfl | rfl
    · have h' : FloatKind.f64.format.add x y = none := h
      simp [binOp, Op.floatArith, h', Question.forced, World.drew_is_drewN]
    · have h' : FloatKind.f64.format.div x y = none := h
      simp [binOp, Op.floatArith, h', Question.forced, World.drew_is_drewN]

/-- the sum of the first k values, none where it is a NaN -/
def S (zs : Nat → Nat) : Nat → Option Nat
  | 0 => some 0
  | k + 1 => match S zs k with
    | some s => floatBits .add .f64 s (zs k)
    | none => none

/-- .. divided by their number -/
def Q (zs : Nat → Nat) (n : Nat) : Option Nat := match S zs n with
  | some s => floatBits .quo .f64 s (F n)
  | none => none

theorem S_next (zs : Nat → Nat) (k s r : Nat) (h : Rep (S zs k) s) (hr : Rep (floatBits .add .f64 s (zs k)) r) : Rep (S zs (k + 1)) r := by
  rcases h with h | ⟨h, hn⟩
  · simp only [S, h]; exact hr
  · simp only [S, h]
    rcases hr with hr | ⟨_, hr⟩
    · rw [(floatBits_nan_left s (zs k) hn).1] at hr; cases hr
    · exact .inr ⟨rfl, hr⟩

theorem Q_next (zs : Nat → Nat) (n s r : Nat) (h : Rep (S zs n) s) (hr : Rep (floatBits .quo .f64 s (F n)) r) : Rep (Q zs n) r := by
  rcases h with h | ⟨h, hn⟩
  · simp only [Q, h]; exact hr
  · simp only [Q, h]
    rcases hr with hr | ⟨_, hr⟩
    · rw [(floatBits_nan_left s (F n) hn).2] at hr; cases hr
    · exact .inr ⟨rfl, hr⟩

theorem Q_zero (zs : Nat → Nat) : Q zs 0 = none := by
  show floatBits .quo .f64 0 (F 0) = none
  rw [F_zero]; decide

/-- the argument: a slice of floats -/
def Arg (w : World) (a : Option Addr) (n : Nat) (zs : Nat → Nat) : Prop :=
  0 < n → ∃ b off, a = some ⟨b, off, none⟩ ∧ b < w.heap.size ∧ ∀ j, j < n → w.cell? ⟨b, off + j, none⟩ = some (.float .f64 (zs j))

set_option maxHeartbeats 400000 in
set_option maxRecDepth 100000 in
theorem mean_any (a : Option Addr) (n cap : Nat) (zs : Nat → Nat) (w : World) (hn : n ≤ 4096) (ha : Arg w a n zs) :
    Calls Yba.prog 8 #[.slice a n cap] w fun e w' => ∃ g, e = .returned (.float .f64 g) ∧ Rep (Q zs n) g ∧ ∃ q, w' = w.drewN q := by
  go_enter Yba.func8, Yba.ntmps8
  go_wp2
  go_loopw [3, 8] (fun s i wr => ∃ j v q : Nat, j ≤ n ∧ i = .int .i64 j ∧ s = .float .f64 v ∧ Rep (S zs j) v ∧ wr = w.drewN q) (fun _ i _ => n - (intOf i).toNat)
  case atStart => exact ⟨0, 0, 0, by omega, rfl, rfl, .inl rfl, rfl⟩
  case round =>
    obtain ⟨j, v, q, hj, rfl, rfl, hS, rfl⟩ := hrel
    by_cases hlt : j < n
    · obtain ⟨b, off, hab, _, hcl⟩ := ha (by omega)
      subst hab
      have hcj := hcl j hlt
      obtain ⟨r, q2, hrun, hrep⟩ := run_arith .add (.inl rfl) v (zs j) (w.drewN q)
      have HX : Hid (Rep (S zs (j + 1)) r) := S_next zs j v r hS hrep
      clear hrep hS hcl
      go_wp2
      go_roundw
      case rel => exact ⟨j + 1, r, _, by omega, by go_num, rfl, HX.out, rfl⟩
      case measure => simp [intOf]; omega
    · obtain rfl : j = n := by omega
      obtain ⟨r, q2, hrun, hrep⟩ := run_arith .quo (.inr rfl) v (floatOfInt .f64 j) (w.drewN q)
      have HX : Hid (Rep (Q zs j) r) := Q_next zs j v r hS hrep
      clear hrep hS ha
      go_wp2
      go_ret
      exact ⟨r, rfl, HX.out, _, rfl⟩

set_option maxHeartbeats 400000 in
theorem isNaN_any (b : Nat) (w : World) : Calls Yba.prog 9 #[.float .f64 b] w fun e w' => e = .returned (.bool (FloatKind.f64.format.order b b != some .eq)) ∧ w' = w := by
  go_enter Yba.func9, Yba.ntmps9
  go_wp2
  go_ret
  exact ⟨rfl, rfl⟩

set_option maxHeartbeats 400000 in
set_option maxRecDepth 100000 in
theorem same_nan (x y : Nat) (w : World) (hx : NaN x) (hy : NaN y) : Calls Yba.prog 10 #[.float .f64 x, .float .f64 y] w fun e w' => e = .returned (.bool true) ∧ w' = w := by
  have ex := order_nan x hx
  have ey := order_nan y hy
  clear hx hy
  go_enter Yba.func10, Yba.ntmps10
  go_wp2
  go_ret
  exact ⟨rfl, rfl⟩

theorem bits_of (x : Nat) (w : World) : (callFunc 14 #[.float .f64 x]).run Yba.prog w = .ok (.value (.int .u64 x)) w := by kernel_rfl

set_option maxHeartbeats 400000 in
set_option maxRecDepth 100000 in
theorem same_bits (x : Nat) (w : World) : Calls Yba.prog 10 #[.float .f64 x, .float .f64 x] w fun e w' => e = .returned (.bool true) ∧ w' = w := by
  have h14 := bits_of
  by_cases ex : FloatKind.f64.format.order x x = some .eq
  · go_enter Yba.func10, Yba.ntmps10
    go_wp2
    go_ret
    exact ⟨rfl, rfl⟩
  · have ex' : (FloatKind.f64.format.order x x != some .eq) = true := by simpa using ex
    clear ex h14
    go_enter Yba.func10, Yba.ntmps10
    go_wp2
    go_ret
    exact ⟨rfl, rfl⟩

theorem same_rep (o : Option Nat) (x y : Nat) (w : World) (hx : Rep o x) (hy : Rep o y) : Calls Yba.prog 10 #[.float .f64 x, .float .f64 y] w fun e w' => e = .returned (.bool true) ∧ w' = w := by
  rcases hx with rfl | ⟨rfl, hx⟩
  · rcases hy with h | ⟨h, _⟩
    · cases h; exact same_bits x w
    · cases h
  · rcases hy with h | ⟨_, hy⟩
    · cases h
    · exact same_nan x y w hx hy

theorem one_F : (4607182418800017408 : Nat) = F 1 := by
  rw [F_eq 1 (by decide) (by decide)]; rfl

set_option maxHeartbeats 1000000 in
set_option maxRecDepth 100000 in
theorem walk_some (a : Option Addr) (n cap : Nat) (zs : Nat → Nat) (w : World) (hn : n ≤ 4096) (h0 : 0 < n) (ha : Arg w a n zs) :
    Calls Yba.prog 3 #[.slice a n cap] w fun e w' => e = .returned (.bool true) ∧ Below w.heap.size w w' := by
  have hd1 : decide ((4096 : Int) < (n : Int)) = false := decide_eq_false (by omega)
  have hd2 : ((n : Int) == 0) = false := by simp; omega
  go_enter Yba.func3, Yba.ntmps3
  go_wp2_with (go_at_call 8; refine (mean_any a n cap zs w hn ha).mono ?_; rintro e w1 ⟨g, rfl, hQ, q0, rfl⟩)
  have HQ : Hid (Rep (Q zs n) g) := hQ
  clear hQ
  go_loopw [4, 5] (fun s i wr => ∃ j v q : Nat, j ≤ n ∧ i = .int .i64 j ∧ s = .float .f64 v ∧ Rep (S zs j) v ∧ wr = w.drewN q) (fun _ i _ => n - (intOf i).toNat)
  case atStart => exact ⟨0, 0, _, by omega, rfl, rfl, .inl rfl, rfl⟩
  case round =>
    obtain ⟨j, v, q, hj, rfl, rfl, hS, rfl⟩ := hrel
    by_cases hlt : j < n
    · obtain ⟨b, off, hab, _, hcl⟩ := ha (by omega)
      subst hab
      have hcj := hcl j hlt
      obtain ⟨r, q2, hrun, hrep⟩ := run_arith .add (.inl rfl) v (zs j) (w.drewN q)
      have HX : Hid (Rep (S zs (j + 1)) r) := S_next zs j v r hS hrep
      clear hrep hS hcl
      go_wp2
      go_roundw
      case rel => exact ⟨j + 1, r, _, by omega, by go_num, rfl, HX.out, rfl⟩
      case measure => simp [intOf]; omega
    · obtain rfl : j = n := by omega
      have HS : Hid (Rep (S zs j) v) := hS
      clear hS ha
      go_wp2
      go_loop [6, 7] (fun s i => ∃ t : Nat, t ≤ j ∧ i = .int .i64 t ∧ s = .float .f64 (F t)) (fun _ i => j - (intOf i).toNat)
      case atStart => exact ⟨0, by omega, rfl, by rw [show ((0 : Nat) : Int) = 0 from rfl, F_zero]⟩
      case round =>
        obtain ⟨t, ht, rfl, rfl⟩ := hrel
        by_cases hlt2 : t < j
        · have e : ((t : Int) + 1) = ((t + 1 : Nat) : Int) := by omega
          have hadd : ∀ w, (binOp .add 23 (.float .f64 (F t)) (.float .f64 4607182418800017408)).run Yba.prog w = .ok (.float .f64 (F ((t + 1 : Nat) : Int))) w := fun w =>
            run_float_arith w .add 23 .f64 _ _ _ (by rw [one_F, ← e]; exact add_F _ _ (by omega) (by omega) (by omega))
          clear e
          go_wp2
          go_round
          case rel => exact ⟨t + 1, by omega, by go_num, rfl⟩
          case measure => simp [intOf]; omega
        · obtain rfl : t = j := by omega
          obtain ⟨r, q2, hrun, hrep⟩ := run_arith .quo (.inr rfl) v (F t) (w.drewN q)
          have HX : Hid (Rep (Q zs t) r) := Q_next zs t v r HS.out hrep
          clear hrep
          go_wp2_with (go_at_call 10; refine (same_rep (Q zs t) g r _ HQ.out HX.out).mono ?_; rintro e w' ⟨rfl, rfl⟩)
          go_ret
          exact ⟨rfl, below_drewN (Below.refl _ _) _⟩

set_option maxHeartbeats 400000 in
set_option maxRecDepth 100000 in
theorem walk_empty (a : Option Addr) (cap : Nat) (w : World) :
    Calls Yba.prog 3 #[.slice a 0 cap] w fun e w' => e = .returned (.bool true) ∧ Below w.heap.size w w' := by
  go_enter Yba.func3, Yba.ntmps3
  go_wp2_with (first
    | (go_at_call 8; refine (mean_any a 0 cap (fun _ => 0) w (by omega) (fun h => by omega)).mono ?_; rintro e w1 ⟨g, rfl, hQ, q0, rfl⟩; have ho : FloatKind.f64.format.order g g = none := by (rcases hQ with h | ⟨_, h⟩; (rw [Q_zero] at h; cases h); exact order_nan g h))
    | (go_at_call 9; refine (isNaN_any g _).mono ?_; rintro e w' ⟨rfl, rfl⟩))
  go_ret
  exact ⟨by simp, below_drewN (Below.refl _ _) _⟩

set_option maxHeartbeats 400000 in
theorem walk_long (a : Option Addr) (n cap : Nat) (w : World) (h : 4096 < n) :
    Calls Yba.prog 3 #[.slice a n cap] w fun e w' => e = .returned (.bool true) ∧ Below w.heap.size w w' := by
  have hz : (4096 : Int) < (n : Int) := by omega
  go_enter Yba.func3, Yba.ntmps3
  go_wp2
  go_ret
  exact ⟨rfl, Below.refl _ _⟩
end Go.Proofs.Ybulkxdk.Fold
