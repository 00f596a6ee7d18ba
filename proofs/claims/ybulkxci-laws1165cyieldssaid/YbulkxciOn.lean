import Derived.Test.YbulkxciSeq
import Derived.LaidEqlPtr
namespace Go.Proofs.Ybulkxci.Yields
open Go.RowKit

theorem info65 : ∃ j, Yba.prog.info? 65 = some j ∧ j.size ≠ 0 := by
  have h : (Yba.prog.info? 65).map (fun i => decide (i.size ≠ 0)) = some true := by kernel_rfl
  obtain ⟨j, hj, hd⟩ := Option.map_eq_some_iff.1 h
  exact ⟨j, hj, of_decide_eq_true hd⟩

theorem neq_same (w : World) (a : Addr) : (binOp .neq 61 (.pointer (some a)) (.pointer (some a))).run Yba.prog w = .ok (.bool false) w := by
  obtain ⟨j, hj, _⟩ := info65
  have h : ∀ d : Nat, (Op.equalIn (d + 1) 61 (.pointer (some a)) (.pointer (some a))).run Yba.prog w = .ok true w := fun d => by
    simp [Op.equalIn, run_underlying Yba.underlying61, sizeOf, typeInfo, hj, run_sameAddr_same]
  simp only [binOp]
  simp [Op.equal, Op.maxDepth, h 9999]

theorem neq_other (w : World) {a b : Addr} {ca cb : Array Value} {ta tb : TypeId} (hne : a ≠ b) (ha : w.heap[a.block]? = some (.cells ca ta (0, 0))) (hb : w.heap[b.block]? = some (.cells cb tb (0, 0))) :
    (binOp .neq 61 (.pointer (some a)) (.pointer (some b))).run Yba.prog w = .ok (.bool true) w := by
  obtain ⟨j, hj, hsz⟩ := info65
  have h : ∀ d : Nat, (Op.equalIn (d + 1) 61 (.pointer (some a)) (.pointer (some b))).run Yba.prog w = .ok false w := fun d => by
    simp [Op.equalIn, run_underlying Yba.underlying61, sizeOf, typeInfo, hj, hsz, run_sameAddr_other w hne ha hb]
  simp only [binOp]
  simp [Op.equal, Op.maxDepth, h 9999]

set_option maxHeartbeats 400000 in
set_option maxRecDepth 1000000 in
theorem on_same (bh bt : Nat) (aP aI : Option Addr) (nP cP nI cI : Nat) (w : World) (hb : bh < w.heap.size) (hbt : bt < w.heap.size)
    (hh : w.cell? ⟨bh, 31, none⟩ = some (.pointer (some ⟨bt, 0, none⟩))) (ht : w.cell? ⟨bt, 0, none⟩ = some (.slice aP nP cP)) :
    Calls Yba.prog 13 #[.pointer (some ⟨bh, 0, none⟩), .pointer (some ⟨bh, 0, none⟩), .slice aI nI cI] w fun e w' =>
      e = .returned (.func (.func 24) #[] #[.pointer (some ⟨w.heap.size + 2, 0, none⟩), .pointer (some ⟨w.heap.size, 0, none⟩), .pointer (some ⟨w.heap.size + 1, 0, none⟩)]) ∧
      w' = ((w.alloc (.cells #[.pointer (some ⟨bh, 0, none⟩)] 66)).alloc (.cells #[.slice aI nI cI] 55)).alloc (.cells #[.slice aP nP cP] 60) := by
  have hmf : ∀ (fn : Fn) (first cap : Array Value) (w : World), (Instr.makeFunc fn first cap).run Yba.prog w = .ok (.func fn first cap) w := fun _ _ _ _ => rfl
  have hq := neq_same
  go_enter Yba.func13, Yba.ntmps13
  go_wp2
  go_ret
  exact ⟨rfl, rfl⟩

set_option maxHeartbeats 400000 in
set_option maxRecDepth 1000000 in
theorem on_other (bh bt bo : Nat) (aP aI aQ : Option Addr) (nP cP nI cI nQ cQ : Nat) (w : World) (hb : bh < w.heap.size) (hbt : bt < w.heap.size) (hbo : bo < w.heap.size) (hne : bo ≠ bh)
    {ca cb : Array Value} {ta tb : TypeId} (ka : w.heap[bo]? = some (.cells ca ta (0, 0))) (kb : w.heap[bh]? = some (.cells cb tb (0, 0)))
    (hh : w.cell? ⟨bh, 31, none⟩ = some (.pointer (some ⟨bt, 0, none⟩))) (ht : w.cell? ⟨bt, 0, none⟩ = some (.slice aP nP cP)) (ht1 : w.cell? ⟨bt, 1, none⟩ = some (.slice aQ nQ cQ)) :
    Calls Yba.prog 13 #[.pointer (some ⟨bh, 0, none⟩), .pointer (some ⟨bo, 0, none⟩), .slice aI nI cI] w fun e w' =>
      e = .returned (.func (.func 24) #[] #[.pointer (some ⟨w.heap.size + 2, 0, none⟩), .pointer (some ⟨w.heap.size, 0, none⟩), .pointer (some ⟨w.heap.size + 1, 0, none⟩)]) ∧
      w' = ((w.alloc (.cells #[.pointer (some ⟨bh, 0, none⟩)] 66)).alloc (.cells #[.slice aI nI cI] 55)).alloc (.cells #[.slice aQ nQ cQ] 60) := by
  have hmf : ∀ (fn : Fn) (first cap : Array Value) (w : World), (Instr.makeFunc fn first cap).run Yba.prog w = .ok (.func fn first cap) w := fun _ _ _ _ => rfl
  have hq : (binOp .neq 61 (.pointer (some ⟨bo, 0, none⟩)) (.pointer (some ⟨bh, 0, none⟩))).run Yba.prog (((w.alloc (.cells #[.pointer (some ⟨bh, 0, none⟩)] 66)).alloc (.cells #[.slice aI nI cI] 55)).alloc (.cells #[.slice aP nP cP] 60)) = .ok (.bool true) (((w.alloc (.cells #[.pointer (some ⟨bh, 0, none⟩)] 66)).alloc (.cells #[.slice aI nI cI] 55)).alloc (.cells #[.slice aP nP cP] 60)) := by
    refine neq_other _ (fun e => hne (congrArg Addr.block e)) (ca := ca) (ta := ta) (cb := cb) (tb := tb) ?_ ?_
    · rw [Below.heap_alloc _ _ _ (by simp; omega), Below.heap_alloc _ _ _ (by simp; omega), Below.heap_alloc _ _ _ hbo]; exact ka
    · rw [Below.heap_alloc _ _ _ (by simp; omega), Below.heap_alloc _ _ _ (by simp; omega), Below.heap_alloc _ _ _ hb]; exact kb
  have e3 : ∀ (b o : Nat) (x y z : Obj), b < w.heap.size → (((w.alloc x).alloc y).alloc z).cell? ⟨b, o, none⟩ = w.cell? ⟨b, o, none⟩ := fun b o x y z h => by
    rw [World.cell?_alloc_past _ _ _ (by simp; omega), World.cell?_alloc_past _ _ _ (by simp; omega), World.cell?_alloc_past _ _ _ h]
  have k1 := (e3 bh 31 (.cells #[.pointer (some ⟨bh, 0, none⟩)] 66) (.cells #[.slice aI nI cI] 55) (.cells #[.slice aP nP cP] 60) hb).trans hh
  have k2 := (e3 bt 1 (.cells #[.pointer (some ⟨bh, 0, none⟩)] 66) (.cells #[.slice aI nI cI] 55) (.cells #[.slice aP nP cP] 60) hbt).trans ht1
  clear ka kb e3
  go_enter Yba.func13, Yba.ntmps13
  go_wp2
  go_ret
  exact ⟨rfl, rfl⟩
end Go.Proofs.Ybulkxci.Yields
