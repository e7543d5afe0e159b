/- Items as keys of a map. -/
import Derived.Test.YtmkbgdgfbmfbdaaDoorP2
import Derived.Lib.IfaceEq
import Derived.LaidEql
namespace Go.Proofs.YtmkbgdgfbmfbdaaDoor
open Go.RowKit

theorem pit_inj (x y : Item) (h : pit x = pit y) : x = y := by
  obtain ⟨x1, x2⟩ := x
  obtain ⟨y1, y2⟩ := y
  simp [pit] at h
  rw [h.1, h.2]
set_option maxRecDepth 100000 in
theorem eq_int (d : Nat) (a b : Int) (w : World) : (Op.equalIn (d + 1) 3 (.int .i64 a) (.int .i64 b)).run Tryd.prog w = .ok (a == b) w := by
  simp [Op.equalIn, run_underlying Tryd.underlying3]
set_option maxRecDepth 100000 in
theorem eq_PQ (d : Nat) (a b : Item) (w : World) : (Op.equalIn (d + 2) 48 (.agg #[.int .i64 a.1, .int .i64 a.2]) (.agg #[.int .i64 b.1, .int .i64 b.2])).run Tryd.prog w = .ok (a.1 == b.1 && a.2 == b.2) w := by
  have p1 : ∀ (a b : Int) (w : World), (part 3 #[Value.int .i64 a, Value.int .i64 b] 0).run Tryd.prog w = .ok (.int .i64 a) w := fun _ _ _ => by kernel_rfl
  have p2 : ∀ (a b : Int) (w : World), (part 3 #[Value.int .i64 a, Value.int .i64 b] 1).run Tryd.prog w = .ok (.int .i64 b) w := fun _ _ _ => by kernel_rfl
  rw [Op.equalIn]
  simp [run_underlying Tryd.underlying48, p1, p2, eq_int]
  by_cases h1 : a.1 = b.1 <;> by_cases h2 : a.2 = b.2 <;> simp [h1, h2]
set_option maxRecDepth 100000 in
theorem eq_pq (d : Nat) (a b : Item) (w : World) : (Op.equalIn (d + 3) 76 (.agg #[.int .i64 a.1, .int .i64 a.2]) (.agg #[.int .i64 b.1, .int .i64 b.2])).run Tryd.prog w = .ok (a.1 == b.1 && a.2 == b.2) w := by
  have p1 : ∀ (a b : Int) (w : World), (part 48 #[Value.int .i64 a, Value.int .i64 b] 0).run Tryd.prog w = .ok (.agg #[.int .i64 a, .int .i64 b]) w := fun _ _ _ => by kernel_rfl
  rw [Op.equalIn]
  simp [run_underlying Tryd.underlying76, p1, eq_PQ]
  by_cases h1 : a.1 = b.1 <;> by_cases h2 : a.2 = b.2 <;> simp [h1, h2]
set_option maxRecDepth 100000 in
theorem chk_PQ (d : Nat) (em : Bool) (a : Item) (w : World) : (Instr.checkKey em (d + 2) 48 (.agg #[.int .i64 a.1, .int .i64 a.2])).run Tryd.prog w = .ok () w := by
  have p1 : ∀ (a b : Int) (w : World), (part 3 #[Value.int .i64 a, Value.int .i64 b] 0).run Tryd.prog w = .ok (.int .i64 a) w := fun _ _ _ => by kernel_rfl
  have p2 : ∀ (a b : Int) (w : World), (part 3 #[Value.int .i64 a, Value.int .i64 b] 1).run Tryd.prog w = .ok (.int .i64 b) w := fun _ _ _ => by kernel_rfl
  have c1 : ∀ (a : Int) (w : World), (Instr.checkKey em (d + 1) 3 (.int .i64 a)).run Tryd.prog w = .ok () w := fun a w => by
    simp [Instr.checkKey, run_underlying Tryd.underlying3]
  rw [Instr.checkKey]
  simp [run_underlying Tryd.underlying48, p1, p2, c1]
set_option maxRecDepth 100000 in
theorem chk_pq (d : Nat) (em : Bool) (a : Item) (w : World) : (Instr.checkKey em (d + 3) 76 (.agg #[.int .i64 a.1, .int .i64 a.2])).run Tryd.prog w = .ok () w := by
  have p1 : ∀ (a b : Int) (w : World), (part 48 #[Value.int .i64 a, Value.int .i64 b] 0).run Tryd.prog w = .ok (.agg #[.int .i64 a, .int .i64 b]) w := fun _ _ _ => by kernel_rfl
  rw [Instr.checkKey]
  simp [run_underlying Tryd.underlying76, p1, chk_PQ]
set_option maxRecDepth 100000 in
theorem pkind : KeyKind Tryd.prog 85 pit where
  iface := ⟨_, Tryd.underlying85⟩
  eq w a b := by
    cases hi : Tryd.prog.info? 76 with
    | none => exact absurd hi (by decide +kernel)
    | some i =>
      have hcc : (Tryd.prog.info? 76).map (·.comparable) = some true := by kernel_rfl
      rw [hi] at hcc
      have hc : i.comparable = true := by simpa using hcc
      have h : ∀ d : Nat, (Op.equalIn (d + 4) 85 (.iface 76 (.agg #[.int .i64 a.1, .int .i64 a.2])) (.iface 76 (.agg #[.int .i64 b.1, .int .i64 b.2]))).run Tryd.prog w = .ok (a.1 == b.1 && a.2 == b.2) w := fun d => by
        rw [Op.equalIn]
        simp [run_underlying Tryd.underlying85, typeInfo, hi, hc, eq_pq]
      have h2 : (Op.equal 85 (pit a) (pit b)).run Tryd.prog w = .ok (a.1 == b.1 && a.2 == b.2) w := h 9996
      rw [h2]
      congr 1
      by_cases e : a = b
      · subst e; simp
      · rw [decide_eq_false e]
        obtain ⟨a1, a2⟩ := a
        obtain ⟨b1, b2⟩ := b
        simp at e ⊢
        exact e
  chk w em a := by
    cases hi : Tryd.prog.info? 76 with
    | none => exact absurd hi (by decide +kernel)
    | some i =>
      have hcc : (Tryd.prog.info? 76).map (·.comparable) = some true := by kernel_rfl
      rw [hi] at hcc
      have hc : i.comparable = true := by simpa using hcc
      have h : ∀ d : Nat, (Instr.checkKey em (d + 4) 85 (.iface 76 (.agg #[.int .i64 a.1, .int .i64 a.2]))).run Tryd.prog w = .ok () w := fun d => by
        rw [Instr.checkKey]
        simp [run_underlying Tryd.underlying85, typeInfo, hi, hc, chk_pq]
      exact h 9996
  stay a := by simp [pit, Instr.sameBits]
end Go.Proofs.YtmkbgdgfbmfbdaaDoor
