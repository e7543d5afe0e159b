/- The walk's laws at a map's operations, for maps whose keys are values of an interface. -/
import Derived.Test.YtmkbgdgfbmfbdaaDoorMapKit
namespace Go.Proofs.YtmkbgdgfbmfbdaaDoor
open Go.RowKit Go.ChangeMaps

section
variable {α : Type} [DecidableEq α] {mk : α → Value} {P : Program} {I : TypeId} (w : World) {ops : Array Oper} {rest : List Oper} {o : Oper} {a : Act} {Q : Exit → Act → World → Prop}

theorem wpList_mlook (hg : o.guard = none) (m x : Operand) (t : TypeId) (hop : o.op = Op.lookup t m x true) (K : KeyKind P I mk) {e : TypeId} (ht : P.underlying t = some (.map I e)) {z : Value} (hz : (zeroValue e).run P w = .ok z w) (b : Nat) (L : List (α × Value))
    (hm : a.eval m = .map (some b)) (h : IMap w mk b L) (k : α) (hx : a.eval x = mk k) (hK : wpList P ops Q rest (a.put o.dst (.tuple #[(mlook L k).getD z, .bool (mlook L k).isSome])) w) :
    wpList P ops Q (o :: rest) a w := by
  refine wpList_plain hg fun K' hK' => ?_
  have hrun := run_look K ht hz h k true
  unfold Oper.wp
  simp [execOp, hop, hm, hx, hrun, Result.andThen]
  exact hK' _ _ hK
theorem wpList_mlook1 (hg : o.guard = none) (m x : Operand) (t : TypeId) (hop : o.op = Op.lookup t m x false) (K : KeyKind P I mk) {e : TypeId} (ht : P.underlying t = some (.map I e)) {z : Value} (hz : (zeroValue e).run P w = .ok z w) (b : Nat) (L : List (α × Value))
    (hm : a.eval m = .map (some b)) (h : IMap w mk b L) (k : α) (hx : a.eval x = mk k) (hK : wpList P ops Q rest (a.put o.dst ((mlook L k).getD z)) w) :
    wpList P ops Q (o :: rest) a w := by
  refine wpList_plain hg fun K' hK' => ?_
  have hrun := run_look K ht hz h k false
  unfold Oper.wp
  simp [execOp, hop, hm, hx, hrun, Result.andThen]
  exact hK' _ _ hK
theorem wpList_mput (hg : o.guard = none) (m x v : Operand) (t : TypeId) (hop : o.op = Op.mapUpdate t m x v) (K : KeyKind P I mk) {e : TypeId} (ht : P.underlying t = some (.map I e)) (b : Nat) (L : List (α × Value))
    (hm : a.eval m = .map (some b)) (h : IMap w mk b L) (k : α) (hx : a.eval x = mk k) (hK : ∀ w', IMap w' mk b (mput L k (a.eval v)) → Only [b] w w' → wpList P ops Q rest (a.put o.dst undef) w') :
    wpList P ops Q (o :: rest) a w := by
  refine wpList_plain hg fun K' hK' => ?_
  obtain ⟨w', hrun, r1, r2⟩ := run_put K ht h k (a.eval v)
  unfold Oper.wp
  simp [execOp, hop, hm, hx, hrun, Result.andThen]
  exact hK' _ _ (hK w' r1 r2)
theorem wpList_mdel (hg : o.guard = none) (m x : Operand) (t k' : TypeId) (hop : o.op = Op.call { callee := Callee.builtin Builtin.delete, args := #[m, x], argTypes := #[t, k'] }) (hk' : k' = I) (K : KeyKind P I mk) {e : TypeId} (ht : P.underlying t = some (.map I e)) (b : Nat) (L : List (α × Value))
    (hm : a.eval m = .map (some b)) (h : IMap w mk b L) (k : α) (hx : a.eval x = mk k) (hK : ∀ w', IMap w' mk b (mdel L k) → Only [b] w w' → wpList P ops Q rest (a.put o.dst (.tuple #[])) w') :
    wpList P ops Q (o :: rest) a w := by
  subst hk'
  refine wpList_plain hg fun K' hK' => ?_
  obtain ⟨w', hrun, r1, r2⟩ := run_del K ht h k o.type
  unfold Oper.wp
  simp [execOp, hop, resolve, invoke, builtin, hm, hx, hrun, Result.andThen]
  exact hK' _ _ (hK w' r1 r2)
theorem wpList_mrange (hg : o.guard = none) (m : Operand) (t : TypeId) (hop : o.op = Op.range t m) {e : TypeId} (ht : P.underlying t = some (.map I e)) (b : Nat) (L : List (α × Value)) (hm : a.eval m = .map (some b)) (h : IMap w mk b L)
    (hK : ∀ w', IRange w' mk b w.heap.size L [] → Below w.heap.size w w' → wpList P ops Q rest (a.put o.dst (.pointer (some ⟨w.heap.size, 0, none⟩))) w') :
    wpList P ops Q (o :: rest) a w := by
  refine wpList_plain hg fun K' hK' => ?_
  obtain ⟨w', hrun, r1, r2⟩ := run_range ht h
  unfold Oper.wp
  simp [execOp, hop, hm, hrun, Result.andThen]
  exact hK' _ _ (hK w' r1 r2)
theorem wpList_mnext (hg : o.guard = none) (it : Operand) (hop : o.op = Op.next it false) (hinj : ∀ x y, mk x = mk y → x = y) (b r : Nat) (L : List (α × Value)) (done : List α) (hit : a.eval it = .pointer (some ⟨r, 0, none⟩)) (h : IRange w mk b r L done)
    (hDone : (∀ k ∈ mkeys L, k ∈ done) → wpList P ops Q rest (a.put o.dst (.tuple #[.bool false])) w)
    (hMore : ∀ k v w', k ∈ mkeys L → k ∉ done → (k, v) ∈ L → IRange w' mk b r L (done ++ [k]) → Only [r] w w' → (∀ w'' : World, w''.heap[b]? = w'.heap[b]? → w''.heap[r]? = w'.heap[r]? → (Instr.entry (.pointer (some ⟨r, 0, none⟩))).run P w'' = .ok (.tuple #[mk k, v]) w'') →
      wpList P ops Q rest (a.put o.dst (.tuple #[.bool true, mk k, v])) w') :
    wpList P ops Q (o :: rest) a w := by
  refine wpList_plain hg fun K' hK' => ?_
  unfold Oper.wp
  rcases run_next (P := P) hinj h o.type with ⟨h0, hrun⟩ | ⟨k, v, w', m1, m2, m3, hrun, m4, m5, m6⟩
  · simp [execOp, hop, hit, hrun, Result.andThen]
    exact hK' _ _ (hDone h0)
  · simp [execOp, hop, hit, hrun, Result.andThen]
    exact hK' _ _ (hMore k v w' m1 m2 m3 m4 m5 m6)
end
section
variable {α : Type} {mk : α → Value} {P : Program} {I : TypeId} (w : World) {ops : Array Oper} {rest : List Oper} {o : Oper} {a : Act} {Q : Exit → Act → World → Prop}
theorem wpList_mlen (hg : o.guard = none) (m : Operand) (t : TypeId) (hop : o.op = Op.call { callee := Callee.builtin Builtin.len, args := #[m], argTypes := #[t] }) {e : TypeId} (ht : P.underlying t = some (.map I e)) (b : Nat) (L : List (α × Value))
    (hm : a.eval m = .map (some b)) (h : IMap w mk b L) (hK : wpList P ops Q rest (a.put o.dst (.int .i64 L.length)) w) :
    wpList P ops Q (o :: rest) a w := by
  refine wpList_plain hg fun K' hK' => ?_
  have hrun := run_len (P := P) ht h o.type
  unfold Oper.wp
  simp [execOp, hop, resolve, invoke, builtin, hm, hrun, Result.andThen]
  exact hK' _ _ hK
end
end Go.Proofs.YtmkbgdgfbmfbdaaDoor
