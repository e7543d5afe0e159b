/- A law whose walk answers true and leaves old memory alone holds as a row; every argument reads afterwards as it read before. -/
import Derived.WalkKit
import Derived.ProofKit
import Derived.OpenShut
import Derived.Carry
import Derived.Lib.Hide
namespace Go.Proofs.Ytalphojbkeleiaa.LawKit
open Go.ChangeShapes Go.WideShapes Go.ChangeAt Go.RowKit

theorem trodAll_below {H : Type} {enc : TypeId × Value → H} {P : Program} (hl : laidOutB P = true) {W W' : World} (hb : Below W.heap.size W W') :
    ∀ (ts : List TypeId) (vs : List Value) (ds : List (DataW H)) (ps : List MemPlace), (ts.all fun t => P.readableRec t && decide (t < P.types.size)) = true →
      DataW.TrodAll enc P W 0 (fun _ => true) true ts vs ds ps → (∀ x ∈ ps, x.block < W.heap.size) →
      DataW.TrodAll enc P W' 0 (fun b => decide (b < W.heap.size)) true ts vs ds ps
  | [], vs, ds, ps, _, h, _ => by
    obtain ⟨rfl, rfl, rfl⟩ := trodAll_nil h
    exact rfl
  | t :: ts, vs, ds, ps, hr, h, hlt => by
    obtain ⟨v, vs', d, ds', p, q, rfl, rfl, rfl, h0, h1⟩ := trodAll_cons h
    simp only [List.all_cons, Bool.and_eq_true, decide_eq_true_eq] at hr
    exact ⟨p, q, Below.trod hl hr.1.1 hr.1.2 h0 hb (fun x hx => hlt x (List.mem_append_left _ hx)),
      trodAll_below hl hb ts vs' ds' q (by simpa using hr.2) h1 (fun x hx => hlt x (List.mem_append_right _ hx)), rfl⟩

theorem lifted {C : Checked} {os : Os} {H : Type} {enc : TypeId × Value → H} {f : FuncId} {fn : Func} {s : ChangeSpec} {T : TypeId}
    (own : ownKnob C.prog.godebug = none) (started : os.Started) (noInit : C.prog.inits.idxOf? f = none) (hfn : C.prog.funcs[f]? = some fn)
    (hl : laidOutB C.prog = true) (hr : (fn.params.toList.all fun t => C.prog.readableRec t && decide (t < C.prog.types.size)) = true)
    (hres : fn.resultTypes = #[T]) (hT : C.prog.underlying T = some .bool) (hvars : s.vars = [])
    (hs : ∀ ds : List (DataW H), ds.length = fn.params.toList.length → s.fn H (ds ++ []) = { results := [.lit (.bool true)], args := ds })
    (witness : ∃ (w : World) (tape : Tape) (i : Input), w.os = os ∧ (w.forCall tape i).Shaped C.prog ∧ i.vars = [] ∧ Input.okWide C.prog (w.forCall tape i) .any w.heap.size f i ∧
      s.pre6 enc C.prog fn [] false (w.forCall tape i).memory i.args ∧ (({} : Assume)).holds C.prog (lone (Frame.enter C.prog f i.args .normal) [] (w.forCall tape i)))
    (walk : ∀ (W : World) (base : Nat) (args : Array Value) (ds : List (DataW H)) (p : List MemPlace),
      (∀ (j : Nat) t v, fn.params[j]? = some t → args[j]? = some v → Value.okWide C.prog W .any base t v) →
      DataW.TrodAll enc C.prog W 0 (fun _ => true) true fn.params.toList args.toList ds p → (∀ x ∈ p, x.block < W.heap.size) →
      Calls C.prog f args W fun e W' => e = .returned (.bool true) ∧ Below W.heap.size W W') :
    ReturnsInHanded {} C os f .any (s.pre6 enc C.prog fn [] false) (s.post enc C.prog fn false true false false) := by
  refine returnsInHanded_of_change own started noInit hfn witness ?_
  intro W base args ds gs before hval hW _ _
  have hW' := hW
  obtain ⟨p, q, hA, hV, hbe, hfz, hnd⟩ := hW
  rw [hvars] at hV
  obtain ⟨rfl, rfl⟩ := trodVars_none hV
  rw [List.append_nil] at hbe
  subst hbe
  have hlt : ∀ x ∈ before, x.block < W.heap.size := fun x hx => by simpa using hW'.lt x hx
  refine (walk W base args ds before hval hA hlt).mono fun e W' ⟨he, hb⟩ => ?_
  have hlen : ds.length = fn.params.toList.length := by
    have : ∀ (ts : List TypeId) (vs : List Value) (ds : List (DataW H)) (ps : List MemPlace), DataW.TrodAll enc C.prog W 0 (fun _ => true) true ts vs ds ps → ds.length = ts.length := by
      intro ts
      induction ts with
      | nil => intro vs ds ps h; obtain ⟨_, rfl, _⟩ := trodAll_nil h; rfl
      | cons t ts ih =>
        intro vs ds ps h
        obtain ⟨v, vs', d, ds', p, q, rfl, rfl, rfl, h0, h1⟩ := trodAll_cons h
        simp [ih _ _ _ h1]
    exact this _ _ _ _ hA
  have hsp := hs ds hlen
  subst he
  refine ⟨_, rfl, ds, [], before, [], before, [], hW', ?_, ?_, ?_, hb.frame _, fun h => by cases h⟩
  · rw [hsp, hres]
    exact trodAll_mk1 (shut_bool hT true)
  · rw [hsp]
    exact trodAll_below hl hb _ _ _ _ hr hA hlt
  · rw [hsp, hvars]
    exact rfl

end Go.Proofs.Ytalphojbkeleiaa.LawKit
