/- A law over listed package variables, whose walk answers true and leaves old memory alone, holds as a row. -/
import Derived.Test.YtmkbgdgfbmfbdaaDoorLawKit
import Derived.LaidMore
import Derived.OpenVars
import Derived.LaidHandle
import Derived.Stop.Joined
namespace Go.Proofs.YtmkbgdgfbmfbdaaDoor.DoorKit
open Go.ChangeShapes Go.WideShapes Go.ChangeAt Go.RowKit

theorem vars_len {H : Type} {enc : TypeId × Value → H} {P : Program} {W : World} {sp : Nat → Bool} : ∀ {ns : List String} {gs : List (DataW H)} {q : List MemPlace}, DataW.TrodVars enc P W sp ns gs q → gs.length = ns.length
  | [], [], _, _ => rfl
  | [], _ :: _, _, h => h.elim
  | _ :: _, [], _, h => h.elim
  | _ :: ns, _ :: gs, _, h => by
    obtain ⟨_, _, _, _, _, q', _, _, _, _, h2, _⟩ := h
    simp [vars_len h2]
theorem args_len {H : Type} {enc : TypeId × Value → H} {P : Program} {W : World} : ∀ (ts : List TypeId) (vs : List Value) (ds : List (DataW H)) (ps : List MemPlace), DataW.TrodAll enc P W 0 (fun _ => true) true ts vs ds ps → ds.length = ts.length
  | [], vs, ds, ps, h => by obtain ⟨_, rfl, _⟩ := trodAll_nil h; rfl
  | t :: ts, vs, ds, ps, h => by
    obtain ⟨v, vs', d, ds', p, q, rfl, rfl, rfl, h0, h1⟩ := trodAll_cons h
    simp [args_len ts _ _ _ h1]

theorem lifted {C : Checked} {os : Os} {H : Type} {enc : TypeId × Value → H} {f : FuncId} {fn : Func} {s : ChangeSpec} {T : TypeId} {laid : List (String × DataW Unit)}
    (own : ownKnob C.prog.godebug = none) (started : os.Started) (noInit : C.prog.inits.idxOf? f = none) (hfn : C.prog.funcs[f]? = some fn)
    (hl : laidOutB C.prog = true) (hr : (fn.params.toList.all fun t => C.prog.readableRec t && decide (t < C.prog.types.size)) = true)
    (hres : fn.resultTypes = #[T]) (hT : C.prog.underlying T = some .bool) (hvars : varsRowed C.prog s.vars = true)
    (hs : ∀ ds gs : List (DataW H), ds.length = fn.params.toList.length → gs.length = s.vars.length → s.fn H (ds ++ gs) = { results := [.lit (.bool true)], args := ds, vars := gs })
    (witness : ∃ (w : World) (tape : Tape) (i : Input), w.os = os ∧ (w.forCall tape i).Shaped C.prog ∧ i.vars = [] ∧ Input.okWide C.prog (w.forCall tape i) .any w.heap.size f i ∧
      ((s.pre enc C.prog fn [] false (w.forCall tape i).memory i.args ∧ laidMetH C.prog laid (w.forCall tape i).memory) ∧ sizedMet enc C.prog fn (OpenSpec.ofChange s) false (w.forCall tape i).memory i.args) ∧ (({} : Assume)).holds C.prog (lone (Frame.enter C.prog f i.args .normal) [] (w.forCall tape i)))
    (walk : ∀ (W : World) (base : Nat) (args : Array Value) (ds : List (DataW H)) (p : List MemPlace),
      (∀ (j : Nat) t v, fn.params[j]? = some t → args[j]? = some v → Value.okWide C.prog W .any base t v) →
      DataW.TrodAll enc C.prog W 0 (fun _ => true) true fn.params.toList args.toList ds p → (∀ x ∈ p, x.block < W.heap.size) → laidMetH C.prog laid W →
      Calls C.prog f args W fun e W' => e = .returned (.bool true) ∧ Below W.heap.size W W') :
    ReturnsInHanded {} C os f .any (fun w args => (s.pre enc C.prog fn [] false w args ∧ laidMetH C.prog laid w) ∧ sizedMet enc C.prog fn (OpenSpec.ofChange s) false w args) (s.post enc C.prog fn false true false false) := by
  refine returnsInHanded_of_change_and (X := fun w _ => laidMetH C.prog laid w) (fun _ _ _ hh h => h.of_heap hh) own started noInit hfn witness ?_
  intro W base args ds gs before hval hW _ _ hL _
  have hW' := hW
  obtain ⟨p, q, hA, hV, hbe, hfz, hnd⟩ := hW
  have hlt : ∀ x ∈ before, x.block < W.heap.size := fun x hx => hW'.lt x hx
  subst hbe
  refine (walk W base args ds p hval hA (fun x hx => hlt x (List.mem_append_left _ hx)) hL).mono fun e W' ⟨he, hb⟩ => ?_
  have hsp := hs ds gs (args_len _ _ _ _ hA) (vars_len hV)
  subst he
  refine ⟨_, rfl, ds, gs, p ++ q, [], p, q, hW', ?_, ?_, ?_, hb.frame _, fun h => by cases h⟩
  · rw [hsp, hres]
    exact trodAll_mk1 (shut_bool hT true)
  · rw [hsp]
    exact LawKit.trodAll_below hl hb _ _ _ _ hr hA (fun x hx => hlt x (List.mem_append_left _ hx))
  · rw [hsp]
    exact Below.trodVars hl hb hvars hV
end Go.Proofs.YtmkbgdgfbmfbdaaDoor.DoorKit
