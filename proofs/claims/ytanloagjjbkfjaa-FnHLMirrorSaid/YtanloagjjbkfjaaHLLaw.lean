/- FnHLMirror answers true for every two numbers of 32 bits. -/
import Derived.Test.YtanloagjjbkfjaaHLWalk
import Derived.Test.YtanloagjjbkfjaaLawKit
namespace Go.Proofs.Ytanloagjjbkfjaa.HLMirror
open Go.ChangeShapes Go.WideShapes Go.ChangeAt Go.RowKit

set_option maxHeartbeats 400000 in
theorem hlEncode (x y : Int) (w : World) :
    Calls Try.prog 7 #[.int .i32 x, .int .i32 y] w fun e w' => e = .returned (.int .i64 (HL.enc x y)) ∧ Below w.heap.size w w' := by
  go_enter Try.func7, Try.ntmps7
  go_wp2_with fail
  refine (enc_any _ _ _).mono ?_
  rintro e w' ⟨rfl, hb⟩
  have HB := Lib.hid hb
  clear hb
  go_wp2_with fail
  go_ret
  exact ⟨rfl, HB.out⟩

set_option maxHeartbeats 400000 in
theorem hlPlace (x y : Int) (w : World) (hx0 : 0 ≤ x) (hx : x < 4294967296) (hy0 : 0 ≤ y) (hy : y < 4294967296) :
    Calls Try.prog 6 #[.int .u32 x, .int .u32 y] w fun e w' => e = .returned (.tuple #[.int .i32 (x / 2), .int .i32 (y / 2)]) ∧ w = w' := by
  go_enter Try.func6, Try.ntmps6
  go_wp2_with fail
  go_ret2
  exact ⟨rfl, rfl⟩
set_option maxHeartbeats 400000 in
theorem walk (x y : Int) (w : World) (hx0 : 0 ≤ x) (hx : x < 4294967296) (hy0 : 0 ≤ y) (hy : y < 4294967296) :
    Calls Try.prog 3 #[.int .u32 x, .int .u32 y] w fun e w' => e = .returned (.bool true) ∧ Below w.heap.size w w' := by
  obtain ⟨a, ha⟩ : ∃ a : Nat, x / 2 = (a : Int) := ⟨(x / 2).toNat, by omega⟩
  obtain ⟨b, hb⟩ : ∃ b : Nat, y / 2 = (b : Int) := ⟨(y / 2).toNat, by omega⟩
  have ha2 : a < 2147483648 := by omega
  have hb2 : b < 2147483648 := by omega
  have hm := HL.enc_mirror a b ha2 hb2
  have hbd := HL.enc_bound a b ha2 hb2
  have HM := Lib.hid hm
  have HA := Lib.hid ha
  have HB := Lib.hid hb
  clear hm ha hb
  go_enter Try.func3, Try.ntmps3
  go_wp2_with fail
  refine (hlPlace _ _ _ hx0 hx hy0 hy).mono ?_
  rintro e w' ⟨rfl, rfl⟩
  rw [HA.out, HB.out]
  go_wp2_with fail
  refine (hlEncode _ _ _).mono ?_
  rintro e w1 ⟨rfl, hb1⟩
  have HB1 := Lib.hid hb1
  clear hb1
  go_wp2_with fail
  refine (hlEncode _ _ _).mono ?_
  rintro e w2 ⟨rfl, hb2⟩
  have HB2 := Lib.hid hb2
  clear hb2
  go_wp2_with fail
  go_ret
  refine ⟨congrArg (fun b => Ending.returned (.bool b)) ?_, HB1.out.trans (HB2.out.mono HB1.out.size)⟩
  rw [HM.out]
  exact beq_self_eq_true _

theorem own : ownKnob Try.prog.godebug = none := by kernel_rfl
theorem laidOut : laidOutB Try.prog = true := by kernel_rfl

set_option maxRecDepth 100000 in
theorem lifted (os : Os) (started : os.Started) (H : Type) (enc : TypeId × Value → H) :
    ReturnsInHanded {} Try.checked os 3 .any (Rows.fnHLMirrorSpec.pre6 enc Try.prog Try.f3 Rows.fnHLMirrorRow.domain false) (Rows.fnHLMirrorSpec.post enc Try.prog Try.f3 false true false false) := by
  refine LawKit.lifted (C := Try.checked) (T := 4) own started (by kernel_rfl) Try.func3 laidOut (by kernel_rfl) (by kernel_rfl) Try.underlying4 rfl ?_
    (ChangeSpec.witness6 (enc := enc) (C := Try.checked) false ⟨#[], #[.int .u32 0, .int .u32 0], []⟩ 8 (by kernel_rfl) (by kernel_rfl) (by kernel_rfl) (by kernel_rfl)) ?_
  · intro ds hd
    match ds, hd with
    | [_, _], _ => rfl
  · intro W base args ds p hval0 hA0 _
    have hval : ∀ (j : Nat) t v, Try.f3.params[j]? = some t → args[j]? = some v → Value.okWide Try.prog W .any base t v := hval0
    have hA : DataW.TrodAll enc Try.prog W 0 (fun _ => true) true Try.f3.params.toList args.toList ds p := hA0
    rw [Try.params3] at hA hval
    obtain ⟨v0, vs0, d0, ds0, p0, q0, hargs, rfl, rfl, h0, r0⟩ := trodAll_cons hA
    obtain ⟨v1, vs1, d1, ds1, p1, q1, rfl, rfl, rfl, h1, r1⟩ := trodAll_cons r0
    obtain ⟨rfl, rfl, rfl⟩ := trodAll_nil r1
    obtain rfl : args = #[v0, v1] := by cases args; simp_all
    obtain ⟨a0, rfl, rfl, rfl, w0⟩ := open_int Try.underlying22 (hval 0 22 v0 rfl rfl) h0
    obtain ⟨a1, rfl, rfl, rfl, w1⟩ := open_int Try.underlying22 (hval 1 22 v1 rfl rfl) h1
    have b0 := bounds_u32 w0
    have b1 := bounds_u32 w1
    exact walk a0 a1 W b0.1 (by omega) b1.1 (by omega)

theorem proved : Rows.FnHLMirrorSaid :=
  OpenClaim.holds_of_wide 3 Try.f3 rfl rfl rfl rfl rfl rfl rfl ⟨rfl, rfl, rfl, rfl, rfl⟩ rfl rfl rfl rfl rfl (by kernel_rfl) Try.func3 (by kernel_rfl)
    (of_decide_eq_true (by kernel_rfl)) (by unfold Func.isWrapper; first | (rw [if_pos (by decide +kernel)]; kernel_rfl) | (rw [if_neg (by decide +kernel)]; exact ⟨rfl, rfl⟩))
    (fun os started H enc _ => lifted os started H enc)
#print axioms proved
end Go.Proofs.Ytanloagjjbkfjaa.HLMirror
