/- FnISTwo answers true for every list and every two numbers. -/
import Derived.Test.YtkjlijgeoidmiaaI5
import Derived.Test.YtkjlijgeoidmiaaLawKit
namespace Go.Proofs.Ytkjlijgeoidmiaa.LISTwo
open Go.RowKit Go.ChangeShapes Go.WideShapes Go.ChangeAt

set_option maxRecDepth 100000 in
set_option maxHeartbeats 4000000 in
theorem walk {w : World} {so : Option Addr} {n cp : Nat} {xs : List Int} {x y : Int} (hxl : xs.length = n) (hx : 0 < n → I16s w (.slice so n cp) xs) (hxb : ∀ x ∈ xs, -32768 ≤ x ∧ x ≤ 32767) (bx : -32768 ≤ x ∧ x ≤ 32767) (by_ : -32768 ≤ y ∧ y ≤ 32767) :
    Calls Try.prog 3 #[.slice so n cp, .int .i16 x, .int .i16 y] w fun e w' => e = .returned (.bool true) ∧ Below w.heap.size w w' := by
  by_cases hs : 2147483647 < n
  · have g0 : decide ((2147483647 : Int) < (n : Int)) = true := by simp; omega
    go_enter Try.func3, Try.ntmps3
    go_wp2_with fail
    go_ret
    exact ⟨rfl, Below.refl _ _⟩
  have g0 : decide ((2147483647 : Int) < (n : Int)) = false := by simp; omega
  by_cases hf : ¬ (0 < n ∧ n ≤ 30)
  · go_enter Try.func3, Try.ntmps3
    go_wp2_with fail
    refine (few_any _ _ _ _).mono ?_
    rintro e w' ⟨rfl, rfl⟩
    rw [(show (decide (0 < n) && decide (n ≤ 30)) = false by simp; omega)]
    go_wp2_with fail
    go_ret
    exact ⟨rfl, Below.refl _ _⟩
  obtain ⟨h0, hn⟩ := Decidable.not_not.1 hf
  clear hf
  have HX : Hid (I16s w (.slice so n cp) xs ∧ (∀ x ∈ xs, -32768 ≤ x ∧ x ≤ 32767) ∧ xs.length = n) := ⟨hx h0, hxb, hxl⟩
  obtain ⟨bx1, bx2⟩ := bx
  obtain ⟨by1, by2⟩ := by_
  have wx : IntKind.i64.wrap x = x := by rw [IntKind.wrap_i64]; omega
  have wy : IntKind.i64.wrap y = y := by rw [IntKind.wrap_i64]; omega
  clear hx hxb hxl hs
  go_enter Try.func3, Try.ntmps3
  go_wp2_with fail
  refine (few_any _ _ _ _).mono ?_
  rintro e w' ⟨rfl, rfl⟩
  rw [(show (decide (0 < n) && decide (n ≤ 30)) = true by simp; omega)]
  go_wp2_with fail
  refine (longs_any HX.out.1 (by have := HX.out.2.2; omega) HX.out.2.1).mono ?_
  rintro e w1 ⟨v1, rfl, hown, hb⟩
  rw [HX.out.2.2] at hown
  obtain ⟨g, c1, rfl⟩ := own_some hown h0
  have H1 : Hid (w1.ownsRow w.heap.size 2 1 (.slice (some ⟨g, 0, none⟩) n c1) n (xs.map (Value.int .i64)) ∧ Below w.heap.size w w1) := ⟨hown, hb⟩
  clear hown hb
  go_wp2_with fail
  refine (sort_any H1.out.1 H1.out.2.size (by omega)).mono ?_
  rintro e w2 ⟨rfl, ys, hys, hyp, hown, hb⟩
  have H2 : Hid (w2.ownsRow w.heap.size 2 1 (.slice (some ⟨g, 0, none⟩) n c1) n (ys.map (Value.int .i64)) ∧ Below w.heap.size w w2 ∧ ys.Pairwise (· ≤ ·)) := ⟨hown, H1.out.2.trans hb, hys⟩
  clear hown hb hys hyp
  go_wp2_with fail
  refine (compact_any H2.out.1 (by omega)).mono ?_
  rintro e w3 ⟨rfl, hown, hb⟩
  obtain ⟨zs, hzs⟩ : ∃ zs, zs = Lib.compact ys := ⟨_, rfl⟩
  obtain ⟨m, hm⟩ : ∃ m, m = zs.length := ⟨_, rfl⟩
  have hyl : ys.length = n := by have := H2.out.1.1; simpa using this
  have hm1 : m ≤ 30 := by have := compact_len ys; rw [hm, hzs]; omega
  have hm0 : 0 < m := by rw [hm, hzs]; exact compact_pos (by omega)
  have hza : Asc zs := by rw [hzs]; exact compact_asc H2.out.2.2
  rw [← hzs, ← hm] at hown ⊢
  have H3 : Hid (Ints w3 (.slice (some ⟨g, 0, none⟩) m c1) zs ∧ Below w.heap.size w w3 ∧ Asc zs ∧ m = zs.length) := ⟨Vals.of_own hown, H2.out.2.1.trans hb, hza, hm⟩
  clear hown hb hza hm hzs hyl
  go_wp2_with fail
  refine (iInsert H3.out.1 (by omega) hm0 H3.out.2.2.1 x).mono ?_
  rintro e w4 ⟨v4, rfl, hown, hb⟩
  obtain ⟨s1, c4, rfl⟩ := own_shape hown
  obtain ⟨l1, hl1⟩ : ∃ l, l = (ins zs x).length := ⟨_, rfl⟩
  have k1 := len_ins (x := x) (s := zs)
  have k2 : m ≤ l1 ∧ l1 ≤ m + 1 := by rw [hl1, H3.out.2.2.2]; exact k1
  rw [← hl1] at hown ⊢
  have H4 : Hid (Ints w4 (.slice s1 l1 c4) (ins zs x) ∧ Ints w4 (.slice (some ⟨g, 0, none⟩) m c1) zs ∧ Below w.heap.size w w4 ∧ l1 = (ins zs x).length) := ⟨Vals.of_own hown, H3.out.1.same hb, H3.out.2.1.trans (hb.mono H3.out.2.1.size), hl1⟩
  clear hown hb hl1 k1
  go_wp2_with fail
  refine (iInsert H4.out.1 (by omega) (by omega) (asc_ins H3.out.2.2.1) y).mono ?_
  rintro e w5 ⟨v5, rfl, hown, hb⟩
  obtain ⟨s2, c5, rfl⟩ := own_shape hown
  obtain ⟨az, has⟩ : ∃ az, az = ins (ins zs x) y := ⟨_, rfl⟩
  obtain ⟨l2, hl2⟩ : ∃ l, l = az.length := ⟨_, rfl⟩
  have k1 := len_ins (x := y) (s := ins zs x)
  rw [← has, ← hl2] at k1 hown
  have k3 : m ≤ l2 ∧ l2 ≤ m + 2 := by have := H4.out.2.2.2; omega
  rw [← has, ← hl2]
  have H5 : Hid (Ints w5 (.slice s2 l2 c5) az ∧ Ints w5 (.slice (some ⟨g, 0, none⟩) m c1) zs ∧ Below w.heap.size w w5 ∧ l2 = az.length ∧ az = ins (ins zs x) y) := ⟨Vals.of_own hown, H4.out.2.1.same hb, H4.out.2.2.1.trans (hb.mono H4.out.2.2.1.size), hl2, has⟩
  clear hown hb hl2 has k1
  go_wp2_with fail
  refine (iInsert H5.out.2.1 (by omega) hm0 H3.out.2.2.1 y).mono ?_
  rintro e w6 ⟨v6, rfl, hown, hb⟩
  obtain ⟨s3, c6, rfl⟩ := own_shape hown
  obtain ⟨l3, hl3⟩ : ∃ l, l = (ins zs y).length := ⟨_, rfl⟩
  have k1 := len_ins (x := y) (s := zs)
  have k4 : m ≤ l3 ∧ l3 ≤ m + 1 := by rw [hl3, H3.out.2.2.2]; exact k1
  rw [← hl3] at hown ⊢
  have H6 : Hid (Ints w6 (.slice s3 l3 c6) (ins zs y) ∧ Ints w6 (.slice s2 l2 c5) az ∧ Below w.heap.size w w6) := ⟨Vals.of_own hown, H5.out.1.same hb, H5.out.2.2.1.trans (hb.mono H5.out.2.2.1.size)⟩
  clear hown hb hl3 k1
  go_wp2_with fail
  refine (iInsert H6.out.1 (by omega) (by omega) (asc_ins H3.out.2.2.1) x).mono ?_
  rintro e w7 ⟨v7, rfl, hown, hb⟩
  rw [← ins_comm H3.out.2.2.1 x y, ← H5.out.2.2.2.2, ← H5.out.2.2.2.1] at hown
  obtain ⟨s4, c7, rfl⟩ := own_shape hown
  have H7 : Hid (Ints w7 (.slice s4 l2 c7) az ∧ Ints w7 (.slice s2 l2 c5) az ∧ Below w.heap.size w w7) := ⟨Vals.of_own hown, H6.out.2.1.same hb, H6.out.2.2.trans (hb.mono H6.out.2.2.size)⟩
  clear hown hb
  have hasc : Asc az := by rw [H5.out.2.2.2.2]; exact asc_ins (asc_ins H3.out.2.2.1)
  have hxin : x ∈ az := by rw [H5.out.2.2.2.2, mem_ins, mem_ins]; simp
  have hyin : y ∈ az := by rw [H5.out.2.2.2.2, mem_ins]; simp
  have HAS : Hid (Asc az ∧ x ∈ az ∧ y ∈ az) := ⟨hasc, hxin, hyin⟩
  clear hasc hxin hyin
  have g1 : decide ((m : Int) ≤ (l2 : Int)) = true := by simp; omega
  go_wp2_with fail
  refine (sorted_any H7.out.2.1 (by omega) (by omega) HAS.out.1).mono ?_
  rintro e w8 ⟨rfl, hb⟩
  have H8 : Hid (Ints w8 (.slice s4 l2 c7) az ∧ Ints w8 (.slice s2 l2 c5) az ∧ Below w.heap.size w w8) := ⟨H7.out.1.same hb, H7.out.2.1.same hb, H7.out.2.2.trans (hb.mono H7.out.2.2.size)⟩
  clear hb
  go_wp2_with fail
  refine (equal_any H8.out.2.1 H8.out.1 (by omega) (by omega)).mono ?_
  rintro e w9 ⟨rfl, hb⟩
  have H9 : Hid (Ints w9 (.slice s2 l2 c5) az ∧ Below w.heap.size w w9) := ⟨H8.out.2.1.same hb, H8.out.2.2.trans (hb.mono H8.out.2.2.size)⟩
  clear hb
  rw [decide_eq_true (rfl : az = az)]
  go_wp2_with fail
  refine (iInsert H9.out.1 (by omega) (by omega) HAS.out.1 x).mono ?_
  rintro e w10 ⟨v10, rfl, hown, hb⟩
  rw [ins_same HAS.out.1 HAS.out.2.1, ← H5.out.2.2.2.1] at hown
  obtain ⟨s5, c10, rfl⟩ := own_shape hown
  have H10 : Hid (Ints w10 (.slice s5 l2 c10) az ∧ Ints w10 (.slice s2 l2 c5) az ∧ Below w.heap.size w w10) := ⟨Vals.of_own hown, H9.out.1.same hb, H9.out.2.trans (hb.mono H9.out.2.size)⟩
  clear hown hb
  go_wp2_with fail
  refine (equal_any H10.out.1 H10.out.2.1 (by omega) (by omega)).mono ?_
  rintro e w11 ⟨rfl, hb⟩
  have H11 : Hid (Ints w11 (.slice s2 l2 c5) az ∧ Below w.heap.size w w11) := ⟨H10.out.2.1.same hb, H10.out.2.2.trans (hb.mono H10.out.2.2.size)⟩
  clear hb
  rw [decide_eq_true (rfl : az = az)]
  go_wp2_with fail
  refine (iExists H11.out.1 (by omega) (by omega) HAS.out.1 y).mono ?_
  rintro e w12 ⟨rfl, hb⟩
  rw [decide_eq_true HAS.out.2.2]
  have H12 : Hid (Below w.heap.size w w12) := H11.out.2.trans (hb.mono H11.out.2.size)
  clear hb
  go_wp2_with fail
  go_ret
  exact ⟨rfl, H12.out⟩

theorem own : ownKnob Try.prog.godebug = none := by kernel_rfl
theorem laidOut : laidOutB Try.prog = true := by kernel_rfl

set_option maxRecDepth 100000 in
theorem lifted (os : Os) (started : os.Started) (H : Type) (enc : TypeId × Value → H) :
    ReturnsInHanded {} Try.checked os 3 .any (Rows.fnISTwoSpec.pre6 enc Try.prog Try.f3 Rows.fnISTwoRow.domain false) (Rows.fnISTwoSpec.post enc Try.prog Try.f3 false true false false) := by
  refine LawKit.lifted (C := Try.checked) (T := 4) own started (by kernel_rfl) Try.func3 laidOut (by kernel_rfl) (by kernel_rfl) Try.underlying4 rfl ?_
    (ChangeSpec.witness6 (enc := enc) (C := Try.checked) false ⟨#[], #[.slice none 0 0, .int .i16 0, .int .i16 0], []⟩ 8 (by kernel_rfl) (by kernel_rfl) (by kernel_rfl) (by kernel_rfl)) ?_
  · intro ds hd
    match ds, hd with
    | [_, _, _], _ => rfl
  · intro W base args ds p hval0 hA0 _
    have hval : ∀ (j : Nat) t v, Try.f3.params[j]? = some t → args[j]? = some v → Value.okWide Try.prog W .any base t v := hval0
    have hA : DataW.TrodAll enc Try.prog W 0 (fun _ => true) true Try.f3.params.toList args.toList ds p := hA0
    rw [Try.params3] at hA hval
    obtain ⟨v0, vs0, d0, ds0, p0, q0, hargs, rfl, rfl, h0, r0⟩ := trodAll_cons hA
    obtain ⟨v1, vs1, d1, ds1, p1, q1, rfl, rfl, rfl, h1, r1⟩ := trodAll_cons r0
    obtain ⟨v2, vs2, d2, ds2, p2, q2, rfl, rfl, rfl, h2, r2⟩ := trodAll_cons r1
    obtain ⟨rfl, rfl, rfl⟩ := trodAll_nil r2
    obtain rfl : args = #[v0, v1, v2] := by cases args; simp_all
    obtain ⟨sk0, nk0, ck0, rfl⟩ := okWide_slice Try.underlying22 (hval 0 22 v0 rfl rfl)
    obtain ⟨fu0, hf0⟩ := h0
    obtain ⟨so0, n0, cp0, xs0, hw0, hl0, hv0, hb0⟩ := open_ilist Try.underlying22 Try.underlying23 (k := .i16) (by kernel_rfl) hf0
    rw [hw0]
    obtain ⟨a1, rfl, rfl, rfl, w1⟩ := open_int Try.underlying23 (hval 1 23 v1 rfl rfl) h1
    have b1 := bounds_i16 w1
    obtain ⟨a2, rfl, rfl, rfl, w2⟩ := open_int Try.underlying23 (hval 2 23 v2 rfl rfl) h2
    have b2 := bounds_i16 w2
    exact walk hl0 hv0 (fun x h => bounds_i16 (hb0 x h)) b1 b2

theorem proved : Rows.FnISTwoSaid :=
  OpenClaim.holds_of_wide 3 Try.f3 rfl rfl rfl rfl rfl rfl rfl ⟨rfl, rfl, rfl, rfl, rfl⟩ rfl rfl rfl rfl rfl (by kernel_rfl) Try.func3 (by kernel_rfl)
    (of_decide_eq_true (by kernel_rfl)) (by unfold Func.isWrapper; first | (rw [if_pos (by decide +kernel)]; kernel_rfl) | (rw [if_neg (by decide +kernel)]; exact ⟨rfl, rfl⟩))
    (fun os started H enc _ => lifted os started H enc)
#print axioms proved
end Go.Proofs.Ytkjlijgeoidmiaa.LISTwo
