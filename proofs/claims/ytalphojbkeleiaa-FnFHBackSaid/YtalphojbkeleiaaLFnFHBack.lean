/- FnFHBack answers true for every list. -/
import Derived.Test.YtalphojbkeleiaaHM
import Derived.Test.YtalphojbkeleiaaRows
import Derived.Test.YtalphojbkeleiaaArgKit
import Derived.Test.YtalphojbkeleiaaLawKit
namespace Go.Proofs.Ytalphojbkeleiaa.LFnFHBack
open Go.RowKit Go.ChangeShapes Go.WideShapes Go.ChangeAt FH
set_option maxRecDepth 100000 in
set_option maxHeartbeats 8000000 in
theorem walk {W : World} {so : Option Addr} {n cp : Nat} {xs : List Int} {t : Nat} (hl : xs.length = n) (hv : 0 < n → Vals W (.slice so n cp) (xs.map (Value.int .i16))) (hb : ∀ x ∈ xs, Small x) (ht : t ≤ 255) :
    Calls Try.prog 3 #[.slice so n cp, .int .u8 (t : Nat)] W fun e W' => e = .returned (.bool true) ∧ Below W.heap.size W W' := by
  by_cases hn : n ≤ 30
  · have g1 : decide ((2147483647 : Int) < (n : Int)) = false := decide_eq_false (by omega)
    by_cases h0 : 0 < n
    · have HV : Hid (Vals W (.slice so n cp) (xs.map (Value.int .i16)) ∧ xs.length = n ∧ (∀ x ∈ xs, Small x) ∧ xs.length ≤ 30) := ⟨hv h0, hl, hb, by omega⟩
      have hfew : (decide (0 < n) && decide (n ≤ 30)) = true := by simp; omega
      obtain ⟨i0, hi, hz0, hz1, hz2⟩ := info_at infoT
      have HI : Hid (Try.prog.info? 30 = some i0 ∧ i0.zero = some (.agg #[.int .i64 0, .int .i64 0, .int .i64 0, .slice none 0 0]) ∧ i0.size = 4 ∧ i0.bytes = 48) := ⟨hi, hz0, hz1, hz2⟩
      obtain ⟨r, hr⟩ : ∃ r : Nat, r = t % n := ⟨_, rfl⟩
      have hrn : r < n := by rw [hr]; exact Nat.mod_lt _ h0
      have hmod : (t : Int) % (n : Int) = (r : Int) := by rw [hr]; simp
      have htmod : Int.tmod (t : Int) (n : Int) = (r : Int) := by rw [Int.tmod_eq_emod_of_nonneg (by omega)]; exact hmod
      clear hr
      clear hv hb hl hi hz0 hz1 hz2
      go_enter Try.func3, Try.ntmps3
      go_wp2_with fail
      refine (few_any _ _ _ _).mono ?_
      rintro e w' ⟨rfl, rfl⟩
      rw [hfew]
      go_wp2_with fail
      refine (enq_list (b := 0) HV.out.1 (by rw [HV.out.2.1]; omega) HV.out.2.2.1 (by unfold Small; omega)).mono ?_
      rintro e w1 ⟨sv, rfl, hown, hb1⟩
      rw [HV.out.2.1] at hown
      obtain ⟨s1, c1, rfl⟩ := own_shape hown
      have H1 : Hid (w1.ownsRow W.heap.size 30 4 (.slice s1 n c1) n ((putsOf 0 xs).map stp).flatten ∧ Below W.heap.size W w1) := ⟨hown, hb1⟩
      clear hown hb1
      obtain ⟨q1, q2, q3⟩ := fin_law (puts_good HV.out.2.2.1 HV.out.2.2.2) (fun cl es outs h => puts_lv h)
      rw [HV.out.2.1] at q1 q2 q3
      rw [putsOf_len, HV.out.2.1] at q3
      have HO : Hid (Calls Try.prog 7 #[.slice s1 n c1, .int .i64 (n : Nat)] w1 (OutDone (putsOf 0 xs) n n w1)) := out_any (own_recs H1.out.1) h0 (by omega) q1 q2 h0
      have HQ3 := Lib.hid q3
      clear q1 q2 q3
      go_wp2_with fail
      refine HO.out.mono ?_
      rintro e w2 ⟨sa, cla, esa, outa, rfl, hra, hia, hb2⟩
      obtain ⟨ka1, ka2⟩ := HQ3.out _ _ _ hra
      obtain ⟨a, ha⟩ : ∃ a, a = pri (outa.drop n) := ⟨_, rfl⟩
      rw [← ha] at hia ka1 ka2
      obtain ⟨sa1, ca, rfl⟩ := hia.shape
      rw [List.length_map, ka1.length_eq, HV.out.2.1] at hia ⊢
      obtain ⟨ab, ao, rfl, hac⟩ := hia.cells h0
      have H2 : Hid (Ints w2 (.slice (some ⟨ab, ao, none⟩) n ca) a ∧ a.Perm xs ∧ a.Pairwise (· ≤ ·) ∧ Below W.heap.size W w2 ∧ Vals w2 (.slice so n cp) (xs.map (Value.int .i16)) ∧ a.length = n) :=
        ⟨hia, ka1, ka2, H1.out.2.trans (hb2.mono H1.out.2.size), Vals.same HV.out.1 (H1.out.2.trans (hb2.mono H1.out.2.size)), by rw [ka1.length_eq, HV.out.2.1]⟩
      clear hra hia hb2 ka1 ka2 ha hac
      go_wp2_with fail
      refine (enq_list (b := 0) H2.out.2.2.2.2.1 (by rw [HV.out.2.1]; omega) HV.out.2.2.1 (by unfold Small; omega)).mono ?_
      rintro e w3 ⟨sv, rfl, hown, hb3⟩
      rw [HV.out.2.1] at hown
      obtain ⟨s3, c3, rfl⟩ := own_shape hown
      have H3 : Hid (w3.ownsRow w2.heap.size 30 4 (.slice s3 n c3) (n + 0) ((putsOf 0 xs ++ List.replicate 0 Step.get).map stp).flatten ∧ Below w2.heap.size w2 w3) := ⟨by simpa using hown, hb3⟩
      clear hown hb3
      go_wp2_with fail
      obtain ⟨m, hm⟩ : ∃ m : Nat, m = 1 + r := ⟨_, rfl⟩
      have hmi : (1 : Int) + (r : Int) = (m : Int) := by omega
      rw [hmi]
      have hmn : m ≤ n := by omega
      have hm1 : 1 ≤ m := by omega
      clear hm hmi hmod htmod hrn
      go_loopw [7, 37] (fun sv iv wr => ∃ (k : Nat), iv = .int .i64 (k : Nat) ∧ k ≤ m ∧ Hid (wr.ownsRow w2.heap.size 30 4 sv (n + k) ((putsOf 0 xs ++ List.replicate k Step.get).map stp).flatten ∧ Below w2.heap.size w2 wr)) (fun _ iv _ => m - (intOf iv).toNat)
      case atStart => exact ⟨0, rfl, by omega, H3.out⟩
      case round =>
      obtain ⟨k, rfl, hk, hR⟩ := hrel
      have HR : Hid (wr.ownsRow w2.heap.size 30 4 u7 (n + k) ((putsOf 0 xs ++ List.replicate k Step.get).map stp).flatten ∧ Below w2.heap.size w2 wr) := hR
      clear hR
      obtain ⟨t5, d5, rfl⟩ := own_shape HR.out.1
      by_cases hlt : k < m
      · have z1 : (k : Int) < (m : Int) := by omega
        go_wp2_with (at_builtin; go_must (refine wpList_append_own_at _ rfl (.tmp 39) (.tmp 41) 27 rfl w2.heap.size 30 i0 (.agg #[.int .i64 0, .int .i64 0, .int .i64 0, .slice none 0 0]) 4 48 Try.underlying27 HI.out.1 HI.out.2.1 HI.out.2.2.1 HI.out.2.2.2 rfl (by decide) (.slice t5 (n + k) d5) (n + k) _ rfl (HR.out.1.alloc _) ⟨wr.heap.size, 0, none⟩ 1 1 (stp (.get)) rfl rfl ?c1 ?c2 ?c3 ?c4 ?c5 ?_))
        case c1 => first | exact two_cells | exact fun j u hj => hj
        case c2 => intro u hu; simp [stp] at hu; rcases hu with rfl | rfl | rfl | rfl <;> rfl
        case c3 => unfold maxLen; omega
        case c4 => omega
        case c5 => have := HR.out.2.size; simp; omega
        intro v5 w5 hown hgrow _ _
        have HE : Hid (w5.ownsRow w2.heap.size 30 4 v5 (n + (k + 1)) ((putsOf 0 xs ++ List.replicate (k + 1) Step.get).map stp).flatten ∧ Below w2.heap.size w2 w5) := by
          refine ⟨?_, HR.out.2.trans (own_grown HR.out.1 hgrow HR.out.2.size)⟩
          rw [List.replicate_succ', ← List.append_assoc]
          change w5.ownsRow w2.heap.size 30 4 v5 (n + k + 1) _
          exact row_app (by simpa using hown)
        clear hown hgrow
        go_wp2_with fail
        go_roundw
        case rel => exact ⟨k + 1, rfl, by omega, HE.out⟩
        case measure => simp [intOf]; omega
      have z1 : ¬ (k : Int) < (m : Int) := by omega
      obtain rfl : k = m := by omega
      obtain ⟨rv, hrv⟩ : ∃ rv, rv = (a.take k).reverse := ⟨_, rfl⟩
      have hrl : rv.length = k := by rw [hrv, List.length_reverse, List.length_take, H2.out.2.2.2.2.2]; omega
      have HRV : Hid (rv = (a.take k).reverse ∧ rv.length = k) := ⟨hrv, hrl⟩
      clear hrv hrl hlt
      have H4 : Hid (wr.ownsRow w2.heap.size 30 4 (.slice t5 (n + k) d5) (n + k + 0) (((putsOf 0 xs ++ List.replicate k Step.get) ++ putsOf 0 (rv.take 0)).map stp).flatten ∧ Below w2.heap.size w2 wr) := by
        refine ⟨?_, HR.out.2⟩
        have h := HR.out.1
        simpa [putsOf] using h
      obtain ⟨wo, rfl⟩ : ∃ wo : World, wo = wr := ⟨_, rfl⟩
      go_wp2_with fail
      go_loopw [7, 9] (fun sv iv wr => ∃ (j : Nat), iv = .int .i64 ((k : Int) - 1 - (j : Int)) ∧ j ≤ k ∧ Hid (wr.ownsRow w2.heap.size 30 4 sv (n + k + j) (((putsOf 0 xs ++ List.replicate k Step.get) ++ putsOf 0 (rv.take j)).map stp).flatten ∧ Below w2.heap.size w2 wr)) (fun _ iv _ => (intOf iv + 1).toNat)
      case atStart => exact ⟨0, by simp, by omega, H4.out⟩
      case round =>
      obtain ⟨j, rfl, hj, hR⟩ := hrel
      have HR2 : Hid (wr.ownsRow w2.heap.size 30 4 u7 (n + k + j) (((putsOf 0 xs ++ List.replicate k Step.get) ++ putsOf 0 (rv.take j)).map stp).flatten ∧ Below w2.heap.size w2 wr) := hR
      clear hR
      obtain ⟨t6, d6, rfl⟩ := own_shape HR2.out.1
      by_cases hlt : j < k
      · obtain ⟨i, hi⟩ : ∃ i : Nat, i + j + 1 = k := ⟨k - 1 - j, by omega⟩
        have hii : (k : Int) - 1 - (j : Int) = (i : Int) := by omega
        rw [hii]
        obtain ⟨x, hx⟩ : ∃ x, a[i]? = some x := ⟨_, List.getElem?_eq_getElem (by rw [H2.out.2.2.2.2.2]; omega)⟩
        obtain ⟨b9, o9, hb9, hc9⟩ := Ints.at H2.out.1 hx
        simp only [Option.some.injEq, Addr.mk.injEq] at hb9
        obtain ⟨rfl, rfl, _⟩ := hb9
        have c9 : wr.cell? ⟨ab, ao + i, none⟩ = some (.int .i64 x) := (HR2.out.2.cell (cell_lt' hc9)).trans hc9
        have hrx : rv[j]? = some x := by
          rw [HRV.out.1, List.getElem?_reverse (by rw [List.length_take, H2.out.2.2.2.2.2]; omega), List.length_take, H2.out.2.2.2.2.2, show min k n - 1 - j = i by omega, List.getElem?_take, if_pos (by omega), hx]
        have HX := Lib.hid hrx
        have z2 : (0 : Int) ≤ (i : Int) := by omega
        have z3 : i < n := by omega
        have HII := Lib.hid hi
        have hm9 : n + k + j ≤ 100 := by omega
        clear hx hc9 hrx hii hi
        go_wp2_with (at_builtin; go_must (refine wpList_append_own_at _ rfl (.tmp 50) (.tmp 56) 27 rfl w2.heap.size 30 i0 (.agg #[.int .i64 0, .int .i64 0, .int .i64 0, .slice none 0 0]) 4 48 Try.underlying27 HI.out.1 HI.out.2.1 HI.out.2.2.1 HI.out.2.2.2 rfl (by decide) (.slice t6 (n + k + j) d6) (n + k + j) _ rfl (HR2.out.1.alloc _) ⟨wr.heap.size, 0, none⟩ 1 1 (stp (.put x)) rfl rfl ?c1 ?c2 ?c3 ?c4 ?c5 ?_))
        case c1 => first | exact two_cells | exact fun j u hj => hj
        case c2 => intro u hu; simp [stp] at hu; rcases hu with rfl | rfl | rfl | rfl <;> rfl
        case c3 => unfold maxLen; omega
        case c4 => omega
        case c5 => have := HR2.out.2.size; simp; omega
        intro v5 w5 hown hgrow _ _
        have HE : Hid (w5.ownsRow w2.heap.size 30 4 v5 (n + k + (j + 1)) (((putsOf 0 xs ++ List.replicate k Step.get) ++ putsOf 0 (rv.take (j + 1))).map stp).flatten ∧ Below w2.heap.size w2 w5) := by
          refine ⟨?_, HR2.out.2.trans (own_grown HR2.out.1 hgrow HR2.out.2.size)⟩
          have e : putsOf 0 (rv.take (j + 1)) = putsOf 0 (rv.take j) ++ [Step.put x] := by rw [List.take_add_one, HX.out]; simp [putsOf]
          rw [e, ← List.append_assoc]
          change w5.ownsRow w2.heap.size 30 4 v5 (n + k + j + 1) _
          exact row_app (by simpa using hown)
        clear hown hgrow
        go_wp2_with fail
        go_roundw
        case rel => exact ⟨j + 1, by have := HII.out; congr 1; all_goals omega, by omega, HE.out⟩
        case measure => simp [intOf]
      have z1 : ¬ (0 : Int) ≤ (k : Int) - 1 - (j : Int) := by omega
      have hjk : j = k := by omega
      have H6 : Hid (wr.ownsRow w2.heap.size 30 4 (.slice t6 (n + k + j) d6) (n + k + j) (((putsOf 0 xs ++ List.replicate k Step.get) ++ putsOf 0 (a.take k).reverse).map stp).flatten ∧ Below w2.heap.size w2 wr) := by
        refine ⟨?_, HR2.out.2⟩
        have h := HR2.out.1
        rw [List.take_of_length_le (by rw [HRV.out.2]; omega), HRV.out.1] at h
        exact h
      obtain ⟨N, hN⟩ : ∃ N, N = n + k + j := ⟨_, rfl⟩
      rw [← hN] at H6 ⊢
      obtain ⟨p1, p2⟩ := back_law HV.out.2.2.1 HV.out.2.2.2 (m := k) (by rw [HV.out.2.1]; omega) H2.out.2.1 H2.out.2.2.1
      obtain ⟨q1, q2, q3⟩ := fin_law p1 p2
      rw [HV.out.2.1] at q1 q2 q3
      have hlen : ((putsOf 0 xs ++ List.replicate k Step.get) ++ putsOf 0 (a.take k).reverse).length = N := by
        rw [List.length_append, List.length_append, putsOf_len, putsOf_len, List.length_replicate, List.length_reverse, List.length_take, HV.out.2.1, H2.out.2.2.2.2.2]; omega
      rw [hlen] at q3
      have HO2 : Hid (Calls Try.prog 7 #[.slice t6 N d6, .int .i64 (n : Nat)] wr (OutDone ((putsOf 0 xs ++ List.replicate k Step.get) ++ putsOf 0 (a.take k).reverse) N n wr)) := out_any (own_recs H6.out.1) (by omega) (by omega) q1 q2 h0
      have HQ4 := Lib.hid q3
      clear p1 p2 q1 q2 q3 hlen hN hjk
      go_wp2_with fail
      refine HO2.out.mono ?_
      rintro e w8 ⟨sb, clb, esb, outb, rfl, hrb, hib, hb8⟩
      obtain ⟨kb1, kb2⟩ := HQ4.out _ _ _ hrb
      obtain ⟨s8, c8, rfl⟩ := hib.shape
      rw [List.length_map, kb1.length_eq, HV.out.2.1] at hib ⊢
      have he := sorted_same H2.out.2.2.1 kb2 (H2.out.2.1.trans kb1.symm)
      have hb28 : Below w2.heap.size w2 w8 := H6.out.2.trans (hb8.mono H6.out.2.size)
      have H8 : Hid (Ints w8 (.slice (some ⟨ab, ao, none⟩) n ca) a ∧ Ints w8 (.slice s8 n c8) (pri (outb.drop N)) ∧ Below W.heap.size W w8) :=
        ⟨Vals.same H2.out.1 hb28, hib, H2.out.2.2.2.1.trans (hb28.mono H2.out.2.2.2.1.size)⟩
      have HE8 := Lib.hid he
      clear hrb hib hb8 kb1 kb2 he hb28
      go_wp2_with fail
      refine (equal_any H8.out.1 H8.out.2.1 (by omega) (by omega)).mono ?_
      rintro e w9 ⟨rfl, hb⟩
      have H9 : Hid (Below W.heap.size W w9) := H8.out.2.2.trans (hb.mono H8.out.2.2.size)
      clear hb
      rw [decide_eq_true HE8.out]
      go_wp2_with fail
      go_ret
      exact ⟨rfl, H9.out⟩
    · have hfew : (decide (0 < n) && decide (n ≤ 30)) = false := by simp; omega
      clear hv hb hl
      go_enter Try.func3, Try.ntmps3
      go_wp2_with fail
      refine (few_any _ _ _ _).mono ?_
      rintro e w' ⟨rfl, rfl⟩
      rw [hfew]
      go_wp2_with fail
      go_ret
      exact ⟨rfl, Below.refl _ _⟩
  · by_cases hbig : (2147483647 : Int) < (n : Int)
    · have g1 : decide ((2147483647 : Int) < (n : Int)) = true := decide_eq_true hbig
      clear hv hb hl
      go_enter Try.func3, Try.ntmps3
      go_wp2_with fail
      go_ret
      exact ⟨rfl, Below.refl _ _⟩
    · have g1 : decide ((2147483647 : Int) < (n : Int)) = false := decide_eq_false hbig
      have hfew : (decide (0 < n) && decide (n ≤ 30)) = false := by simp; omega
      clear hv hb hl
      go_enter Try.func3, Try.ntmps3
      go_wp2_with fail
      refine (few_any _ _ _ _).mono ?_
      rintro e w' ⟨rfl, rfl⟩
      rw [hfew]
      go_wp2_with fail
      go_ret
      exact ⟨rfl, Below.refl _ _⟩

theorem own : ownKnob Try.prog.godebug = none := by kernel_rfl
theorem laidOut : laidOutB Try.prog = true := by kernel_rfl

set_option maxRecDepth 100000 in
theorem lifted (os : Os) (started : os.Started) (H : Type) (enc : TypeId × Value → H) :
    ReturnsInHanded {} Try.checked os 3 .any (Rows.fnFHBackSpec.pre6 enc Try.prog Try.f3 Rows.fnFHBackRow.domain false) (Rows.fnFHBackSpec.post enc Try.prog Try.f3 false true false false) := by
  refine LawKit.lifted (C := Try.checked) (T := 4) own started (by kernel_rfl) Try.func3 laidOut (by kernel_rfl) (by kernel_rfl) Try.underlying4 rfl ?_
    (ChangeSpec.witness6 (enc := enc) (C := Try.checked) false ⟨#[], #[.slice none 0 0, .int .u8 0], []⟩ 8 (by kernel_rfl) (by kernel_rfl) (by kernel_rfl) (by kernel_rfl)) ?_
  · intro ds hd
    match ds, hd with
    | [_, _], _ => rfl
  · intro W base args ds p hval0 hA0 _
    have hval : ∀ (j : Nat) t v, Try.f3.params[j]? = some t → args[j]? = some v → Value.okWide Try.prog W .any base t v := hval0
    have hA : DataW.TrodAll enc Try.prog W 0 (fun _ => true) true Try.f3.params.toList args.toList ds p := hA0
    rw [Try.params3] at hA hval
    obtain ⟨v0, vs0, d0, ds0, p0, q0, hargs, rfl, rfl, h0, r0⟩ := trodAll_cons hA
    obtain ⟨v1, vs1, d1, ds1, p1, q1, rfl, rfl, rfl, h1, r1⟩ := trodAll_cons r0
    obtain ⟨rfl, rfl, rfl⟩ := trodAll_nil r1
    obtain rfl : args = #[v0, v1] := by cases args; simp_all
    obtain ⟨sk0, nk0, ck0, rfl⟩ := okWide_slice Try.underlying22 (hval 0 22 v0 rfl rfl)
    obtain ⟨fu0, hf0⟩ := h0
    obtain ⟨so0, n0, cp0, xs0, hw0, hl0, hv0, hb0⟩ := open_ilist Try.underlying22 Try.underlying34 (k := .i16) (by kernel_rfl) hf0
    rw [hw0]
    obtain ⟨a1, rfl, rfl, rfl, w1⟩ := open_int Try.underlying5 (hval 1 5 v1 rfl rfl) h1
    have b1 := bounds_u8 w1
    obtain ⟨i1, rfl⟩ : ∃ i : Nat, a1 = (i : Int) := ⟨a1.toNat, by omega⟩
    exact walk hl0 hv0 (fun x h => bounds_i16 (hb0 x h)) (by omega)

theorem proved : Rows.FnFHBackSaid :=
  OpenClaim.holds_of_wide 3 Try.f3 rfl rfl rfl rfl rfl rfl rfl ⟨rfl, rfl, rfl, rfl, rfl⟩ rfl rfl rfl rfl rfl (by kernel_rfl) Try.func3 (by kernel_rfl)
    (of_decide_eq_true (by kernel_rfl)) (by unfold Func.isWrapper; first | (rw [if_pos (by decide +kernel)]; kernel_rfl) | (rw [if_neg (by decide +kernel)]; exact ⟨rfl, rfl⟩))
    (fun os started H enc _ => lifted os started H enc)
#print axioms proved
end Go.Proofs.Ytalphojbkeleiaa.LFnFHBack
