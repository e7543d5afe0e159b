/- FnFIDeepTurned answers true for every hint, list of steps and bits to turn. -/
import Derived.Test.YtiiobifljflkiaaF14
import Derived.Test.YtiiobifljflkiaaLawKit
import Derived.Deep.RegionHeld3
import Derived.Deep.AppendLies
import Derived.Deep.Slices
import Derived.Deep.Fields
import Derived.ChangeSame
import Derived.Deep.Strs
namespace Go.Proofs.Ytiiobifljflkiaa.LTurned
open Go.RowKit Go.ChangeShapes Go.WideShapes Go.ChangeAt Go.Deep FI

set_option maxRecDepth 100000 in
set_option maxHeartbeats 4000000 in
theorem walk {w : World} (hint by_ : Nat) {so : Option Addr} {n cp : Nat} (hS : n ≤ 2147483647 → Raws w so n cp) (hh : hint < 65536) (hb : by_ < 18446744073709551616) :
    Calls Try.prog 4 #[.int .u16 hint, .slice so n cp, .int .u64 by_] w fun e w' => e = .returned (.bool true) ∧ Below w.heap.size w w' := by
  obtain ⟨i0, hi, hz0, hz1, hz2⟩ := info_parts2 info26
  have HI : Hid (Try.prog.info? 26 = some i0 ∧ i0.zero = some (.agg #[.int .i64 0, .int .u64 0, .int .u64 0]) ∧ i0.size = 3 ∧ i0.bytes = 24) := ⟨hi, hz0, hz1, hz2⟩
  clear hi hz0 hz1 hz2
  have HS := Lib.hid hS
  clear hS
  by_cases hn : n ≤ 2147483647
  · have hcast2 : (hint : Int) % 601 = ((hint % 601 : Nat) : Int) := rfl
    have hh2 : hint % 601 < 601 := Nat.mod_lt _ (by decide)
    obtain ⟨hi2, hie2⟩ : ∃ i, i = hint % 601 := ⟨_, rfl⟩
    rw [← hie2] at hcast2 hh2
    have HC2 := Lib.hid hcast2
    clear hie2 hcast2
    go_enter Try.func4, Try.ntmps4
    go_wp2_with fail
    refine (Steps_any (HS.out hn) hn).mono ?_
    rintro e w1 ⟨v1, S, rfl, hown, hgood, hb1⟩
    have H1 : Hid (w1.ownsRow w.heap.size 26 3 v1 S.length (cellsOf S) ∧ Good S ∧ Below w.heap.size w w1) := ⟨hown, hgood, hb1⟩
    have hs200 : S.length ≤ 200 := hgood.1
    clear hown hgood hb1
    go_wp2_with (at_builtin; go_must (refine wpList_append_own_at _ rfl _ _ 24 rfl w.heap.size 26 i0 (.agg #[.int .i64 0, .int .u64 0, .int .u64 0]) 3 24 Try.underlying24 HI.out.1 HI.out.2.1 HI.out.2.2.1 HI.out.2.2.2 rfl (by decide) _ _ _ rfl (H1.out.1.alloc _) ⟨w1.heap.size, 0, none⟩ 3 3 [.int .i64 4, .int .u64 31, .int .u64 0, .int .i64 1, .int .u64 31, .int .u64 8, .int .i64 2, .int .u64 31, .int .u64 0] rfl rfl ?c1 ?c2 ?c3 ?c4 ?c5 ?_))
    case c1 => exact cells_new _ _ _ _ rfl
    case c2 => intro u hu; simp at hu; rcases hu with rfl | rfl | rfl | rfl | rfl | rfl | rfl | rfl | rfl <;> rfl
    case c3 => unfold maxLen; omega
    case c4 => omega
    case c5 => have := H1.out.2.2.size; simp; omega
    intro v' w2 hown' hgrow _ hblk
    obtain ⟨xs, hxs⟩ : ∃ xs, xs = S ++ lastThree := ⟨_, rfl⟩
    obtain ⟨N, hN⟩ : ∃ N, N = S.length + 3 := ⟨_, rfl⟩
    have hxl : xs.length = N := by rw [hxs, hN]; simp [lastThree]
    have hown2 : w2.ownsRow w.heap.size 26 3 v' xs.length (cellsOf xs) := by rw [hxl, hN, hxs, cellsOf_append]; exact hown'
    rcases Stps.of_own hown2 with ⟨h1, h2⟩ | ⟨b, o, c, h1, h2, h3⟩
    · rw [h2] at hxl; simp at hxl; omega
    subst h1
    rw [hxl] at h2 h3 ⊢
    have HX : Hid (w2.ownsRow w.heap.size 26 3 (.slice (some ⟨b, o, none⟩) N c) xs.length (cellsOf xs) ∧ Below w.heap.size w w2 ∧ Okay xs ∧ xs.length = N ∧ tell (after xs (N - 1)) (xs.getD (N - 1) stp0) = (8, true)) := by
      refine ⟨by rw [hxl] at hown2 ⊢; exact hown2, H1.out.2.2.trans (own_grown H1.out.1 hgrow H1.out.2.2.size), by rw [hxs]; exact okay_last H1.out.2.1, hxl, ?_⟩
      rw [hxs, hN]
      exact tell_last S
    have HX3 := Lib.hid h3
    have hNl : N ≤ 203 := by omega
    have hN1 : 3 ≤ N := by omega
    clear hown' hgrow hblk hown2 h3 hxl hxs hN hs200 H1 h2
    go_wp2_with fail
    go_loopw [8, 9] (fun mv iv wr => ∃ k : Nat, k ≤ N ∧ iv = .int .i64 k ∧ Hid (wr.ownsRow w2.heap.size 26 3 mv k (cellsOf ((xs.map (turn by_)).take k)) ∧ Below w2.heap.size w2 wr)) (fun _ iv _ => N - (intOf iv).toNat)
    case atStart => exact ⟨0, by omega, rfl, World.ownsRow_nil _ _ _ _, Below.refl _ _⟩
    case round =>
      obtain ⟨k, hk, rfl, hR⟩ := hrel
      have HR : Hid (wr.ownsRow w2.heap.size 26 3 _ k (cellsOf ((xs.map (turn by_)).take k)) ∧ Below w2.heap.size w2 wr) := hR
      by_cases hkl : k < N
      · obtain ⟨a0, a1, a2⟩ := HX3.out k hkl
        have lt0 := cell_lt a0
        have c0 := (HR.out.2.cell lt0).trans a0
        have c1 := (HR.out.2.cell (cell_lt a1)).trans a1
        have c2 := (HR.out.2.cell (cell_lt a2)).trans a2
        have hx1 := (HX.out.2.2.1 k (by rw [HX.out.2.2.2.1]; exact hkl)).2.2.1
        have HT := Lib.hid (take_turn by_ (xs := xs) (k := k) (by rw [HX.out.2.2.2.1]; exact hkl))
        obtain ⟨x, hx⟩ : ∃ x, x = xs.getD k stp0 := ⟨_, rfl⟩
        rw [← hx] at c0 c1 c2 HT hx1
        have hxor : bits BinOp.xor IntKind.u64 (x.key : Int) (by_ : Int) = ((x.key ^^^ by_ : Nat) : Int) := u64_xor_nat _ _ hx1 hb
        obtain ⟨so3, cq3, rfl⟩ := own_shape HR.out.1
        have hne : (Value.slice so3 k cq3).ownBlock ≠ some b := fun e => by have := (own_lt HR.out.1 e).1; simp at lt0; omega
        have hbw : b < wr.heap.size := Nat.lt_of_lt_of_le lt0 HR.out.2.size
        clear a0 a1 a2 hx hR
        go_wp2_with fail
        have hi0' : (0 : Int) ≤ (k : Int) := Int.natCast_nonneg _
        have hi1 : (k : Int) < (N : Int) := by omega
        go_region_held3 (fun w' => w'.cell? ⟨b, o + k * 3, none⟩ = some (.int .i64 (x.op : Nat)) ∧ w'.cell? ⟨b, o + k * 3 + 1, none⟩ = some (.int .u64 (x.key : Nat)) ∧ w'.cell? ⟨b, o + k * 3 + 2, none⟩ = some (.int .u64 (x.val : Nat)))
          (first
            | exact ⟨c0, c1, c2⟩
            | go_keep
            | (go_split_ands
               refine ⟨?_, ?_, ?_⟩
               · (rw [hgrow.cell_far _ (by simp; omega) (Ne.symm hne)]; assumption)
               · (rw [hgrow.cell_far _ (by simp; omega) (Ne.symm hne)]; assumption)
               · (rw [hgrow.cell_far _ (by simp; omega) (Ne.symm hne)]; assumption)))
          ((refine step_append_lies _ (by rfl) _ _ _ (by rfl) w2.heap.size 26 i0 _ 3 24 Try.underlying24 HI.out.1 HI.out.2.1 HI.out.2.2.1 HI.out.2.2.2 rfl (by omega) (.slice so3 k cq3) k _ (by rfl) ((HR.out.1.alloc _).drew) ⟨wr.heap.size, 0, none⟩ 1 1 [.int .i64 (x.op : Nat), .int .u64 ((x.key ^^^ by_ : Nat) : Int), .int .u64 (x.val : Nat)] (by rfl) (by rfl) (World.news_of_block (cs := #[.int .i64 (x.op : Nat), .int .u64 ((x.key ^^^ by_ : Nat) : Int), .int .u64 (x.val : Nat)]) (t := 26) (fr := (0, 0)) (heap_alloc_new wr _)) (by simp [Value.oneCell']) (by omega) (by unfold maxLen; omega) (by omega) (by have := HR.out.2.size; simp; omega) (wr.heap.size + 1) (by simp) ?_; intro gg cap w3 hown3 hgrow hat hlt))
        have HQ : Hid (w3.ownsRow w2.heap.size 26 3 (.slice (some ⟨gg, 0, none⟩) (k + 1) cap) (k + 1) (cellsOf ((xs.map (turn by_)).take (k + 1))) ∧ Below w2.heap.size w2 w3) := by
          have hs := HR.out.2.size
          refine ⟨by rw [HT.out, cellsOf_append]; exact hown3, HR.out.2.trans (((Below.refl _ _).alloc hs (.cells #[.int .i64 (x.op : Nat), .int .u64 ((x.key ^^^ by_ : Nat) : Int), .int .u64 (x.val : Nat)] 26)).trans ((Below.refl _ _).grown (show World.grownBy (wr.alloc (.cells #[.int .i64 (x.op : Nat), .int .u64 ((x.key ^^^ by_ : Nat) : Int), .int .u64 (x.val : Nat)] 26)) w3 _ from ⟨hgrow.os, hgrow.tape, hgrow.output, hgrow.size, hgrow.block⟩) (by simp; omega) ?_))⟩
          intro j hj
          have := (own_lt HR.out.1 hj)
          omega
        clear c0 c1 c2 hown3 hgrow hat hlt hxor hne hbw hx1 lt0
        go_wp2_with fail
        go_roundw
        case rel => exact ⟨k + 1, by omega, by go_num, HQ⟩
        case measure => simp [intOf]; omega
      · have hkx : N = k := by omega
        subst hkx
        have hyl : ((xs.map (turn by_)).take N).length = N := by simp [HX.out.2.2.2.1]
        have hye : (xs.map (turn by_)).take N = xs.map (turn by_) := by rw [List.take_of_length_le]; simp [HX.out.2.2.2.1]
        have hst := HR.out.1
        rw [hye] at hst
        obtain ⟨so3, cq3, rfl⟩ := own_shape hst
        have hcast2 := HC2.out
        have HY : Hid (Stps wr (.slice so3 N cq3) (xs.map (turn by_)) ∧ (xs.map (turn by_)).length = N) := ⟨Stps.of_own (by rw [List.length_map, HX.out.2.2.2.1]; exact hst), by rw [List.length_map, HX.out.2.2.2.1]⟩
        have R1 := Lib.hid (Run_any (w := wr) (sl := .slice (some ⟨b, o, none⟩) N c) (xs := xs) (h := hi2) hh2 ((Stps.of_own HX.out.1).same HR.out.2) HX.out.2.2.1 (by rw [HX.out.2.2.2.1]; omega))
        have HB := Lib.hid HR.out.2
        clear hyl hye hst HR hR hkl hk
        go_wp2_with fail
        refine R1.out.mono ?_
        rintro e w4 ⟨va, LA, rfl, hA, hAl, hAs, hA5⟩
        have HA : Hid (w4.ownsRow wr.heap.size 30 2 va LA.length (ans LA) ∧ LA.length = N ∧ (∀ i, i < N → (xs.getD i stp0).op ≠ 6 → LA.getD i (0, false) = tell (after xs i) (xs.getD i stp0)) ∧ Below wr.heap.size wr w4) := ⟨hA, hAl.trans HX.out.2.2.2.1, by rw [← HX.out.2.2.2.1]; exact hAs, hA5⟩
        have R2 := Lib.hid (Run_any (w := w4) (sl := .slice so3 N cq3) (xs := xs.map (turn by_)) (h := hi2) hh2 (HY.out.1.same hA5) (okay_turn hb HX.out.2.2.1) (by rw [HY.out.2]; omega))
        clear hA hAl hAs hA5 R1
        go_wp2_with fail
        refine R2.out.mono ?_
        rintro e w5 ⟨vb, LB, rfl, hB, hBl, hBs, hB5⟩
        have hys : ∀ i, i < N → (xs.getD i stp0).op ≠ 6 → LB.getD i (0, false) = LA.getD i (0, false) := by
          intro i hi h6
          have hi' : i < xs.length := by rw [HX.out.2.2.2.1]; exact hi
          have h1 := hBs i (by rw [HY.out.2]; exact hi)
          rw [turn_at by_ xs hi', tell_turn by_ xs hi'] at h1
          rw [h1 h6, HA.out.2.2.1 i hi h6]
        have hBN : LB.length = N := hBl.trans HY.out.2
        have hAN := HA.out.2.1
        rcases Anss.of_own HA.out.1 with h0 | ⟨ba, ca, hva, hca, hcA⟩
        · rw [h0] at hAN; simp at hAN; omega
        subst hva
        rcases Anss.of_own hB with h0 | ⟨bb, cb, hvb, hcb, hcB⟩
        · rw [h0] at hBN; simp at hBN; omega
        subst hvb
        rw [hAN] at hca hcA ⊢
        rw [hBN] at hcb hcB ⊢
        have HFA : Hid (∀ i, i < N → w5.cell? ⟨ba, i * 2, none⟩ = some (.int .u64 ((LA.getD i (0, false)).1 : Nat)) ∧ w5.cell? ⟨ba, i * 2 + 1, none⟩ = some (.bool (LA.getD i (0, false)).2)) :=
          fun i hi => ⟨(hB5.cell (cell_lt (hcA i hi).1)).trans (hcA i hi).1, (hB5.cell (cell_lt (hcA i hi).2)).trans (hcA i hi).2⟩
        have HFB : Hid (∀ i, i < N → w5.cell? ⟨bb, i * 2, none⟩ = some (.int .u64 ((LB.getD i (0, false)).1 : Nat)) ∧ w5.cell? ⟨bb, i * 2 + 1, none⟩ = some (.bool (LB.getD i (0, false)).2)) := hcB
        have HFY := Lib.hid hys
        have hb25 : Below w2.heap.size w2 w5 := (HB.out.trans (HA.out.2.2.2.mono HB.out.size)).trans (hB5.mono (Nat.le_trans HB.out.size HA.out.2.2.2.size))
        have HFX : Hid (∀ i, i < N → w5.cell? ⟨b, o + i * 3, none⟩ = some (.int .i64 ((xs.getD i stp0).op : Nat))) := fun i hi => (hb25.cell (cell_lt (HX3.out i hi).1)).trans (HX3.out i hi).1
        have HBE : Hid (Below w.heap.size w w5) := HX.out.2.1.trans (hb25.mono HX.out.2.1.size)
        have HLast : Hid (LA.getD (N - 1) (0, false) = (8, true)) := by
          have h1 := HX.out.2.2.2.2
          have hop : (xs.getD (N - 1) stp0).op ≠ 6 := by
            intro h6
            unfold tell at h1
            rw [h6] at h1
            simp at h1
          exact (HA.out.2.2.1 (N - 1) (by omega) hop).trans h1
        clear hys hBN hAN hcA hcB hB hBl hBs hB5 hb25 hcast2 R2
        go_wp2_with fail
        go_loopw [12] (fun iv wr => ∃ k : Nat, k ≤ N ∧ iv = .int .i64 k ∧ Hid (∃ d, wr = w5.drewN d)) (fun iv _ => N - (intOf iv).toNat)
        case atStart => exact ⟨0, by omega, rfl, ⟨0, rfl⟩⟩
        case round =>
          obtain ⟨k, hk, rfl, hR⟩ := hrel
          have HR : Hid (∃ d, wr = w5.drewN d) := hR
          clear hR
          have hcell : ∀ a, wr.cell? a = w5.cell? a := by obtain ⟨d, rfl⟩ := HR.out; exact fun _ => rfl
          by_cases hkl : k < N
          · have x0 := HFX.out k hkl
            obtain ⟨y0, y1⟩ := HFA.out k hkl
            obtain ⟨z0, z1⟩ := HFB.out k hkl
            have hsame := HFY.out k hkl
            rw [← hcell] at x0 y0 y1 z0 z1
            obtain ⟨x, hx⟩ : ∃ x, x = xs.getD k stp0 := ⟨_, rfl⟩
            rw [← hx] at x0 hsame
            have q6 : ((x.op : Int) != 6) = !decide (x.op = 6) := by
              by_cases h : x.op = 6 <;> simp [h] <;> omega
            clear hcell hx
            have hi0' : (0 : Int) ≤ (k : Int) := Int.natCast_nonneg _
            have hi1 : (k : Int) < (N : Int) := by omega
            by_cases h6 : x.op = 6
            · rw [decide_eq_true h6, Bool.not_true] at q6
              clear h6 hsame
              go_wp2_with fail
              go_quiet (fail)
              have HE : Hid (∃ d, wr.drewN nq = w5.drewN d) := by obtain ⟨d, hd⟩ := HR.out; exact ⟨d + nq, by rw [hd]; exact drewN_two w5 d nq⟩
              generalize wr.drewN nq = wq at HE ⊢
              go_wp2_with fail
              go_roundw
              case rel => exact ⟨k + 1, by omega, by go_num, HE⟩
              case measure => simp [intOf]; omega
            · rw [hsame h6] at z0 z1
              rw [decide_eq_false h6, Bool.not_false] at q6
              clear h6 hsame
              generalize LA.getD k (0, false) = p at *
              obtain ⟨p1, p2⟩ := p
              simp only at y0 y1 z0 z1
              have q7 : ((p1 : Int) == (p1 : Int)) = true := beq_self_eq_true _
              have q8 : (p2 == p2) = true := beq_self_eq_true _
              go_wp2_with fail
              go_quiet (fail)
              have HE : Hid (∃ d, wr.drewN nq = w5.drewN d) := by obtain ⟨d, hd⟩ := HR.out; exact ⟨d + nq, by rw [hd]; exact drewN_two w5 d nq⟩
              generalize wr.drewN nq = wq at HE ⊢
              go_wp2_with fail
              go_roundw
              case rel => exact ⟨k + 1, by omega, by go_num, HE⟩
              case measure => simp [intOf]; omega
          · have hkx : N = k := by omega
            subst hkx
            obtain ⟨y0, y1⟩ := HFA.out (N - 1) (by omega)
            rw [HLast.out, ← hcell] at y0 y1
            simp only at y0 y1
            obtain ⟨M, hM⟩ : ∃ M, N = M + 1 := ⟨N - 1, by omega⟩
            subst hM
            rw [Nat.add_sub_cancel] at y0 y1
            clear hcell
            go_wp2_with fail
            go_ret
            obtain ⟨d, hd⟩ := HR.out
            exact ⟨rfl, by rw [hd]; exact below_drewN HBE.out d⟩
  · go_enter Try.func4, Try.ntmps4
    go_wp2_with fail
    go_ret
    exact ⟨rfl, Below.refl _ _⟩

theorem cellsStep : Try.prog.cellsOf 26 = 3 := by kernel_rfl
theorem cells_far {P : Program} {w : World} {base : Nat} {a : Addr} {cs : List Value} (h : w.cells? base a 3 = some cs) : ∃ u v x, cs = [u, v, x] ∧ w.cell? (a.add 0) = some u ∧ w.cell? (a.add 1) = some v ∧ w.cell? (a.add 2) = some x := by
  obtain ⟨_, hl, hat⟩ := World.cells?_some h
  match cs, hl with
  | [u, v, x], _ => exact ⟨u, v, x, rfl, hat 0 (by decide), hat 1 (by decide), hat 2 (by decide)⟩
/-- A slice of steps that came in, opened to its cells. -/
theorem open_raws {H : Type} {enc : TypeId × Value → H} {w : World} {fuel : Nat} {held : Bool} {v : Value} {y : DataW H × List MemPlace}
    (h : DataW.trod enc Try.prog w 0 (fun _ => true) held fuel 24 [v] = some y) : ∃ so n cp, v = .slice so n cp ∧ Raws w so n cp := by
  rcases open_slice Try.underlying24 h with ⟨h1, _⟩ | ⟨a, len, cap, m, q, D, Pl, hcs, _, hl, _, hm, _, hi⟩
  · simp at h1
    exact ⟨none, 0, 0, h1, Nat.le_refl _, fun h => absurd h (by decide)⟩
  · simp at hcs hm
    refine ⟨some a, len, cap, hcs, hl, fun hpos => ?_⟩
    rw [cellsStep] at hi
    have key : ∀ i, i < len → ∃ (z : Int) (k v : Nat), w.cell? ((a.add (i * 3)).add 0) = some (.int .i64 z) ∧ w.cell? ((a.add (i * 3)).add 1) = some (.int .u64 (k : Nat)) ∧ w.cell? ((a.add (i * 3)).add 2) = some (.int .u64 (v : Nat)) ∧
        -9223372036854775808 ≤ z ∧ z < 9223372036854775808 ∧ k < 18446744073709551616 ∧ v < 18446744073709551616 := by
      intro i hil
      obtain ⟨cs, hc, ht⟩ := hi i (by omega)
      obtain ⟨u, v, x, rfl, g0, g1, g2⟩ := cells_far (P := Try.prog) hc
      obtain ⟨y0, y1, y2, n', _, _, t0, t1, t2⟩ := trod_struct3 Try.underlying26 ht
      have t0' : DataW.trod enc Try.prog w 0 (fun _ => true) held n' 3 [u] = some y0 := t0
      have t1' : DataW.trod enc Try.prog w 0 (fun _ => true) held n' 23 [v] = some y1 := t1
      have t2' : DataW.trod enc Try.prog w 0 (fun _ => true) held n' 23 [x] = some y2 := t2
      obtain ⟨a0, e0, rfl, w0⟩ := DataW.trod_int Try.underlying3 t0'
      obtain ⟨a1, e1, rfl, w1⟩ := DataW.trod_int Try.underlying23 t1'
      obtain ⟨a2, e2, rfl, w2⟩ := DataW.trod_int Try.underlying23 t2'
      simp at e0 e1 e2
      subst e0 e1 e2
      have b0 := bounds_i64 w0
      have b1 := bounds_u64 w1
      have b2 := bounds_u64 w2
      refine ⟨a0, a1.toNat, a2.toNat, g0, ?_, ?_, by omega, by omega, by omega, by omega⟩
      · rw [Int.toNat_of_nonneg (by omega)]; exact g1
      · rw [Int.toNat_of_nonneg (by omega)]; exact g2
    obtain ⟨z, k, x, g0, _⟩ := key 0 hpos
    obtain ⟨b, o, s⟩ := a
    have hs : s = none := by simpa [Addr.add] using World.cell?_spot g0
    subst hs
    refine ⟨b, o, rfl, fun i hil => ?_⟩
    obtain ⟨z, k, x, g0, g1, g2, r⟩ := key i hil
    have e : ∀ p j, ((⟨b, o, none⟩ : Addr).add p).add j = ⟨b, o + p + j, none⟩ := by
      intro p j
      cases p <;> cases j <;> simp [Addr.add]
    rw [e] at g0 g1 g2
    exact ⟨z, k, x, g0, g1, g2, r⟩
theorem own : ownKnob Try.prog.godebug = none := by kernel_rfl
theorem laidOut : laidOutB Try.prog = true := by kernel_rfl

set_option maxRecDepth 100000 in
theorem lifted (os : Os) (started : os.Started) (H : Type) (enc : TypeId × Value → H) :
    ReturnsInHanded {} Try.checked os 4 .any (Rows.fnFIDeepTurnedSpec.pre6 enc Try.prog Try.f4 Rows.fnFIDeepTurnedRow.domain false) (Rows.fnFIDeepTurnedSpec.post enc Try.prog Try.f4 false true false false) := by
  refine LawKit.lifted (C := Try.checked) (T := 4) own started (by kernel_rfl) Try.func4 laidOut (by kernel_rfl) (by kernel_rfl) Try.underlying4 rfl ?_
    (ChangeSpec.witness6 (enc := enc) (C := Try.checked) false ⟨#[], #[.int .u16 0, .slice none 0 0, .int .u64 0], []⟩ 8 (by kernel_rfl) (by kernel_rfl) (by kernel_rfl) (by kernel_rfl)) ?_
  · intro ds hd
    match ds, hd with
    | [_, _, _], _ => rfl
  · intro W base args ds p hval0 hA0 _
    have hval : ∀ (j : Nat) t v, Try.f4.params[j]? = some t → args[j]? = some v → Value.okWide Try.prog W .any base t v := hval0
    have hA : DataW.TrodAll enc Try.prog W 0 (fun _ => true) true Try.f4.params.toList args.toList ds p := hA0
    rw [Try.params4] at hA hval
    obtain ⟨v0, vs0, d0, ds0, p0, q0, hargs, rfl, rfl, h0, r0⟩ := trodAll_cons hA
    obtain ⟨v1, vs1, d1, ds1, p1, q1, rfl, rfl, rfl, h1, r1⟩ := trodAll_cons r0
    obtain ⟨v2, vs2, d2, ds2, p2, q2, rfl, rfl, rfl, h2, r2⟩ := trodAll_cons r1
    obtain ⟨rfl, rfl, rfl⟩ := trodAll_nil r2
    obtain rfl : args = #[v0, v1, v2] := by cases args; simp_all
    obtain ⟨a0, rfl, rfl, rfl, w0⟩ := open_int Try.underlying22 (hval 0 22 v0 rfl rfl) h0
    have b0 := bounds_u16 w0
    obtain ⟨i0, rfl⟩ : ∃ i : Nat, a0 = (i : Int) := ⟨a0.toNat, by omega⟩
    obtain ⟨fuel, hf⟩ := h1
    obtain ⟨so0, n0, cp0, rfl⟩ := okWide_slice Try.underlying24 (hval 1 24 v1 rfl rfl)
    obtain ⟨so, n, cp, hv, hr⟩ := open_raws hf
    simp only [Value.slice.injEq] at hv
    obtain ⟨rfl, rfl, rfl⟩ := hv
    obtain ⟨a2, rfl, rfl, rfl, w2⟩ := open_int Try.underlying23 (hval 2 23 v2 rfl rfl) h2
    have b2 := bounds_u64 w2
    obtain ⟨i2, rfl⟩ : ∃ i : Nat, a2 = (i : Int) := ⟨a2.toNat, by omega⟩
    exact walk i0 i2 (fun _ => hr) (by omega) (by omega)

theorem proved : Rows.FnFIDeepTurnedSaid :=
  OpenClaim.holds_of_wide 4 Try.f4 rfl rfl rfl rfl rfl rfl rfl ⟨rfl, rfl, rfl, rfl, rfl⟩ rfl rfl rfl rfl rfl (by kernel_rfl) Try.func4 (by kernel_rfl)
    (of_decide_eq_true (by kernel_rfl)) (by unfold Func.isWrapper; first | (rw [if_pos (by decide +kernel)]; kernel_rfl) | (rw [if_neg (by decide +kernel)]; exact ⟨rfl, rfl⟩))
    (fun os started H enc _ => lifted os started H enc)
#print axioms proved
end Go.Proofs.Ytiiobifljflkiaa.LTurned
