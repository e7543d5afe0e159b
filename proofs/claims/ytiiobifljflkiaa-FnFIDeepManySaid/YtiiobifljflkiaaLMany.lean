/- FnFIDeepMany answers true for every hint, first key, distance and number of keys. -/
import Derived.Test.YtiiobifljflkiaaF11
import Derived.Test.YtiiobifljflkiaaLawKit
namespace Go.Proofs.Ytiiobifljflkiaa.LMany
open Go.RowKit Go.ChangeShapes Go.WideShapes Go.ChangeAt FI

def odd (b : Nat) : Nat := b ||| 1
theorem odd_lt {b : Nat} (h : b < 18446744073709551616) : odd b < 18446744073709551616 := Nat.or_lt_two_pow (n := 64) h (by decide)
theorem odd_mod (b : Nat) : odd b % 2 = 1 := by
  have : (odd b).testBit 0 = true := by rw [odd, Nat.testBit_or]; simp
  rw [Nat.testBit_zero] at this
  simpa using this
theorem oddI {b : Nat} (h : b < 18446744073709551616) : bits BinOp.or IntKind.u64 (b : Int) 1 = (odd b : Int) := u64_or_nat b 1 h (by decide)
theorem keyI (f g k : Nat) : IntKind.u64.wrap ((f : Int) + IntKind.u64.wrap ((k : Int) * (g : Int))) = (keyOf f g k : Int) := by
  rw [mulI, IntKind.wrap_u64, ← Int.natCast_add]
  unfold keyOf
  rw [Int.natCast_emod]; rfl
theorem cells_new (W : World) (vs : Array Value) (t : TypeId) (ad : Nat) (had : ad = W.heap.size) : ∀ j x, vs.toList[j]? = some x → (W.alloc (.cells vs t)).cell? ((⟨ad, 0, none⟩ : Addr).add j) = some x := by
  subst had
  intro j x hj
  have h1 := (Blk.new W vs t).cell (i := j) (v := x) (by simpa using hj)
  cases j with
  | zero => exact h1
  | succ j => simpa [Addr.add] using h1
theorem info26 : (Try.prog.info? 26).map (fun i => (i.zero, i.size, i.bytes)) = some (some (.agg #[.int .i64 0, .int .u64 0, .int .u64 0]), 3, 24) := by kernel_rfl
set_option maxRecDepth 100000 in
set_option maxHeartbeats 2000000 in
theorem walk {w : World} (hint first by_ many : Nat) (hh : hint < 65536) (hf : first < 18446744073709551616) (hb : by_ < 18446744073709551616) (hm : many < 65536) :
    Calls Try.prog 3 #[.int .u16 hint, .int .u64 first, .int .u64 by_, .int .u16 many] w fun e w' => e = .returned (.bool true) ∧ Below w.heap.size w w' := by
  obtain ⟨i0, hi, hz0, hz1, hz2⟩ := info_parts2 info26
  have HI : Hid (Try.prog.info? 26 = some i0 ∧ i0.zero = some (.agg #[.int .i64 0, .int .u64 0, .int .u64 0]) ∧ i0.size = 3 ∧ i0.bytes = 24) := ⟨hi, hz0, hz1, hz2⟩
  clear hi hz0 hz1 hz2
  have hcast : (many : Int) % 300 = ((many % 300 : Nat) : Int) := rfl
  have hi : many % 300 < 300 := Nat.mod_lt _ (by decide)
  obtain ⟨i, hie⟩ : ∃ i, i = many % 300 := ⟨_, rfl⟩
  rw [← hie] at hcast hi
  obtain ⟨n, hn⟩ : ∃ n, n = i + 1 := ⟨_, rfl⟩
  have hn1 : (1 : Int) + (i : Int) = (n : Int) := by omega
  have hn300 : n ≤ 300 := by omega
  have hpos : 0 < n := by omega
  have hcast2 : (hint : Int) % 601 = ((hint % 601 : Nat) : Int) := rfl
  have hh2 : hint % 601 < 601 := Nat.mod_lt _ (by decide)
  obtain ⟨hi2, hie2⟩ : ∃ i, i = hint % 601 := ⟨_, rfl⟩
  rw [← hie2] at hcast2 hh2
  have HK := Lib.hid (keyI first (odd by_))
  rw [← oddI hb] at HK
  obtain ⟨key, hkey⟩ : ∃ key, key = keyOf first (odd by_) := ⟨_, rfl⟩
  rw [← hkey] at HK
  have HL : Hid (∀ i, key i < 18446744073709551616) := by rw [hkey]; exact fun i => keyOf_lt _ _ i
  have HJ : Hid (∀ i j, i < 300 → j < 300 → key i = key j → i = j) := by rw [hkey]; exact fun i j h1 h2 h => keyOf_inj (odd_mod by_) h1 h2 h
  clear hie hkey hn hi hie2
  go_enter Try.func3, Try.ntmps3
  go_wp2_with fail
  clear hcast hn1
  go_loopw [10, 11] (fun lv iv wr => ∃ k : Nat, k ≤ n ∧ iv = .int .i64 k ∧ Hid (wr.ownsRow w.heap.size 26 3 lv k (cellsOf (steps key n k)) ∧ Below w.heap.size w wr)) (fun _ iv _ => n - (intOf iv).toNat)
  case atStart => exact ⟨0, by omega, rfl, World.ownsRow_nil _ _ _ _, Below.refl _ _⟩
  case round =>
    obtain ⟨k, hk, rfl, hR⟩ := hrel
    have HR : Hid (wr.ownsRow w.heap.size 26 3 _ k (cellsOf (steps key n k)) ∧ Below w.heap.size w wr) := hR
    clear hR
    by_cases hkl : k < n
    · have HS : Hid (cellsOf (steps key n (k)) ++ [.int .i64 1, .int .u64 (key k : Nat), .int .u64 1] = cellsOf (steps key n (k + 1))) := by
        unfold Hid
        rw [steps_succ, cellsOf_append, stp_a hkl]; rfl
      go_wp2_with (at_builtin; go_must (refine wpList_append_own_at _ rfl _ _ 24 rfl w.heap.size 26 i0 (.agg #[.int .i64 0, .int .u64 0, .int .u64 0]) 3 24 Try.underlying24 HI.out.1 HI.out.2.1 HI.out.2.2.1 HI.out.2.2.2 rfl (by decide) _ _ _ rfl (HR.out.1.alloc _) ⟨wr.heap.size, 0, none⟩ 1 1 [.int .i64 1, .int .u64 (IntKind.u64.wrap ((first : Int) + IntKind.u64.wrap ((k : Int) * bits BinOp.or IntKind.u64 (by_ : Int) 1))), .int .u64 1] rfl rfl ?c1 ?c2 ?c3 ?c4 ?c5 ?_))
      case c1 => exact cells_new _ _ _ _ rfl
      case c2 => intro u hu; simp at hu; rcases hu with rfl | rfl | rfl <;> rfl
      case c3 => unfold maxLen; omega
      case c4 => omega
      case c5 => have := HR.out.2.size; simp; omega
      intro v' w3 hown' hgrow _ hblk
      rw [HK.out k, HS.out] at hown'
      have HQ : Hid (w3.ownsRow w.heap.size 26 3 v' (k + 1) (cellsOf (steps key n (k + 1))) ∧ Below w.heap.size w w3) := ⟨hown', HR.out.2.trans (own_grown HR.out.1 hgrow HR.out.2.size)⟩
      obtain ⟨so, cq, rfl⟩ := own_shape hown'
      clear hown' hgrow hblk
      go_wp2_with fail
      go_roundw
      case rel => exact ⟨k + 1, by omega, by go_num, HQ⟩
      case measure => simp [intOf]; omega
    · have hkx : n = k := by omega
      subst hkx
      have HR0 := Lib.hid HR.out
      clear HR hkl hk
      go_wp2_with fail
      go_loopw [10, 12] (fun lv iv wr => ∃ (t : Nat) (z : Int), t ≤ n ∧ iv = .int .i64 z ∧ z = (n : Int) - 1 - t ∧ Hid (wr.ownsRow w.heap.size 26 3 lv (n + 2 * t) (cellsOf (steps key n (n + 2 * t))) ∧ Below w.heap.size w wr)) (fun _ iv _ => (intOf iv + 1).toNat)
      case atStart => exact ⟨0, (n : Int) - 1, by omega, by go_num, by omega, HR0⟩
      case round =>
        obtain ⟨t, z, ht, rfl, hz, hR⟩ := hrel
        have HR : Hid (wr.ownsRow w.heap.size 26 3 _ (n + 2 * t) (cellsOf (steps key n (n + 2 * t))) ∧ Below w.heap.size w wr) := hR
        clear hR
        by_cases htl : t < n
        · obtain ⟨j, hj⟩ : ∃ j : Nat, z = j := ⟨z.toNat, by omega⟩
          subst hj
          have hjt : j = n - 1 - t := by omega
          have hjn : j < n := by omega
          have HJt := Lib.hid hjt
          have HZ := Lib.hid hz
          clear hjt hz
          have HS : Hid (cellsOf (steps key n (n + 2 * t)) ++ [.int .i64 4, .int .u64 (key j : Nat), .int .u64 0, .int .i64 3, .int .u64 (key j : Nat), .int .u64 0] = cellsOf (steps key n (n + 2 * (t + 1)))) := by
            unfold Hid
            rw [show n + 2 * (t + 1) = n + 2 * t + 2 by omega, steps_two, cellsOf_append, stp_b htl, stp_c htl, ← HJt.out]; rfl
          go_wp2_with (at_builtin; go_must (refine wpList_append_own_at _ rfl _ _ 24 rfl w.heap.size 26 i0 (.agg #[.int .i64 0, .int .u64 0, .int .u64 0]) 3 24 Try.underlying24 HI.out.1 HI.out.2.1 HI.out.2.2.1 HI.out.2.2.2 rfl (by decide) _ _ _ rfl (HR.out.1.alloc _) ⟨wr.heap.size, 0, none⟩ 2 2 [.int .i64 4, .int .u64 (IntKind.u64.wrap ((first : Int) + IntKind.u64.wrap ((j : Int) * bits BinOp.or IntKind.u64 (by_ : Int) 1))), .int .u64 0, .int .i64 3, .int .u64 (IntKind.u64.wrap ((first : Int) + IntKind.u64.wrap ((j : Int) * bits BinOp.or IntKind.u64 (by_ : Int) 1))), .int .u64 0] rfl rfl ?c1 ?c2 ?c3 ?c4 ?c5 ?_))
          case c1 => exact cells_new _ _ _ _ rfl
          case c2 => intro u hu; simp at hu; rcases hu with rfl | rfl | rfl | rfl | rfl | rfl <;> rfl
          case c3 => unfold maxLen; omega
          case c4 => omega
          case c5 => have := HR.out.2.size; simp; omega
          intro v' w3 hown' hgrow _ hblk
          rw [HK.out j, HS.out] at hown'
          have HQ : Hid (w3.ownsRow w.heap.size 26 3 v' (n + 2 * (t + 1)) (cellsOf (steps key n (n + 2 * (t + 1)))) ∧ Below w.heap.size w w3) := ⟨hown', HR.out.2.trans (own_grown HR.out.1 hgrow HR.out.2.size)⟩
          obtain ⟨so, cq, rfl⟩ := own_shape hown'
          clear hown' hgrow hblk
          go_wp2_with fail
          go_roundw
          case rel => exact ⟨t + 1, (j : Int) - 1, by omega, by go_num, by have := HZ.out; omega, HQ⟩
          case measure => simp [intOf]
        · have htx : t = n := by omega
          have hz1 : z = -1 := by omega
          subst hz1
          have hR0 := HR.out
          rw [htx, show n + 2 * n = 3 * n + 2 * 0 by omega] at hR0
          have HR0 := Lib.hid hR0
          clear HR htx htl ht hz hR0
          go_wp2_with fail
          go_loopw [10, 13] (fun lv iv wr => ∃ k : Nat, k ≤ n ∧ iv = .int .i64 k ∧ Hid (wr.ownsRow w.heap.size 26 3 lv (3 * n + 2 * k) (cellsOf (steps key n (3 * n + 2 * k))) ∧ Below w.heap.size w wr)) (fun _ iv _ => n - (intOf iv).toNat)
          case atStart => exact ⟨0, by omega, rfl, HR0⟩
          case round =>
            obtain ⟨k, hk, rfl, hR⟩ := hrel
            have HR : Hid (wr.ownsRow w.heap.size 26 3 _ (3 * n + 2 * k) (cellsOf (steps key n (3 * n + 2 * k))) ∧ Below w.heap.size w wr) := hR
            clear hR
            by_cases hkl : k < n
            · have HS : Hid (cellsOf (steps key n (3 * n + 2 * k)) ++ [.int .i64 1, .int .u64 (key k : Nat), .int .u64 ((k : Int) + 2), .int .i64 2, .int .u64 (key k : Nat), .int .u64 0] = cellsOf (steps key n (3 * n + 2 * (k + 1)))) := by
                unfold Hid
                rw [show 3 * n + 2 * (k + 1) = 3 * n + 2 * k + 2 by omega, steps_two, cellsOf_append, stp_d, stp_e]; rfl
              go_wp2_with (at_builtin; go_must (refine wpList_append_own_at _ rfl _ _ 24 rfl w.heap.size 26 i0 (.agg #[.int .i64 0, .int .u64 0, .int .u64 0]) 3 24 Try.underlying24 HI.out.1 HI.out.2.1 HI.out.2.2.1 HI.out.2.2.2 rfl (by decide) _ _ _ rfl (HR.out.1.alloc _) ⟨wr.heap.size, 0, none⟩ 2 2 [.int .i64 1, .int .u64 (IntKind.u64.wrap ((first : Int) + IntKind.u64.wrap ((k : Int) * bits BinOp.or IntKind.u64 (by_ : Int) 1))), .int .u64 ((k : Int) + 2), .int .i64 2, .int .u64 (IntKind.u64.wrap ((first : Int) + IntKind.u64.wrap ((k : Int) * bits BinOp.or IntKind.u64 (by_ : Int) 1))), .int .u64 0] rfl rfl ?c1 ?c2 ?c3 ?c4 ?c5 ?_))
              case c1 => exact cells_new _ _ _ _ rfl
              case c2 => intro u hu; simp at hu; rcases hu with rfl | rfl | rfl | rfl | rfl | rfl <;> rfl
              case c3 => unfold maxLen; omega
              case c4 => omega
              case c5 => have := HR.out.2.size; simp; omega
              intro v' w3 hown' hgrow _ hblk
              rw [HK.out k, HS.out] at hown'
              have HQ : Hid (w3.ownsRow w.heap.size 26 3 v' (3 * n + 2 * (k + 1)) (cellsOf (steps key n (3 * n + 2 * (k + 1)))) ∧ Below w.heap.size w w3) := ⟨hown', HR.out.2.trans (own_grown HR.out.1 hgrow HR.out.2.size)⟩
              obtain ⟨so, cq, rfl⟩ := own_shape hown'
              clear hown' hgrow hblk
              go_wp2_with fail
              go_roundw
              case rel => exact ⟨k + 1, by omega, by go_num, HQ⟩
              case measure => simp [intOf]; omega
            · have hkx : n = k := by omega
              subst hkx
              have hlen := steps_len (key := key) (n := n) (5 * n)
              have hst := HR.out.1
              rw [show 3 * n + 2 * n = 5 * n by omega] at hst
              have HRun := Lib.hid (Run_any (w := wr) (h := hi2) hh2 (Stps.of_own (xs := steps key n (5 * n)) (by rw [hlen]; exact hst)) (okay_steps HJ.out HL.out hn300) (by rw [hlen]; omega))
              rw [hlen] at HRun
              have HB := Lib.hid HR.out.2
              obtain ⟨so, cq, rfl⟩ := own_shape hst
              clear HR hst hlen hkl hk
              go_wp2_with fail
              refine HRun.out.mono ?_
              rintro e w5 ⟨v, L, rfl, hown, hlen, hsay, hb5⟩
              have HT : Hid (∀ i, i < n → (L.getD (n + 2 * i + 1) (0, false)).2 = false ∧ L.getD (3 * n + 2 * i + 1) (0, false) = (i + 2, true)) := fun i hi => tell_steps HJ.out hn300 (by rw [steps_len]; exact hsay) hi
              rcases Anss.of_own hown with h0 | ⟨b, c, rfl, hc, hcells⟩
              · rw [h0] at hlen; simp at hlen; omega
              have HC := Lib.hid hcells
              have HB5 : Hid (Below w.heap.size w w5) := HB.out.trans (hb5.mono HB.out.size)
              rw [hlen] at hc ⊢
              clear hown hsay hcells hb5 HRun
              go_wp2_with fail
              go_loopw [15] (fun iv wr => ∃ k : Nat, k ≤ n ∧ iv = .int .i64 k ∧ w5 = wr) (fun iv _ => n - (intOf iv).toNat)
              case atStart => exact ⟨0, by omega, rfl, rfl⟩
              case round =>
                obtain ⟨k, hk, rfl, rfl⟩ := hrel
                by_cases hkl : k < n
                · have z1 := (HT.out k hkl).1
                  have z2 := (HT.out k hkl).2
                  have y1 : w5.cell? ⟨b, (n + 2 * k + 1) * 2 + 1, none⟩ = some (.bool false) := by rw [(HC.out (n + 2 * k + 1) (by omega)).2, z1]
                  have y2 : w5.cell? ⟨b, (3 * n + 2 * k + 1) * 2, none⟩ = some (.int .u64 ((k + 2 : Nat) : Int)) := by rw [(HC.out (3 * n + 2 * k + 1) (by omega)).1, z2]
                  have y3 : w5.cell? ⟨b, (3 * n + 2 * k + 1) * 2 + 1, none⟩ = some (.bool true) := by rw [(HC.out (3 * n + 2 * k + 1) (by omega)).2, z2]
                  clear z1 z2
                  go_wp2_with fail
                  exact ⟨⟨k + 1, by omega, by go_num, trivial⟩, by simp [intOf]; omega⟩
                · go_wp2_with fail
                  go_ret
                  exact ⟨rfl, HB5.out⟩

theorem own : ownKnob Try.prog.godebug = none := by kernel_rfl
theorem laidOut : laidOutB Try.prog = true := by kernel_rfl

set_option maxRecDepth 100000 in
theorem lifted (os : Os) (started : os.Started) (H : Type) (enc : TypeId × Value → H) :
    ReturnsInHanded {} Try.checked os 3 .any (Rows.fnFIDeepManySpec.pre6 enc Try.prog Try.f3 Rows.fnFIDeepManyRow.domain false) (Rows.fnFIDeepManySpec.post enc Try.prog Try.f3 false true false false) := by
  refine LawKit.lifted (C := Try.checked) (T := 4) own started (by kernel_rfl) Try.func3 laidOut (by kernel_rfl) (by kernel_rfl) Try.underlying4 rfl ?_
    (ChangeSpec.witness6 (enc := enc) (C := Try.checked) false ⟨#[], #[.int .u16 0, .int .u64 0, .int .u64 0, .int .u16 0], []⟩ 8 (by kernel_rfl) (by kernel_rfl) (by kernel_rfl) (by kernel_rfl)) ?_
  · intro ds hd
    match ds, hd with
    | [_, _, _, _], _ => rfl
  · intro W base args ds p hval0 hA0 _
    have hval : ∀ (j : Nat) t v, Try.f3.params[j]? = some t → args[j]? = some v → Value.okWide Try.prog W .any base t v := hval0
    have hA : DataW.TrodAll enc Try.prog W 0 (fun _ => true) true Try.f3.params.toList args.toList ds p := hA0
    rw [Try.params3] at hA hval
    obtain ⟨v0, vs0, d0, ds0, p0, q0, hargs, rfl, rfl, h0, r0⟩ := trodAll_cons hA
    obtain ⟨v1, vs1, d1, ds1, p1, q1, rfl, rfl, rfl, h1, r1⟩ := trodAll_cons r0
    obtain ⟨v2, vs2, d2, ds2, p2, q2, rfl, rfl, rfl, h2, r2⟩ := trodAll_cons r1
    obtain ⟨v3, vs3, d3, ds3, p3, q3, rfl, rfl, rfl, h3, r3⟩ := trodAll_cons r2
    obtain ⟨rfl, rfl, rfl⟩ := trodAll_nil r3
    obtain rfl : args = #[v0, v1, v2, v3] := by cases args; simp_all
    obtain ⟨a0, rfl, rfl, rfl, w0⟩ := open_int Try.underlying22 (hval 0 22 v0 rfl rfl) h0
    have b0 := bounds_u16 w0
    obtain ⟨i0, rfl⟩ : ∃ i : Nat, a0 = (i : Int) := ⟨a0.toNat, by omega⟩
    obtain ⟨a1, rfl, rfl, rfl, w1⟩ := open_int Try.underlying23 (hval 1 23 v1 rfl rfl) h1
    have b1 := bounds_u64 w1
    obtain ⟨i1, rfl⟩ : ∃ i : Nat, a1 = (i : Int) := ⟨a1.toNat, by omega⟩
    obtain ⟨a2, rfl, rfl, rfl, w2⟩ := open_int Try.underlying23 (hval 2 23 v2 rfl rfl) h2
    have b2 := bounds_u64 w2
    obtain ⟨i2, rfl⟩ : ∃ i : Nat, a2 = (i : Int) := ⟨a2.toNat, by omega⟩
    obtain ⟨a3, rfl, rfl, rfl, w3⟩ := open_int Try.underlying22 (hval 3 22 v3 rfl rfl) h3
    have b3 := bounds_u16 w3
    obtain ⟨i3, rfl⟩ : ∃ i : Nat, a3 = (i : Int) := ⟨a3.toNat, by omega⟩
    exact walk i0 i1 i2 i3 (by omega) (by omega) (by omega) (by omega)

theorem proved : Rows.FnFIDeepManySaid :=
  OpenClaim.holds_of_wide 3 Try.f3 rfl rfl rfl rfl rfl rfl rfl ⟨rfl, rfl, rfl, rfl, rfl⟩ rfl rfl rfl rfl rfl (by kernel_rfl) Try.func3 (by kernel_rfl)
    (of_decide_eq_true (by kernel_rfl)) (by unfold Func.isWrapper; first | (rw [if_pos (by decide +kernel)]; kernel_rfl) | (rw [if_neg (by decide +kernel)]; exact ⟨rfl, rfl⟩))
    (fun os started H enc _ => lifted os started H enc)
#print axioms proved
end Go.Proofs.Ytiiobifljflkiaa.LMany
