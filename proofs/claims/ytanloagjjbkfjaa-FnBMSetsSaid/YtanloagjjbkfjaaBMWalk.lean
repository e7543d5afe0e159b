/- FnBMSets answers true for every number: bitmaps that are set bit by bit are the numbers, and cleared bit by bit they are 0. -/
import Derived.Test.YtanloagjjbkfjaaBMPure
import Derived.Test.YtanloagjjbkfjaaLawKit
import Derived.Test.YtanloagjjbkfjaaRows
import Derived.WalkSpells
import Derived.WalkLawsBesides
namespace Go.Proofs.Ytanloagjjbkfjaa.BM
open Go.RowKit Pop Go.ChangeShapes Go.WideShapes Go.ChangeAt
theorem retI {k : IntKind} {a b : Int} (h : a = b) : Ending.returned (.int k a) = .returned (.int k b) := by rw [h]
theorem retB {a b : Bool} (h : a = b) : Ending.returned (.bool a) = .returned (.bool b) := by rw [h]
set_option maxHeartbeats 400000 in
theorem set64 (b k : Nat) (w : World) (hb : b < 18446744073709551616) (hk : k < 64) :
    Calls Try.prog 14 #[.int .u64 b, .int .u64 k] w fun e w' => e = .returned (.int .u64 (setN b k : Int)) ∧ w = w' := by
  go_enter Try.func14, Try.ntmps14
  go_wp2
  go_ret
  exact ⟨retI (set64I b k hb hk), rfl⟩
set_option maxHeartbeats 400000 in
theorem clr64W (b k : Nat) (w : World) (hb : b < 18446744073709551616) (hk : k < 64) :
    Calls Try.prog 15 #[.int .u64 b, .int .u64 k] w fun e w' => e = .returned (.int .u64 (clr64 b k : Int)) ∧ w = w' := by
  go_enter Try.func15, Try.ntmps15
  go_wp2
  go_ret
  exact ⟨retI (clr64I b k hb hk), rfl⟩
set_option maxHeartbeats 400000 in
theorem get64 (b k : Nat) (w : World) (hb : b < 18446744073709551616) (hk : k < 64) :
    Calls Try.prog 16 #[.int .u64 b, .int .u64 k] w fun e w' => e = .returned (.bool (bitB b k)) ∧ w = w' := by
  go_enter Try.func16, Try.ntmps16
  go_wp2
  go_ret
  exact ⟨retB (get64I b k hb hk), rfl⟩
set_option maxHeartbeats 400000 in
theorem pop64 (b : Nat) (w : World) (hb : b < 18446744073709551616) :
    Calls Try.prog 17 #[.int .u64 b] w fun e w' => e = .returned (.int .i64 (pc 64 b : Int)) ∧ w = w' := by
  have H := Lib.hid (pop64I b hb)
  go_enter Try.func17, Try.ntmps17
  go_wp2
  go_ret
  exact ⟨(retI H.out : Ending.returned (.int .i64 (q5 (q3 (q2 (q1 b))))) = _), rfl⟩
set_option maxHeartbeats 400000 in
theorem bm64_1 (b k : Nat) (w : World) (hb : b < 18446744073709551616) (hk : k < 64) :
    Calls Try.prog 8 #[.int .u64 b, .int .i64 1, .int .u64 k] w fun e w' => e = .returned (.tuple #[.int .u64 (setN b k : Int), .bool false, .int .i64 0]) ∧ w = w' := by
  go_enter Try.func8, Try.ntmps8
  go_wp2_with fail
  refine (set64 _ _ _ hb hk).mono ?_; rintro e w' ⟨rfl, rfl⟩
  go_wp2_with fail
  go_ret3
  exact ⟨rfl, rfl⟩
set_option maxHeartbeats 400000 in
theorem bm64_2 (b k : Nat) (w : World) (hb : b < 18446744073709551616) (hk : k < 64) :
    Calls Try.prog 8 #[.int .u64 b, .int .i64 2, .int .u64 k] w fun e w' => e = .returned (.tuple #[.int .u64 (clr64 b k : Int), .bool false, .int .i64 0]) ∧ w = w' := by
  go_enter Try.func8, Try.ntmps8
  go_wp2_with fail
  refine (clr64W _ _ _ hb hk).mono ?_; rintro e w' ⟨rfl, rfl⟩
  go_wp2_with fail
  go_ret3
  exact ⟨rfl, rfl⟩
set_option maxHeartbeats 400000 in
theorem bm64_3 (b k : Nat) (w : World) (hb : b < 18446744073709551616) (hk : k < 64) :
    Calls Try.prog 8 #[.int .u64 b, .int .i64 3, .int .u64 k] w fun e w' => e = .returned (.tuple #[.int .u64 b, .bool (bitB b k), .int .i64 0]) ∧ w = w' := by
  go_enter Try.func8, Try.ntmps8
  go_wp2_with fail
  refine (get64 _ _ _ hb hk).mono ?_; rintro e w' ⟨rfl, rfl⟩
  go_wp2_with fail
  go_ret3
  exact ⟨rfl, rfl⟩
set_option maxHeartbeats 400000 in
theorem bm64_4 (b : Nat) (k : Int) (w : World) (hb : b < 18446744073709551616) :
    Calls Try.prog 8 #[.int .u64 b, .int .i64 4, .int .u64 k] w fun e w' => e = .returned (.tuple #[.int .u64 b, .bool false, .int .i64 (pc 64 b : Int)]) ∧ w = w' := by
  go_enter Try.func8, Try.ntmps8
  go_wp2_with fail
  refine (pop64 _ _ hb).mono ?_; rintro e w' ⟨rfl, rfl⟩
  go_wp2_with fail
  go_ret3
  exact ⟨rfl, rfl⟩
set_option maxHeartbeats 400000 in
theorem set32 (b k : Nat) (w : World) (hb : b < 4294967296) (hk : k < 32) :
    Calls Try.prog 18 #[.int .u32 b, .int .u64 k] w fun e w' => e = .returned (.int .u32 (setN b k : Int)) ∧ w = w' := by
  go_enter Try.func18, Try.ntmps18
  go_wp2
  go_ret
  exact ⟨retI (set32I b k hb hk), rfl⟩
set_option maxHeartbeats 400000 in
theorem clr32W (b k : Nat) (w : World) (hb : b < 4294967296) (hk : k < 32) :
    Calls Try.prog 19 #[.int .u32 b, .int .u64 k] w fun e w' => e = .returned (.int .u32 (clr32 b k : Int)) ∧ w = w' := by
  go_enter Try.func19, Try.ntmps19
  go_wp2
  go_ret
  exact ⟨retI (clr32I b k hb hk), rfl⟩
set_option maxHeartbeats 400000 in
theorem get32 (b k : Nat) (w : World) (hb : b < 4294967296) (hk : k < 32) :
    Calls Try.prog 20 #[.int .u32 b, .int .u64 k] w fun e w' => e = .returned (.bool (bitB b k)) ∧ w = w' := by
  go_enter Try.func20, Try.ntmps20
  go_wp2
  go_ret
  exact ⟨retB (get32I b k hb hk), rfl⟩
set_option maxHeartbeats 400000 in
theorem pop32 (b : Nat) (w : World) (hb : b < 4294967296) :
    Calls Try.prog 21 #[.int .u32 b] w fun e w' => e = .returned (.int .i64 (pc 32 b : Int)) ∧ w = w' := by
  have H := Lib.hid (pop32I b hb)
  go_enter Try.func21, Try.ntmps21
  go_wp2
  go_ret
  exact ⟨(retI H.out : Ending.returned (.int .i64 (r5 (r3 (r2 (r1 b))))) = _), rfl⟩
set_option maxHeartbeats 400000 in
theorem bm32_1 (b k : Nat) (w : World) (hb : b < 4294967296) (hk : k < 32) :
    Calls Try.prog 9 #[.int .u32 b, .int .i64 1, .int .u64 k] w fun e w' => e = .returned (.tuple #[.int .u32 (setN b k : Int), .bool false, .int .i64 0]) ∧ w = w' := by
  go_enter Try.func9, Try.ntmps9
  go_wp2_with fail
  refine (set32 _ _ _ hb hk).mono ?_; rintro e w' ⟨rfl, rfl⟩
  go_wp2_with fail
  go_ret3
  exact ⟨rfl, rfl⟩
set_option maxHeartbeats 400000 in
theorem bm32_2 (b k : Nat) (w : World) (hb : b < 4294967296) (hk : k < 32) :
    Calls Try.prog 9 #[.int .u32 b, .int .i64 2, .int .u64 k] w fun e w' => e = .returned (.tuple #[.int .u32 (clr32 b k : Int), .bool false, .int .i64 0]) ∧ w = w' := by
  go_enter Try.func9, Try.ntmps9
  go_wp2_with fail
  refine (clr32W _ _ _ hb hk).mono ?_; rintro e w' ⟨rfl, rfl⟩
  go_wp2_with fail
  go_ret3
  exact ⟨rfl, rfl⟩
set_option maxHeartbeats 400000 in
theorem bm32_3 (b k : Nat) (w : World) (hb : b < 4294967296) (hk : k < 32) :
    Calls Try.prog 9 #[.int .u32 b, .int .i64 3, .int .u64 k] w fun e w' => e = .returned (.tuple #[.int .u32 b, .bool (bitB b k), .int .i64 0]) ∧ w = w' := by
  go_enter Try.func9, Try.ntmps9
  go_wp2_with fail
  refine (get32 _ _ _ hb hk).mono ?_; rintro e w' ⟨rfl, rfl⟩
  go_wp2_with fail
  go_ret3
  exact ⟨rfl, rfl⟩
set_option maxHeartbeats 400000 in
theorem bm32_4 (b : Nat) (k : Int) (w : World) (hb : b < 4294967296) :
    Calls Try.prog 9 #[.int .u32 b, .int .i64 4, .int .u64 k] w fun e w' => e = .returned (.tuple #[.int .u32 b, .bool false, .int .i64 (pc 32 b : Int)]) ∧ w = w' := by
  go_enter Try.func9, Try.ntmps9
  go_wp2_with fail
  refine (pop32 _ _ hb).mono ?_; rintro e w' ⟨rfl, rfl⟩
  go_wp2_with fail
  go_ret3
  exact ⟨rfl, rfl⟩
def Rel1 (n m : Nat) (one two told less k : Value) : Prop :=
  ∃ (j i : Nat), j ≤ 64 ∧ i ≤ 32 ∧ (j ≤ 32 ∧ i = j ∨ 32 ≤ j ∧ i = 32) ∧ k = .int .u64 j ∧ one = .int .u64 (lowN n j : Int)
      ∧ two = .int .u32 (lowN m i : Int) ∧ told = .int .i64 (pc j n : Int) ∧ less = .int .i64 (pc i m : Int)
def Rel2 (n m : Nat) (one two k : Value) : Prop :=
  ∃ (j i : Nat), j ≤ 64 ∧ i ≤ 32 ∧ (j ≤ 32 ∧ i = j ∨ 32 ≤ j ∧ i = 32) ∧ k = .int .u64 j ∧ one = .int .u64 (hiN n j : Int) ∧ two = .int .u32 (hiN m i : Int)
theorem hiN_zero (n : Nat) : hiN n 0 = n := by simp [hiN]
theorem hiN_le (n j : Nat) : hiN n j ≤ n := Nat.div_mul_le_self n _
theorem hiN_end64 (n : Nat) (h : n < 18446744073709551616) : hiN n 64 = 0 := by
  have : n / 2 ^ 64 = 0 := Nat.div_eq_of_lt h
  rw [hiN, this, Nat.zero_mul]
theorem hiN_end32 (n : Nat) (h : n < 4294967296) : hiN n 32 = 0 := by
  have : n / 2 ^ 32 = 0 := Nat.div_eq_of_lt h
  rw [hiN, this, Nat.zero_mul]
theorem last64 : setN 0 63 = 9223372036854775808 := by decide
theorem last32 : setN 0 31 = 2147483648 := by decide
set_option maxRecDepth 100000 in
set_option maxHeartbeats 1000000 in
theorem walk (n : Nat) (w : World) (hn : n < 18446744073709551616) :
    Calls Try.prog 4 #[.int .u64 n] w fun e w' => e = .returned (.bool true) ∧ w = w' := by
  obtain ⟨m, hme⟩ : ∃ m : Nat, m = n % 4294967296 := ⟨_, rfl⟩
  have hm : m < 4294967296 := by rw [hme]; exact Nat.mod_lt _ (by decide)
  have hc : (n : Int) % 4294967296 = (m : Int) := by rw [hme]; rfl
  have HC := Lib.hid hc
  have HM := Lib.hid hm
  have HN := Lib.hid hn
  clear hc hme hm hn
  go_enter Try.func4, Try.ntmps4
  go_wp2_with fail
  go_loop [3, 4, 5, 6, 7, 8, 9, 10, 11, 12, 13] (fun one two told less k _ _ _ _ _ _ => Rel1 n m one two told less k) (fun _ _ _ _ k _ _ _ _ _ _ => 64 - (intOf k).toNat)
  case atStart => exact ⟨0, 0, by omega, by omega, by omega, rfl, by simp [lowN, Nat.mod_one], by simp [lowN, Nat.mod_one], rfl, rfl⟩
  case round =>
    obtain ⟨j, i, hj, hi, hij, rfl, rfl, rfl, rfl, rfl⟩ := hrel
    have hp1 := pc_le j n
    have hp2 := pc_le i m
    have L1 : Hid (lowN n j < 18446744073709551616) := Nat.lt_of_le_of_lt (Nat.mod_le _ _) HN.out
    have L2 : Hid (lowN m i < 4294967296) := Nat.lt_of_le_of_lt (Nat.mod_le _ _) HM.out
    by_cases hlt : j < 64
    · by_cases hl2 : j < 32
      · obtain rfl : i = j := by omega
        cases hb1 : bitB n i
        · cases hb2 : bitB m i
          · have hbit1 : bitB n i = false := hb1
            have hbit2 : bitB m i = false := hb2
            have HA := Lib.hid (set_no n i hb1)
            have HB := Lib.hid (set_no m i hb2)
            have HD := Lib.hid (pc_no n i hb1)
            have HE := Lib.hid (pc_no m i hb2)
            clear hb1 hb2
            go_wp2_with fail
            refine (bm64_3 _ _ _ HN.out (by omega)).mono ?_; rintro e w' ⟨rfl, rfl⟩
            rw [hbit1]
            go_wp2_with fail
            rw [HC.out]
            refine (bm32_3 _ _ _ HM.out (by omega)).mono ?_; rintro e w' ⟨rfl, rfl⟩
            rw [hbit2]
            go_wp2_with fail
            go_round
            case rel => exact ⟨i + 1, i + 1, by omega, by omega, by omega, by go_num, by rw [← HA.out], by rw [← HB.out], congrArg (Value.int .i64) (by rw [HD.out]; try omega), congrArg (Value.int .i64) (by rw [HE.out]; try omega)⟩
            case measure => simp [intOf]; omega
          · have hbit1 : bitB n i = false := hb1
            have hbit2 : bitB m i = true := hb2
            have HA := Lib.hid (set_no n i hb1)
            have HB := Lib.hid (set_yes m i hb2)
            have HD := Lib.hid (pc_no n i hb1)
            have HE := Lib.hid (pc_yes m i hb2)
            clear hb1 hb2
            go_wp2_with fail
            refine (bm64_3 _ _ _ HN.out (by omega)).mono ?_; rintro e w' ⟨rfl, rfl⟩
            rw [hbit1]
            go_wp2_with fail
            rw [HC.out]
            refine (bm32_3 _ _ _ HM.out (by omega)).mono ?_; rintro e w' ⟨rfl, rfl⟩
            rw [hbit2]
            go_wp2_with fail
            refine (bm32_1 _ _ _ L2.out (by omega)).mono ?_; rintro e w' ⟨rfl, rfl⟩
            go_wp2_with fail
            go_round
            case rel => exact ⟨i + 1, i + 1, by omega, by omega, by omega, by go_num, by rw [← HA.out], by rw [← HB.out], congrArg (Value.int .i64) (by rw [HD.out]; try omega), congrArg (Value.int .i64) (by rw [HE.out]; try omega)⟩
            case measure => simp [intOf]; omega
        · cases hb2 : bitB m i
          · have hbit1 : bitB n i = true := hb1
            have hbit2 : bitB m i = false := hb2
            have HA := Lib.hid (set_yes n i hb1)
            have HB := Lib.hid (set_no m i hb2)
            have HD := Lib.hid (pc_yes n i hb1)
            have HE := Lib.hid (pc_no m i hb2)
            clear hb1 hb2
            go_wp2_with fail
            refine (bm64_3 _ _ _ HN.out (by omega)).mono ?_; rintro e w' ⟨rfl, rfl⟩
            rw [hbit1]
            go_wp2_with fail
            refine (bm64_1 _ _ _ L1.out (by omega)).mono ?_; rintro e w' ⟨rfl, rfl⟩
            go_wp2_with fail
            rw [HC.out]
            refine (bm32_3 _ _ _ HM.out (by omega)).mono ?_; rintro e w' ⟨rfl, rfl⟩
            rw [hbit2]
            go_wp2_with fail
            go_round
            case rel => exact ⟨i + 1, i + 1, by omega, by omega, by omega, by go_num, by rw [← HA.out], by rw [← HB.out], congrArg (Value.int .i64) (by rw [HD.out]; try omega), congrArg (Value.int .i64) (by rw [HE.out]; try omega)⟩
            case measure => simp [intOf]; omega
          · have hbit1 : bitB n i = true := hb1
            have hbit2 : bitB m i = true := hb2
            have HA := Lib.hid (set_yes n i hb1)
            have HB := Lib.hid (set_yes m i hb2)
            have HD := Lib.hid (pc_yes n i hb1)
            have HE := Lib.hid (pc_yes m i hb2)
            clear hb1 hb2
            go_wp2_with fail
            refine (bm64_3 _ _ _ HN.out (by omega)).mono ?_; rintro e w' ⟨rfl, rfl⟩
            rw [hbit1]
            go_wp2_with fail
            refine (bm64_1 _ _ _ L1.out (by omega)).mono ?_; rintro e w' ⟨rfl, rfl⟩
            go_wp2_with fail
            rw [HC.out]
            refine (bm32_3 _ _ _ HM.out (by omega)).mono ?_; rintro e w' ⟨rfl, rfl⟩
            rw [hbit2]
            go_wp2_with fail
            refine (bm32_1 _ _ _ L2.out (by omega)).mono ?_; rintro e w' ⟨rfl, rfl⟩
            go_wp2_with fail
            go_round
            case rel => exact ⟨i + 1, i + 1, by omega, by omega, by omega, by go_num, by rw [← HA.out], by rw [← HB.out], congrArg (Value.int .i64) (by rw [HD.out]; try omega), congrArg (Value.int .i64) (by rw [HE.out]; try omega)⟩
            case measure => simp [intOf]; omega
      · have HI : Hid (i = 32) := by show i = 32; omega
        have hj32 : 32 ≤ j := by omega
        clear hij
        cases hb1 : bitB n j
        · have hbit1 : bitB n j = false := hb1
          have HA := Lib.hid (set_no n j hb1)
          have HD := Lib.hid (pc_no n j hb1)
          clear hb1
          go_wp2_with fail
          refine (bm64_3 _ _ _ HN.out (by omega)).mono ?_; rintro e w' ⟨rfl, rfl⟩
          rw [hbit1]
          go_wp2_with fail
          go_round
          case rel => exact ⟨j + 1, i, by omega, hi, Or.inr ⟨by omega, HI.out⟩, by go_num, by rw [← HA.out], rfl, congrArg (Value.int .i64) (by rw [HD.out]; try omega), rfl⟩
          case measure => simp [intOf]; omega
        · have hbit1 : bitB n j = true := hb1
          have HA := Lib.hid (set_yes n j hb1)
          have HD := Lib.hid (pc_yes n j hb1)
          clear hb1
          go_wp2_with fail
          refine (bm64_3 _ _ _ HN.out (by omega)).mono ?_; rintro e w' ⟨rfl, rfl⟩
          rw [hbit1]
          go_wp2_with fail
          refine (bm64_1 _ _ _ L1.out (by omega)).mono ?_; rintro e w' ⟨rfl, rfl⟩
          go_wp2_with fail
          go_round
          case rel => exact ⟨j + 1, i, by omega, hi, Or.inr ⟨by omega, HI.out⟩, by go_num, by rw [← HA.out], rfl, congrArg (Value.int .i64) (by rw [HD.out]; try omega), rfl⟩
          case measure => simp [intOf]; omega
    · have hj64 : j = 64 := by omega
      have hi32 : i = 32 := by omega
      have e1 : lowN n j = n := by rw [hj64]; exact Nat.mod_eq_of_lt HN.out
      have e2 : lowN m i = m := by rw [hi32]; exact Nat.mod_eq_of_lt HM.out
      rw [e1, e2]
      have HG1 : Hid (∀ _ : Unit, pc 64 n = pc j n) := fun _ => by rw [hj64]
      have HG2 : Hid (∀ _ : Unit, pc 32 m = pc i m) := fun _ => by rw [hi32]
      clear e1 e2 L1 L2 hij
      have HJ := Lib.hid hj64
      have HI := Lib.hid hi32
      have hj2 : 64 ≤ j := by omega
      clear hj64 hi32 hlt
      generalize pc j n = P1 at *
      generalize pc i m = P2 at *
      go_wp2_with fail
      refine (bm64_4 _ _ _ HN.out).mono ?_; rintro e w' ⟨rfl, rfl⟩
      rw [HG1.out ()]
      go_wp2_with fail
      rw [HC.out]
      refine (bm32_4 _ _ _ HM.out).mono ?_; rintro e w' ⟨rfl, rfl⟩
      rw [HG2.out ()]
      have hne : ((m : Int) != (n : Int) % 4294967296) = false := by rw [HC.out]; exact bne_self_eq_false _
      go_wp2_with fail
      clear hne HG1 HG2 HJ HI hp1 hp2 hj2
      go_loop [3, 4, 20] (fun one two k => Rel2 n m one two k) (fun _ _ k => 64 - (intOf k).toNat)
      case atStart => exact ⟨0, 0, by omega, by omega, by omega, rfl, by rw [hiN_zero], by rw [hiN_zero]⟩
      case round =>
        obtain ⟨j, i, hj, hi, hij, rfl, rfl, rfl⟩ := hrel
        have L1 : Hid (hiN n j < 18446744073709551616) := Nat.lt_of_le_of_lt (hiN_le _ _) HN.out
        have L2 : Hid (hiN m i < 4294967296) := Nat.lt_of_le_of_lt (hiN_le _ _) HM.out
        by_cases hlt : j < 64
        · have HA := Lib.hid (clr64_step n j HN.out hlt)
          by_cases hl2 : j < 32
          · obtain rfl : i = j := by omega
            have HB := Lib.hid (clr32_step m i HM.out hl2)
            go_wp2_with fail
            refine (bm64_2 _ _ _ L1.out (by omega)).mono ?_; rintro e w' ⟨rfl, rfl⟩
            rw [HA.out]
            go_wp2_with fail
            refine (bm32_2 _ _ _ L2.out (by omega)).mono ?_; rintro e w' ⟨rfl, rfl⟩
            rw [HB.out]
            go_wp2_with fail
            go_round
            case rel => exact ⟨i + 1, i + 1, by omega, by omega, by omega, by go_num, rfl, rfl⟩
            case measure => simp [intOf]; omega
          · have HI : Hid (i = 32) := by show i = 32; omega
            have hj32 : 32 ≤ j := by omega
            clear hij
            go_wp2_with fail
            refine (bm64_2 _ _ _ L1.out (by omega)).mono ?_; rintro e w' ⟨rfl, rfl⟩
            rw [HA.out]
            go_wp2_with fail
            go_round
            case rel => exact ⟨j + 1, i, by omega, hi, Or.inr ⟨by omega, HI.out⟩, by go_num, rfl, rfl⟩
            case measure => simp [intOf]; omega
        · have hj64 : j = 64 := by omega
          have hi32 : i = 32 := by omega
          have e1 : hiN n j = 0 := by rw [hj64]; exact hiN_end64 n HN.out
          have e2 : hiN m i = 0 := by rw [hi32]; exact hiN_end32 m HM.out
          rw [e1, e2]
          have hj2 : 64 ≤ j := by omega
          clear e1 e2 L1 L2 hij hj64 hi32 hlt
          go_wp2_with fail
          refine (bm64_1 0 63 _ (by decide) (by decide)).mono ?_; rintro e w' ⟨rfl, rfl⟩
          rw [last64]
          go_wp2_with fail
          refine (bm32_1 0 31 _ (by decide) (by decide)).mono ?_; rintro e w' ⟨rfl, rfl⟩
          rw [last32]
          go_wp2_with fail
          go_ret
          exact ⟨rfl, rfl⟩

theorem own : ownKnob Try.prog.godebug = none := by kernel_rfl
theorem laidOut : laidOutB Try.prog = true := by kernel_rfl

set_option maxRecDepth 100000 in
theorem lifted (os : Os) (started : os.Started) (H : Type) (enc : TypeId × Value → H) :
    ReturnsInHanded {} Try.checked os 4 .any (Rows.fnBMSetsSpec.pre6 enc Try.prog Try.f4 Rows.fnBMSetsRow.domain false) (Rows.fnBMSetsSpec.post enc Try.prog Try.f4 false true false false) := by
  refine LawKit.lifted (C := Try.checked) (T := 4) own started (by kernel_rfl) Try.func4 laidOut (by kernel_rfl) (by kernel_rfl) Try.underlying4 rfl ?_
    (ChangeSpec.witness6 (enc := enc) (C := Try.checked) false ⟨#[], #[.int .u64 0], []⟩ 8 (by kernel_rfl) (by kernel_rfl) (by kernel_rfl) (by kernel_rfl)) ?_
  · intro ds hd
    match ds, hd with
    | [_], _ => rfl
  · intro W base args ds p hval0 hA0 _
    have hval : ∀ (j : Nat) t v, Try.f4.params[j]? = some t → args[j]? = some v → Value.okWide Try.prog W .any base t v := hval0
    have hA : DataW.TrodAll enc Try.prog W 0 (fun _ => true) true Try.f4.params.toList args.toList ds p := hA0
    rw [Try.params4] at hA hval
    obtain ⟨v0, vs0, d0, ds0, p0, q0, hargs, rfl, rfl, h0, r0⟩ := trodAll_cons hA
    obtain ⟨rfl, rfl, rfl⟩ := trodAll_nil r0
    obtain rfl : args = #[v0] := by cases args; simp_all
    obtain ⟨a0, rfl, rfl, rfl, w0⟩ := open_int Try.underlying27 (hval 0 27 v0 rfl rfl) h0
    have b0 := bounds_u64 w0
    obtain ⟨n, rfl⟩ : ∃ n : Nat, a0 = (n : Int) := ⟨a0.toNat, by omega⟩
    exact (walk n W (by omega)).mono fun e W' ⟨he, hw⟩ => ⟨he, hw ▸ Below.refl _ _⟩

theorem proved : Rows.FnBMSetsSaid :=
  OpenClaim.holds_of_wide 4 Try.f4 rfl rfl rfl rfl rfl rfl rfl ⟨rfl, rfl, rfl, rfl, rfl⟩ rfl rfl rfl rfl rfl (by kernel_rfl) Try.func4 (by kernel_rfl)
    (of_decide_eq_true (by kernel_rfl)) (by unfold Func.isWrapper; first | (rw [if_pos (by decide +kernel)]; kernel_rfl) | (rw [if_neg (by decide +kernel)]; exact ⟨rfl, rfl⟩))
    (fun os started H enc _ => lifted os started H enc)
#print axioms proved
end Go.Proofs.Ytanloagjjbkfjaa.BM
