/- How many bits are set: math/bits.OnesCount64, popcntSlice, Count. -/
import Derived.Test.YtbkodehcjhpcmaaQ5
import Derived.Test.YtbkodehcjhpcmaaPopPure
namespace Go.Proofs.Ytbkodehcjhpcmaa.Q
open Go.RowKit Pop

theorem div_step (m a b x : Nat) (ha : a < m) (hx : x = a + m * b) : x / m = b := by
  rw [hx, Nat.add_mul_div_left _ _ (by omega), Nat.div_eq_of_lt ha, Nat.zero_add]
theorem oc_bytes (c0 c1 c2 c3 c4 c5 c6 c7 x3 x4 x5 x6 : Nat) (g0 : c0 ≤ 8) (g1 : c1 ≤ 8) (g2 : c2 ≤ 8) (g3 : c3 ≤ 8) (g4 : c4 ≤ 8) (g5 : c5 ≤ 8) (g6 : c6 ≤ 8) (g7 : c7 ≤ 8)
    (t3 : x3 = c0 + 256 * (c1 + 256 * (c2 + 256 * (c3 + 256 * (c4 + 256 * (c5 + 256 * (c6 + 256 * c7))))))) (h4 : x4 = x3 + x3 / 256) (h5 : x5 = x4 + x4 / 65536) (h6 : x6 = x5 + x5 / 4294967296) :
    ∃ q, x6 = (c0 + c1 + c2 + c3 + c4 + c5 + c6 + c7) + 128 * q ∧ x6 < 9223372036854775808 := by
  have b1 : c0 < 256 := by clear t3 h4 h5 h6; omega
  have b2 : (c0 + c1) + 256 * (c1 + c2) < 65536 := by clear t3 h4 h5 h6; omega
  have b3 : (c0 + c1 + c2 + c3) + 256 * (c1 + c2 + c3 + c4) + 65536 * (c2 + c3 + c4 + c5) + 16777216 * (c3 + c4 + c5 + c6) < 4294967296 := by clear t3 h4 h5 h6; omega
  rw [div_step 256 _ _ x3 b1 t3, t3] at h4
  clear t3 b1
  have q4 : x4 = ((c0 + c1) + 256 * (c1 + c2)) + 65536 * ((c2 + c3) + 256 * ((c3 + c4) + 256 * ((c4 + c5) + 256 * ((c5 + c6) + 256 * ((c6 + c7) + 256 * c7))))) := by rw [h4]; clear h4 h5 h6 b2 b3; omega
  clear h4
  rw [div_step 65536 _ _ x4 b2 q4, q4] at h5
  clear q4 b2
  have q5 : x5 = ((c0 + c1 + c2 + c3) + 256 * (c1 + c2 + c3 + c4) + 65536 * (c2 + c3 + c4 + c5) + 16777216 * (c3 + c4 + c5 + c6)) + 4294967296 * ((c4 + c5 + c6 + c7) + 256 * ((c5 + c6 + c7) + 256 * ((c6 + c7) + 256 * c7))) := by rw [h5]; clear h5 h6 b3; omega
  clear h5
  rw [div_step 4294967296 _ _ x5 b3 q5, q5] at h6
  clear q5 b3
  refine ⟨2 * ((c1 + c2 + c3 + c4 + c5 + c6 + c7) + 256 * ((c2 + c3 + c4 + c5 + c6 + c7) + 256 * ((c3 + c4 + c5 + c6 + c7) + 256 * ((c4 + c5 + c6 + c7) + 256 * ((c5 + c6 + c7) + 256 * ((c6 + c7) + 256 * c7)))))), ?_, ?_⟩
  · rw [h6]; clear h6; omega
  · rw [h6]; clear h6; omega

theorem oc_nat (b : Nat) (hb : b < 18446744073709551616) (x1 x2 x3 x4 x5 x6 : Nat) (h1 : x1 = (b / 2 &&& 6148914691236517205) + (b &&& 6148914691236517205)) (h2 : x2 = (x1 / 4 &&& 3689348814741910323) + (x1 &&& 3689348814741910323))
    (h3 : x3 = (x2 / 16 + x2) &&& 1085102592571150095) (h4 : x4 = x3 + x3 / 256) (h5 : x5 = x4 + x4 / 65536) (h6 : x6 = x5 + x5 / 4294967296) :
    x1 < 18446744073709551616 ∧ x2 < 18446744073709551616 ∧ x2 / 16 + x2 < 18446744073709551616 ∧ x3 < 18446744073709551616 ∧ x4 < 18446744073709551616 ∧ x5 < 18446744073709551616 ∧ x6 < 9223372036854775808 ∧ x6 % 128 = pc 64 b ∧ pc 64 b ≤ 64 := by
  have e1 : mk 2 32 = 6148914691236517205 := by decide
  have e2 : mk 4 16 = 3689348814741910323 := by decide
  have e3 : mk 16 8 = 1085102592571150095 := by decide
  have hd : ∀ d ∈ bl 64 b, d < 2 := fun d h => by have := bl_le 64 b d h; omega
  have hl := bl_len 64 b
  have s1 := step_both 1 32 (bl 64 b) (by omega) (by simpa using hd)
  rw [show (2:Nat) ^ 1 = 2 from rfl, bl_ev, Nat.mod_eq_of_lt (show b < 2 ^ 64 from hb), e1, ← h1] at s1
  have l1 := sums_len 32 (bl 64 b) (by omega)
  have s2 := step_both 2 16 (sums (bl 64 b)) (by rw [l1]) (fun d h => by have := sums_le 1 32 _ (by omega) (bl_le 64 b) d h; omega)
  rw [show (2:Nat) ^ (2 * 1) = 4 from rfl] at s1
  rw [show (2:Nat) ^ 2 = 4 from rfl, ← s1, e2, ← h2, show (2:Nat) ^ (2 * 2) = 16 from rfl] at s2
  have t3 := to_bytes3 8 b
  rw [e3, show 8 * 8 = 64 from rfl, ← s2, Nat.add_comm x2, ← h3] at t3
  have hp1 : x1 ≤ 6148914691236517205 + 6148914691236517205 := by rw [h1]; exact Nat.add_le_add Nat.and_le_right Nat.and_le_right
  have hp2 : x2 ≤ 3689348814741910323 + 3689348814741910323 := by rw [h2]; exact Nat.add_le_add Nat.and_le_right Nat.and_le_right
  have hp3 : x3 ≤ 1085102592571150095 := by rw [h3]; exact Nat.and_le_right
  clear h1 h2 h3 s1 s2
  obtain ⟨l, hl, hlen, hle, hsum⟩ := bytes_of b 8
  rw [show 8 * 8 = 64 from rfl] at hl hsum
  rw [hl] at t3
  match l, hlen with
  | [c0, c1, c2, c3, c4, c5, c6, c7], _ =>
    have g0 := hle c0 (by simp)
    have g1 := hle c1 (by simp)
    have g2 := hle c2 (by simp)
    have g3 := hle c3 (by simp)
    have g4 := hle c4 (by simp)
    have g5 := hle c5 (by simp)
    have g6 := hle c6 (by simp)
    have g7 := hle c7 (by simp)
    simp only [evl] at t3
    simp only [List.sum_cons, List.sum_nil] at hsum
    rw [Nat.mul_zero, Nat.add_zero] at t3
    obtain ⟨q, hq, hq2⟩ := oc_bytes c0 c1 c2 c3 c4 c5 c6 c7 x3 x4 x5 x6 g0 g1 g2 g3 g4 g5 g6 g7 t3 h4 h5 h6
    have hx4 : x4 < 4294967296 * 4294967296 := by clear h5 h6 hq hq2 hsum hle t3; omega
    have hx5 : x5 < 4294967296 * 4294967296 := by clear h6 hq hq2 hsum hle t3; omega
    clear h4 h5 h6 t3
    have hs : pc 64 b = c0 + c1 + c2 + c3 + c4 + c5 + c6 + c7 := by rw [← hsum]; simp only [Nat.add_assoc, Nat.add_zero]
    refine ⟨by omega, by omega, by omega, by omega, hx4, hx5, hq2, ?_, by omega⟩
    rw [hq, hs, Nat.add_mul_mod_self_left, Nat.mod_eq_of_lt (by clear hq; omega)]

theorem and127 (x : Nat) (hx : x < 9223372036854775808) : bits BinOp.and IntKind.i64 (x : Int) 127 = ((x % 128 : Nat) : Int) := by
  have h := bits_mask .i64 63 (by decide) (fun n h0 h1 => by rw [show (2 : Int) ^ 63 = 9223372036854775808 by decide] at h1; rw [IntKind.wrap_i64]; omega) 7 (by decide) (x : Int) (by omega) (by rw [show (2 : Int) ^ 63 = 9223372036854775808 by decide]; omega)
  rw [show ((2 : Int) ^ 7 - 1) = 127 by decide] at h
  rw [h]
  omega
def o1 (b : Int) : Int := IntKind.u64.wrap (bits .and .u64 (b / 2) 6148914691236517205 + bits .and .u64 b 6148914691236517205)
def o2 (x : Int) : Int := IntKind.u64.wrap (bits .and .u64 (x / 4) 3689348814741910323 + bits .and .u64 x 3689348814741910323)
def o3 (x : Int) : Int := bits .and .u64 (IntKind.u64.wrap (x / 16 + x)) 1085102592571150095
def o4 (x : Int) : Int := IntKind.u64.wrap (x + x / 256)
def o5 (x : Int) : Int := IntKind.u64.wrap (x + x / 65536)
def o6 (x : Int) : Int := IntKind.u64.wrap (x + x / 4294967296)
def o7 (x : Int) : Int := bits .and .i64 (wrap64 x) 127
theorem oc_int (b : Nat) (hb : b < 18446744073709551616) : o7 (o6 (o5 (o4 (o3 (o2 (o1 b)))))) = (pc 64 b : Int) := by
  obtain ⟨h1, h2, h3, h4, h5, h6, h7, h8, h9⟩ := oc_nat b hb _ _ _ _ _ _ rfl rfl rfl rfl rfl rfl
  generalize hp1 : (b / 2 &&& 6148914691236517205) + (b &&& 6148914691236517205) = p1 at *
  generalize hp2 : (p1 / 4 &&& 3689348814741910323) + (p1 &&& 3689348814741910323) = p2 at *
  generalize hp3 : (p2 / 16 + p2) &&& 1085102592571150095 = p3 at *
  generalize hp4 : p3 + p3 / 256 = p4 at *
  generalize hp5 : p4 + p4 / 65536 = p5 at *
  generalize hp6 : p5 + p5 / 4294967296 = p6 at *
  have e1 : o1 b = (p1 : Int) := by
    unfold o1
    rw [show (b : Int) / 2 = ((b / 2 : Nat) : Int) by omega, show (6148914691236517205 : Int) = ((6148914691236517205 : Nat) : Int) from rfl, u64_and_nat _ _ (by omega) (by decide), u64_and_nat _ _ hb (by decide),
      ← Int.natCast_add, hp1, wrapN64 _ h1]
  have e2 : o2 p1 = (p2 : Int) := by
    unfold o2
    rw [show (p1 : Int) / 4 = ((p1 / 4 : Nat) : Int) by omega, show (3689348814741910323 : Int) = ((3689348814741910323 : Nat) : Int) from rfl, u64_and_nat _ _ (by omega) (by decide), u64_and_nat _ _ h1 (by decide),
      ← Int.natCast_add, hp2, wrapN64 _ h2]
  have e3 : o3 p2 = (p3 : Int) := by
    unfold o3
    rw [show (p2 : Int) / 16 + (p2 : Int) = ((p2 / 16 + p2 : Nat) : Int) by omega, wrapN64 _ h3, show (1085102592571150095 : Int) = ((1085102592571150095 : Nat) : Int) from rfl, u64_and_nat _ _ h3 (by decide), hp3]
  have e4 : o4 p3 = (p4 : Int) := by
    unfold o4
    rw [show (p3 : Int) + (p3 : Int) / 256 = ((p3 + p3 / 256 : Nat) : Int) by omega, hp4, wrapN64 _ h5]
  have e5 : o5 p4 = (p5 : Int) := by
    unfold o5
    rw [show (p4 : Int) + (p4 : Int) / 65536 = ((p4 + p4 / 65536 : Nat) : Int) by omega, hp5, wrapN64 _ h6]
  have e6 : o6 p5 = (p6 : Int) := by
    unfold o6
    rw [show (p5 : Int) + (p5 : Int) / 4294967296 = ((p5 + p5 / 4294967296 : Nat) : Int) by omega, hp6, wrapN64 _ (by omega)]
  rw [e1, e2, e3, e4, e5, e6]
  unfold o7
  rw [IntWalk.wrap64_in _ (by omega), and127 _ h7, h8]

set_option maxRecDepth 100000 in
set_option maxHeartbeats 400000 in
theorem ones_any (b : Nat) (w : World) (hb : b < 18446744073709551616) :
    Calls Try.prog 57 #[.int .u64 b] w fun e w' => e = .returned (.int .i64 (pc 64 b : Int)) ∧ w = w' := by
  have H := Lib.hid (oc_int b hb)
  go_enter Try.func57, Try.ntmps57
  go_wp2
  go_ret
  exact ⟨(retI H.out : Ending.returned (.int .i64 (o7 (o6 (o5 (o4 (o3 (o2 (o1 b)))))))) = _), rfl⟩

/-- The bits set in the first n words. -/
def psum (g : Nat → Nat) : Nat → Nat
  | 0 => 0
  | n + 1 => psum g n + pc 64 (g n)
theorem pc_le64 (k : Nat) : ∀ n, pc k n ≤ k := by
  induction k with
  | zero => intro n; simp [pc, bl]
  | succ k ih => intro n; have := ih (n / 2); simp [pc, bl] at *; omega
theorem psum_le (g : Nat → Nat) (n : Nat) : psum g n ≤ 64 * n := by
  induction n with
  | zero => simp [psum]
  | succ n ih => have := pc_le64 64 (g n); simp only [psum]; omega

set_option maxRecDepth 100000 in
set_option maxRecDepth 100000 in
set_option maxHeartbeats 1000000 in
theorem popcnt_any {w : World} {b o n c : Nat} {g : Nat → Nat} (hc : ∀ i, i < n → w.cell? ⟨b, o + i, none⟩ = some (.int .u64 (g i))) (hg : ∀ i, g i < 18446744073709551616) (hn : n ≤ 20000) :
    Calls Try.prog 46 #[.slice (some ⟨b, o, none⟩) n c] w fun e w' => e = .returned (.int .u64 (psum g n)) ∧ w = w' := by
  have HC := Lib.hid hc
  have HG := Lib.hid hg
  clear hc hg
  go_enter Try.func46, Try.ntmps46
  go_wp2_with fail
  go_loop [3, 4, 5, 6, 8] (fun v0 v1 v2 v3 iv => ∃ i a0 a1 a2 a3 : Nat, i ≤ n ∧ v0 = .int .u64 a0 ∧ v1 = .int .u64 a1 ∧ v2 = .int .u64 a2 ∧ v3 = .int .u64 a3 ∧ iv = .int .i64 i ∧ Hid (a0 + a1 + a2 + a3 = psum g i)) (fun _ _ _ _ iv => n - (intOf iv).toNat)
  case atStart => exact ⟨0, 0, 0, 0, 0, by omega, rfl, rfl, rfl, rfl, rfl, rfl⟩
  case round =>
    obtain ⟨i, a0, a1, a2, a3, hi, rfl, rfl, rfl, rfl, rfl, hR⟩ := hrel
    have HR : Hid (a0 + a1 + a2 + a3 = psum g i) := hR
    clear hR
    have hs : a0 + a1 + a2 + a3 ≤ 64 * n := by have := HR.out; have := psum_le g i; omega
    by_cases hin : i + 4 ≤ n
    · have c0 := HC.out i (by omega)
      have c1 := HC.out (i + 1) (by omega)
      have c2 := HC.out (i + 2) (by omega)
      have c3 := HC.out (i + 3) (by omega)
      obtain ⟨p0, hp0⟩ : ∃ p, p = pc 64 (g i) := ⟨_, rfl⟩
      obtain ⟨p1, hp1⟩ : ∃ p, p = pc 64 (g (i + 1)) := ⟨_, rfl⟩
      obtain ⟨p2, hp2⟩ : ∃ p, p = pc 64 (g (i + 2)) := ⟨_, rfl⟩
      obtain ⟨p3, hp3⟩ : ∃ p, p = pc 64 (g (i + 3)) := ⟨_, rfl⟩
      have q0 : p0 ≤ 64 := by rw [hp0]; exact pc_le64 _ _
      have q1 : p1 ≤ 64 := by rw [hp1]; exact pc_le64 _ _
      have q2 : p2 ≤ 64 := by rw [hp2]; exact pc_le64 _ _
      have q3 : p3 ≤ 64 := by rw [hp3]; exact pc_le64 _ _
      have o0 := fun w => ones_any (g i) w (HG.out _)
      have o1 := fun w => ones_any (g (i + 1)) w (HG.out _)
      have o2 := fun w => ones_any (g (i + 2)) w (HG.out _)
      have o3 := fun w => ones_any (g (i + 3)) w (HG.out _)
      rw [← hp0] at o0
      rw [← hp1] at o1
      rw [← hp2] at o2
      rw [← hp3] at o3
      have HS : Hid ((a0 + p0) + (a1 + p1) + (a2 + p2) + (a3 + p3) = psum g (i + 4)) := by
        have e := HR.out
        have e2 : psum g (i + 4) = psum g i + pc 64 (g i) + pc 64 (g (i + 1)) + pc 64 (g (i + 2)) + pc 64 (g (i + 3)) := rfl
        rw [← hp0, ← hp1, ← hp2, ← hp3] at e2
        show (a0 + p0) + (a1 + p1) + (a2 + p2) + (a3 + p3) = psum g (i + 4)
        omega
      clear hp0 hp1 hp2 hp3
      go_wp2_with fail
      refine (o0 _).mono ?_; rintro e w' ⟨rfl, rfl⟩
      go_wp2_with fail
      refine (o1 _).mono ?_; rintro e w' ⟨rfl, rfl⟩
      go_wp2_with fail
      refine (o2 _).mono ?_; rintro e w' ⟨rfl, rfl⟩
      go_wp2_with fail
      refine (o3 _).mono ?_; rintro e w' ⟨rfl, rfl⟩
      go_wp2_with fail
      go_round
      case rel => exact ⟨i + 4, a0 + p0, a1 + p1, a2 + p2, a3 + p3, by omega, by go_num, by go_num, by go_num, by go_num, by go_num, HS.out⟩
      case measure => simp [intOf]; omega
    · obtain ⟨s0, hs0⟩ : ∃ s0, s0 = psum g i := ⟨_, rfl⟩
      have hs1 : a0 + a1 + a2 + a3 = s0 := by rw [hs0]; exact HR.out
      have HS := Lib.hid hs0
      clear hs0
      go_wp2_with fail
      go_loop [2, 8] (fun v iv => ∃ k s : Nat, k ≤ n ∧ v = .int .u64 s ∧ iv = .int .i64 k ∧ Hid (s = psum g k)) (fun _ iv => n - (intOf iv).toNat)
      case atStart => exact ⟨i, s0, by omega, by go_num, rfl, HS.out⟩
      case round =>
        obtain ⟨k, s, hk, rfl, rfl, hR⟩ := hrel
        have HR : Hid (s = psum g k) := hR
        clear hR
        have hss : s ≤ 64 * n := by have := HR.out; have := psum_le g k; omega
        by_cases hkn : k < n
        · have c0 := HC.out k hkn
          obtain ⟨p0, hp0⟩ : ∃ p, p = pc 64 (g k) := ⟨_, rfl⟩
          have q0 : p0 ≤ 64 := by rw [hp0]; exact pc_le64 _ _
          have o0 := fun w => ones_any (g k) w (HG.out _)
          rw [← hp0] at o0
          have HS2 : Hid (s + p0 = psum g (k + 1)) := by
            have e := HR.out
            show s + p0 = psum g k + pc 64 (g k)
            omega
          clear hp0
          go_wp2_with fail
          refine (o0 _).mono ?_; rintro e w' ⟨rfl, rfl⟩
          go_wp2_with fail
          go_round
          case rel => exact ⟨k + 1, s + p0, by omega, by go_num, by go_num, HS2.out⟩
          case measure => simp [intOf]; omega
        · have hkk : k = n := by omega
          have HK := Lib.hid hkk
          clear hkk
          go_wp2_with fail
          go_ret
          exact ⟨retI (by rw [HR.out, HK.out]), rfl⟩
end Go.Proofs.Ytbkodehcjhpcmaa.Q
