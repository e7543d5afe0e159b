/- The hash of the rest: L2b. -/
import Derived.Test.YtbkodehcjhpcmaaL1
import Derived.Deep.DeepCutAuto
import Derived.Deep.CutRange
import Derived.Deep.CutBlock
namespace Go.Proofs.Ytbkodehcjhpcmaa
open Go.RowKit

set_option maxRecDepth 100000 in
set_option maxHeartbeats 4000000 in
theorem sum_n8 (h1 h2 length : Int) (s : Nat → UInt8) : ∃ r1 r2 : Int, ∀ (w : World) (d b o c : Nat), Dg w d h1 h2 → (w.cell? ⟨b, o, none⟩ = some (.int .u8 ((s 0).toNat : Nat)) ∧ w.cell? ⟨b, o + 1, none⟩ = some (.int .u8 ((s 1).toNat : Nat)) ∧ w.cell? ⟨b, o + 2, none⟩ = some (.int .u8 ((s 2).toNat : Nat)) ∧ w.cell? ⟨b, o + 3, none⟩ = some (.int .u8 ((s 3).toNat : Nat)) ∧ w.cell? ⟨b, o + 4, none⟩ = some (.int .u8 ((s 4).toNat : Nat)) ∧ w.cell? ⟨b, o + 5, none⟩ = some (.int .u8 ((s 5).toNat : Nat)) ∧ w.cell? ⟨b, o + 6, none⟩ = some (.int .u8 ((s 6).toNat : Nat)) ∧ w.cell? ⟨b, o + 7, none⟩ = some (.int .u8 ((s 7).toNat : Nat))) → Calls Try.prog 60 #[.pointer (some ⟨d, 0, none⟩), .bool false, .int .u64 length, .slice (some ⟨b, o, none⟩) 8 c] w fun e w' =>
    e = .returned (.tuple #[.int .u64 r1, .int .u64 r2]) ∧ ∃ n, w' = w.drewN n := by
  apply Exists.intro
  apply Exists.intro
  rintro w d b o c ⟨T, hd⟩ ⟨q0, q1, q2, q3, q4, q5, q6, q7⟩
  have g1 : bits BinOp.and IntKind.i64 8 15 = 8 := by kernel_rfl
  have c0 := hd.cell (i := 0) rfl
  have c1 := hd.cell (i := 1) rfl
  clear hd
  go_enter Try.func60, Try.ntmps60
  go_wp2_with fail
  go_quiet (fail)
  have p0 : (w.drewN nq).cell? ⟨b, o, none⟩ = some (.int .u8 ((s 0).toNat : Nat)) := q0
  have p1 : (w.drewN nq).cell? ⟨b, o + 1, none⟩ = some (.int .u8 ((s 1).toNat : Nat)) := q1
  have p2 : (w.drewN nq).cell? ⟨b, o + 2, none⟩ = some (.int .u8 ((s 2).toNat : Nat)) := q2
  have p3 : (w.drewN nq).cell? ⟨b, o + 3, none⟩ = some (.int .u8 ((s 3).toNat : Nat)) := q3
  have p4 : (w.drewN nq).cell? ⟨b, o + 4, none⟩ = some (.int .u8 ((s 4).toNat : Nat)) := q4
  have p5 : (w.drewN nq).cell? ⟨b, o + 5, none⟩ = some (.int .u8 ((s 5).toNat : Nat)) := q5
  have p6 : (w.drewN nq).cell? ⟨b, o + 6, none⟩ = some (.int .u8 ((s 6).toNat : Nat)) := q6
  have p7 : (w.drewN nq).cell? ⟨b, o + 7, none⟩ = some (.int .u8 ((s 7).toNat : Nat)) := q7
  clear c0 c1 q0 q1 q2 q3 q4 q5 q6 q7
  have hw : Hid (∃ n, w.drewN nq = w.drewN n) := ⟨nq, rfl⟩
  generalize w.drewN nq = w1 at hw p0 p1 p2 p3 p4 p5 p6 p7 ⊢
  go_upto_block 2 with (fail)
  refine wp_block ?_
  refine wp_hideQ ?_
  intro Q0 hq0
  have HQ0 := Lib.hid hq0
  clear hq0
  go_wp2_with fail
  refine HQ0.out _ _ _ ?_
  clear HQ0
  repeat (first | refine inBlock_pass (by decide) ?_ | refine then_pass ?_)
  refine inBlock_hit ?_
  go_wp2_with fail
  refine (rot_any _ _ (Or.inl rfl) _).mono ?_; rintro e w2 ⟨rfl, rfl⟩
  go_wp2_with fail
  refine (fmix_any _ _).mono ?_; rintro e w2 ⟨rfl, rfl⟩
  go_wp2_with fail
  refine (fmix_any _ _).mono ?_; rintro e w2 ⟨rfl, rfl⟩
  go_wp2_with fail
  go_ret2
  exact ⟨rfl, hw.out⟩
set_option maxRecDepth 100000 in
set_option maxHeartbeats 4000000 in
theorem sum_n9 (h1 h2 length : Int) (s : Nat → UInt8) : ∃ r1 r2 : Int, ∀ (w : World) (d b o c : Nat), Dg w d h1 h2 → (w.cell? ⟨b, o, none⟩ = some (.int .u8 ((s 0).toNat : Nat)) ∧ w.cell? ⟨b, o + 1, none⟩ = some (.int .u8 ((s 1).toNat : Nat)) ∧ w.cell? ⟨b, o + 2, none⟩ = some (.int .u8 ((s 2).toNat : Nat)) ∧ w.cell? ⟨b, o + 3, none⟩ = some (.int .u8 ((s 3).toNat : Nat)) ∧ w.cell? ⟨b, o + 4, none⟩ = some (.int .u8 ((s 4).toNat : Nat)) ∧ w.cell? ⟨b, o + 5, none⟩ = some (.int .u8 ((s 5).toNat : Nat)) ∧ w.cell? ⟨b, o + 6, none⟩ = some (.int .u8 ((s 6).toNat : Nat)) ∧ w.cell? ⟨b, o + 7, none⟩ = some (.int .u8 ((s 7).toNat : Nat)) ∧ w.cell? ⟨b, o + 8, none⟩ = some (.int .u8 ((s 8).toNat : Nat))) → Calls Try.prog 60 #[.pointer (some ⟨d, 0, none⟩), .bool false, .int .u64 length, .slice (some ⟨b, o, none⟩) 9 c] w fun e w' =>
    e = .returned (.tuple #[.int .u64 r1, .int .u64 r2]) ∧ ∃ n, w' = w.drewN n := by
  apply Exists.intro
  apply Exists.intro
  rintro w d b o c ⟨T, hd⟩ ⟨q0, q1, q2, q3, q4, q5, q6, q7, q8⟩
  have g1 : bits BinOp.and IntKind.i64 9 15 = 9 := by kernel_rfl
  have c0 := hd.cell (i := 0) rfl
  have c1 := hd.cell (i := 1) rfl
  clear hd
  go_enter Try.func60, Try.ntmps60
  go_wp2_with fail
  go_quiet (fail)
  have p0 : (w.drewN nq).cell? ⟨b, o, none⟩ = some (.int .u8 ((s 0).toNat : Nat)) := q0
  have p1 : (w.drewN nq).cell? ⟨b, o + 1, none⟩ = some (.int .u8 ((s 1).toNat : Nat)) := q1
  have p2 : (w.drewN nq).cell? ⟨b, o + 2, none⟩ = some (.int .u8 ((s 2).toNat : Nat)) := q2
  have p3 : (w.drewN nq).cell? ⟨b, o + 3, none⟩ = some (.int .u8 ((s 3).toNat : Nat)) := q3
  have p4 : (w.drewN nq).cell? ⟨b, o + 4, none⟩ = some (.int .u8 ((s 4).toNat : Nat)) := q4
  have p5 : (w.drewN nq).cell? ⟨b, o + 5, none⟩ = some (.int .u8 ((s 5).toNat : Nat)) := q5
  have p6 : (w.drewN nq).cell? ⟨b, o + 6, none⟩ = some (.int .u8 ((s 6).toNat : Nat)) := q6
  have p7 : (w.drewN nq).cell? ⟨b, o + 7, none⟩ = some (.int .u8 ((s 7).toNat : Nat)) := q7
  have p8 : (w.drewN nq).cell? ⟨b, o + 8, none⟩ = some (.int .u8 ((s 8).toNat : Nat)) := q8
  clear c0 c1 q0 q1 q2 q3 q4 q5 q6 q7 q8
  have hw : Hid (∃ n, w.drewN nq = w.drewN n) := ⟨nq, rfl⟩
  generalize w.drewN nq = w1 at hw p0 p1 p2 p3 p4 p5 p6 p7 p8 ⊢
  go_upto_block 2 with (fail)
  refine wp_block ?_
  refine wp_hideQ ?_
  intro Q0 hq0
  have HQ0 := Lib.hid hq0
  clear hq0
  go_wp2_with fail
  refine HQ0.out _ _ _ ?_
  clear HQ0
  repeat (first | refine inBlock_pass (by decide) ?_ | refine then_pass ?_)
  refine inBlock_hit ?_
  go_wp2_with fail
  refine (rot_any _ _ (Or.inr (Or.inr rfl)) _).mono ?_; rintro e w2 ⟨rfl, rfl⟩
  go_wp2_with fail
  refine (rot_any _ _ (Or.inl rfl) _).mono ?_; rintro e w2 ⟨rfl, rfl⟩
  go_wp2_with fail
  refine (fmix_any _ _).mono ?_; rintro e w2 ⟨rfl, rfl⟩
  go_wp2_with fail
  refine (fmix_any _ _).mono ?_; rintro e w2 ⟨rfl, rfl⟩
  go_wp2_with fail
  go_ret2
  exact ⟨rfl, hw.out⟩
set_option maxRecDepth 100000 in
set_option maxHeartbeats 4000000 in
theorem sum_n10 (h1 h2 length : Int) (s : Nat → UInt8) : ∃ r1 r2 : Int, ∀ (w : World) (d b o c : Nat), Dg w d h1 h2 → (w.cell? ⟨b, o, none⟩ = some (.int .u8 ((s 0).toNat : Nat)) ∧ w.cell? ⟨b, o + 1, none⟩ = some (.int .u8 ((s 1).toNat : Nat)) ∧ w.cell? ⟨b, o + 2, none⟩ = some (.int .u8 ((s 2).toNat : Nat)) ∧ w.cell? ⟨b, o + 3, none⟩ = some (.int .u8 ((s 3).toNat : Nat)) ∧ w.cell? ⟨b, o + 4, none⟩ = some (.int .u8 ((s 4).toNat : Nat)) ∧ w.cell? ⟨b, o + 5, none⟩ = some (.int .u8 ((s 5).toNat : Nat)) ∧ w.cell? ⟨b, o + 6, none⟩ = some (.int .u8 ((s 6).toNat : Nat)) ∧ w.cell? ⟨b, o + 7, none⟩ = some (.int .u8 ((s 7).toNat : Nat)) ∧ w.cell? ⟨b, o + 8, none⟩ = some (.int .u8 ((s 8).toNat : Nat)) ∧ w.cell? ⟨b, o + 9, none⟩ = some (.int .u8 ((s 9).toNat : Nat))) → Calls Try.prog 60 #[.pointer (some ⟨d, 0, none⟩), .bool false, .int .u64 length, .slice (some ⟨b, o, none⟩) 10 c] w fun e w' =>
    e = .returned (.tuple #[.int .u64 r1, .int .u64 r2]) ∧ ∃ n, w' = w.drewN n := by
  apply Exists.intro
  apply Exists.intro
  rintro w d b o c ⟨T, hd⟩ ⟨q0, q1, q2, q3, q4, q5, q6, q7, q8, q9⟩
  have g1 : bits BinOp.and IntKind.i64 10 15 = 10 := by kernel_rfl
  have c0 := hd.cell (i := 0) rfl
  have c1 := hd.cell (i := 1) rfl
  clear hd
  go_enter Try.func60, Try.ntmps60
  go_wp2_with fail
  go_quiet (fail)
  have p0 : (w.drewN nq).cell? ⟨b, o, none⟩ = some (.int .u8 ((s 0).toNat : Nat)) := q0
  have p1 : (w.drewN nq).cell? ⟨b, o + 1, none⟩ = some (.int .u8 ((s 1).toNat : Nat)) := q1
  have p2 : (w.drewN nq).cell? ⟨b, o + 2, none⟩ = some (.int .u8 ((s 2).toNat : Nat)) := q2
  have p3 : (w.drewN nq).cell? ⟨b, o + 3, none⟩ = some (.int .u8 ((s 3).toNat : Nat)) := q3
  have p4 : (w.drewN nq).cell? ⟨b, o + 4, none⟩ = some (.int .u8 ((s 4).toNat : Nat)) := q4
  have p5 : (w.drewN nq).cell? ⟨b, o + 5, none⟩ = some (.int .u8 ((s 5).toNat : Nat)) := q5
  have p6 : (w.drewN nq).cell? ⟨b, o + 6, none⟩ = some (.int .u8 ((s 6).toNat : Nat)) := q6
  have p7 : (w.drewN nq).cell? ⟨b, o + 7, none⟩ = some (.int .u8 ((s 7).toNat : Nat)) := q7
  have p8 : (w.drewN nq).cell? ⟨b, o + 8, none⟩ = some (.int .u8 ((s 8).toNat : Nat)) := q8
  have p9 : (w.drewN nq).cell? ⟨b, o + 9, none⟩ = some (.int .u8 ((s 9).toNat : Nat)) := q9
  clear c0 c1 q0 q1 q2 q3 q4 q5 q6 q7 q8 q9
  have hw : Hid (∃ n, w.drewN nq = w.drewN n) := ⟨nq, rfl⟩
  generalize w.drewN nq = w1 at hw p0 p1 p2 p3 p4 p5 p6 p7 p8 p9 ⊢
  go_upto_block 2 with (fail)
  refine wp_block ?_
  refine wp_hideQ ?_
  intro Q0 hq0
  have HQ0 := Lib.hid hq0
  clear hq0
  go_wp2_with fail
  refine HQ0.out _ _ _ ?_
  clear HQ0
  repeat (first | refine inBlock_pass (by decide) ?_ | refine then_pass ?_)
  refine inBlock_hit ?_
  go_wp2_with fail
  refine (rot_any _ _ (Or.inr (Or.inr rfl)) _).mono ?_; rintro e w2 ⟨rfl, rfl⟩
  go_wp2_with fail
  refine (rot_any _ _ (Or.inl rfl) _).mono ?_; rintro e w2 ⟨rfl, rfl⟩
  go_wp2_with fail
  refine (fmix_any _ _).mono ?_; rintro e w2 ⟨rfl, rfl⟩
  go_wp2_with fail
  refine (fmix_any _ _).mono ?_; rintro e w2 ⟨rfl, rfl⟩
  go_wp2_with fail
  go_ret2
  exact ⟨rfl, hw.out⟩
set_option maxRecDepth 100000 in
set_option maxHeartbeats 4000000 in
theorem sum_n11 (h1 h2 length : Int) (s : Nat → UInt8) : ∃ r1 r2 : Int, ∀ (w : World) (d b o c : Nat), Dg w d h1 h2 → (w.cell? ⟨b, o, none⟩ = some (.int .u8 ((s 0).toNat : Nat)) ∧ w.cell? ⟨b, o + 1, none⟩ = some (.int .u8 ((s 1).toNat : Nat)) ∧ w.cell? ⟨b, o + 2, none⟩ = some (.int .u8 ((s 2).toNat : Nat)) ∧ w.cell? ⟨b, o + 3, none⟩ = some (.int .u8 ((s 3).toNat : Nat)) ∧ w.cell? ⟨b, o + 4, none⟩ = some (.int .u8 ((s 4).toNat : Nat)) ∧ w.cell? ⟨b, o + 5, none⟩ = some (.int .u8 ((s 5).toNat : Nat)) ∧ w.cell? ⟨b, o + 6, none⟩ = some (.int .u8 ((s 6).toNat : Nat)) ∧ w.cell? ⟨b, o + 7, none⟩ = some (.int .u8 ((s 7).toNat : Nat)) ∧ w.cell? ⟨b, o + 8, none⟩ = some (.int .u8 ((s 8).toNat : Nat)) ∧ w.cell? ⟨b, o + 9, none⟩ = some (.int .u8 ((s 9).toNat : Nat)) ∧ w.cell? ⟨b, o + 10, none⟩ = some (.int .u8 ((s 10).toNat : Nat))) → Calls Try.prog 60 #[.pointer (some ⟨d, 0, none⟩), .bool false, .int .u64 length, .slice (some ⟨b, o, none⟩) 11 c] w fun e w' =>
    e = .returned (.tuple #[.int .u64 r1, .int .u64 r2]) ∧ ∃ n, w' = w.drewN n := by
  apply Exists.intro
  apply Exists.intro
  rintro w d b o c ⟨T, hd⟩ ⟨q0, q1, q2, q3, q4, q5, q6, q7, q8, q9, q10⟩
  have g1 : bits BinOp.and IntKind.i64 11 15 = 11 := by kernel_rfl
  have c0 := hd.cell (i := 0) rfl
  have c1 := hd.cell (i := 1) rfl
  clear hd
  go_enter Try.func60, Try.ntmps60
  go_wp2_with fail
  go_quiet (fail)
  have p0 : (w.drewN nq).cell? ⟨b, o, none⟩ = some (.int .u8 ((s 0).toNat : Nat)) := q0
  have p1 : (w.drewN nq).cell? ⟨b, o + 1, none⟩ = some (.int .u8 ((s 1).toNat : Nat)) := q1
  have p2 : (w.drewN nq).cell? ⟨b, o + 2, none⟩ = some (.int .u8 ((s 2).toNat : Nat)) := q2
  have p3 : (w.drewN nq).cell? ⟨b, o + 3, none⟩ = some (.int .u8 ((s 3).toNat : Nat)) := q3
  have p4 : (w.drewN nq).cell? ⟨b, o + 4, none⟩ = some (.int .u8 ((s 4).toNat : Nat)) := q4
  have p5 : (w.drewN nq).cell? ⟨b, o + 5, none⟩ = some (.int .u8 ((s 5).toNat : Nat)) := q5
  have p6 : (w.drewN nq).cell? ⟨b, o + 6, none⟩ = some (.int .u8 ((s 6).toNat : Nat)) := q6
  have p7 : (w.drewN nq).cell? ⟨b, o + 7, none⟩ = some (.int .u8 ((s 7).toNat : Nat)) := q7
  have p8 : (w.drewN nq).cell? ⟨b, o + 8, none⟩ = some (.int .u8 ((s 8).toNat : Nat)) := q8
  have p9 : (w.drewN nq).cell? ⟨b, o + 9, none⟩ = some (.int .u8 ((s 9).toNat : Nat)) := q9
  have p10 : (w.drewN nq).cell? ⟨b, o + 10, none⟩ = some (.int .u8 ((s 10).toNat : Nat)) := q10
  clear c0 c1 q0 q1 q2 q3 q4 q5 q6 q7 q8 q9 q10
  have hw : Hid (∃ n, w.drewN nq = w.drewN n) := ⟨nq, rfl⟩
  generalize w.drewN nq = w1 at hw p0 p1 p2 p3 p4 p5 p6 p7 p8 p9 p10 ⊢
  go_upto_block 2 with (fail)
  refine wp_block ?_
  refine wp_hideQ ?_
  intro Q0 hq0
  have HQ0 := Lib.hid hq0
  clear hq0
  go_wp2_with fail
  refine HQ0.out _ _ _ ?_
  clear HQ0
  repeat (first | refine inBlock_pass (by decide) ?_ | refine then_pass ?_)
  refine inBlock_hit ?_
  go_wp2_with fail
  refine (rot_any _ _ (Or.inr (Or.inr rfl)) _).mono ?_; rintro e w2 ⟨rfl, rfl⟩
  go_wp2_with fail
  refine (rot_any _ _ (Or.inl rfl) _).mono ?_; rintro e w2 ⟨rfl, rfl⟩
  go_wp2_with fail
  refine (fmix_any _ _).mono ?_; rintro e w2 ⟨rfl, rfl⟩
  go_wp2_with fail
  refine (fmix_any _ _).mono ?_; rintro e w2 ⟨rfl, rfl⟩
  go_wp2_with fail
  go_ret2
  exact ⟨rfl, hw.out⟩
set_option maxRecDepth 100000 in
set_option maxHeartbeats 4000000 in
theorem sum_n12 (h1 h2 length : Int) (s : Nat → UInt8) : ∃ r1 r2 : Int, ∀ (w : World) (d b o c : Nat), Dg w d h1 h2 → (w.cell? ⟨b, o, none⟩ = some (.int .u8 ((s 0).toNat : Nat)) ∧ w.cell? ⟨b, o + 1, none⟩ = some (.int .u8 ((s 1).toNat : Nat)) ∧ w.cell? ⟨b, o + 2, none⟩ = some (.int .u8 ((s 2).toNat : Nat)) ∧ w.cell? ⟨b, o + 3, none⟩ = some (.int .u8 ((s 3).toNat : Nat)) ∧ w.cell? ⟨b, o + 4, none⟩ = some (.int .u8 ((s 4).toNat : Nat)) ∧ w.cell? ⟨b, o + 5, none⟩ = some (.int .u8 ((s 5).toNat : Nat)) ∧ w.cell? ⟨b, o + 6, none⟩ = some (.int .u8 ((s 6).toNat : Nat)) ∧ w.cell? ⟨b, o + 7, none⟩ = some (.int .u8 ((s 7).toNat : Nat)) ∧ w.cell? ⟨b, o + 8, none⟩ = some (.int .u8 ((s 8).toNat : Nat)) ∧ w.cell? ⟨b, o + 9, none⟩ = some (.int .u8 ((s 9).toNat : Nat)) ∧ w.cell? ⟨b, o + 10, none⟩ = some (.int .u8 ((s 10).toNat : Nat)) ∧ w.cell? ⟨b, o + 11, none⟩ = some (.int .u8 ((s 11).toNat : Nat))) → Calls Try.prog 60 #[.pointer (some ⟨d, 0, none⟩), .bool false, .int .u64 length, .slice (some ⟨b, o, none⟩) 12 c] w fun e w' =>
    e = .returned (.tuple #[.int .u64 r1, .int .u64 r2]) ∧ ∃ n, w' = w.drewN n := by
  apply Exists.intro
  apply Exists.intro
  rintro w d b o c ⟨T, hd⟩ ⟨q0, q1, q2, q3, q4, q5, q6, q7, q8, q9, q10, q11⟩
  have g1 : bits BinOp.and IntKind.i64 12 15 = 12 := by kernel_rfl
  have c0 := hd.cell (i := 0) rfl
  have c1 := hd.cell (i := 1) rfl
  clear hd
  go_enter Try.func60, Try.ntmps60
  go_wp2_with fail
  go_quiet (fail)
  have p0 : (w.drewN nq).cell? ⟨b, o, none⟩ = some (.int .u8 ((s 0).toNat : Nat)) := q0
  have p1 : (w.drewN nq).cell? ⟨b, o + 1, none⟩ = some (.int .u8 ((s 1).toNat : Nat)) := q1
  have p2 : (w.drewN nq).cell? ⟨b, o + 2, none⟩ = some (.int .u8 ((s 2).toNat : Nat)) := q2
  have p3 : (w.drewN nq).cell? ⟨b, o + 3, none⟩ = some (.int .u8 ((s 3).toNat : Nat)) := q3
  have p4 : (w.drewN nq).cell? ⟨b, o + 4, none⟩ = some (.int .u8 ((s 4).toNat : Nat)) := q4
  have p5 : (w.drewN nq).cell? ⟨b, o + 5, none⟩ = some (.int .u8 ((s 5).toNat : Nat)) := q5
  have p6 : (w.drewN nq).cell? ⟨b, o + 6, none⟩ = some (.int .u8 ((s 6).toNat : Nat)) := q6
  have p7 : (w.drewN nq).cell? ⟨b, o + 7, none⟩ = some (.int .u8 ((s 7).toNat : Nat)) := q7
  have p8 : (w.drewN nq).cell? ⟨b, o + 8, none⟩ = some (.int .u8 ((s 8).toNat : Nat)) := q8
  have p9 : (w.drewN nq).cell? ⟨b, o + 9, none⟩ = some (.int .u8 ((s 9).toNat : Nat)) := q9
  have p10 : (w.drewN nq).cell? ⟨b, o + 10, none⟩ = some (.int .u8 ((s 10).toNat : Nat)) := q10
  have p11 : (w.drewN nq).cell? ⟨b, o + 11, none⟩ = some (.int .u8 ((s 11).toNat : Nat)) := q11
  clear c0 c1 q0 q1 q2 q3 q4 q5 q6 q7 q8 q9 q10 q11
  have hw : Hid (∃ n, w.drewN nq = w.drewN n) := ⟨nq, rfl⟩
  generalize w.drewN nq = w1 at hw p0 p1 p2 p3 p4 p5 p6 p7 p8 p9 p10 p11 ⊢
  go_upto_block 2 with (fail)
  refine wp_block ?_
  refine wp_hideQ ?_
  intro Q0 hq0
  have HQ0 := Lib.hid hq0
  clear hq0
  go_wp2_with fail
  refine HQ0.out _ _ _ ?_
  clear HQ0
  repeat (first | refine inBlock_pass (by decide) ?_ | refine then_pass ?_)
  refine inBlock_hit ?_
  go_wp2_with fail
  refine (rot_any _ _ (Or.inr (Or.inr rfl)) _).mono ?_; rintro e w2 ⟨rfl, rfl⟩
  go_wp2_with fail
  refine (rot_any _ _ (Or.inl rfl) _).mono ?_; rintro e w2 ⟨rfl, rfl⟩
  go_wp2_with fail
  refine (fmix_any _ _).mono ?_; rintro e w2 ⟨rfl, rfl⟩
  go_wp2_with fail
  refine (fmix_any _ _).mono ?_; rintro e w2 ⟨rfl, rfl⟩
  go_wp2_with fail
  go_ret2
  exact ⟨rfl, hw.out⟩
set_option maxRecDepth 100000 in
set_option maxHeartbeats 4000000 in
theorem sum_n13 (h1 h2 length : Int) (s : Nat → UInt8) : ∃ r1 r2 : Int, ∀ (w : World) (d b o c : Nat), Dg w d h1 h2 → (w.cell? ⟨b, o, none⟩ = some (.int .u8 ((s 0).toNat : Nat)) ∧ w.cell? ⟨b, o + 1, none⟩ = some (.int .u8 ((s 1).toNat : Nat)) ∧ w.cell? ⟨b, o + 2, none⟩ = some (.int .u8 ((s 2).toNat : Nat)) ∧ w.cell? ⟨b, o + 3, none⟩ = some (.int .u8 ((s 3).toNat : Nat)) ∧ w.cell? ⟨b, o + 4, none⟩ = some (.int .u8 ((s 4).toNat : Nat)) ∧ w.cell? ⟨b, o + 5, none⟩ = some (.int .u8 ((s 5).toNat : Nat)) ∧ w.cell? ⟨b, o + 6, none⟩ = some (.int .u8 ((s 6).toNat : Nat)) ∧ w.cell? ⟨b, o + 7, none⟩ = some (.int .u8 ((s 7).toNat : Nat)) ∧ w.cell? ⟨b, o + 8, none⟩ = some (.int .u8 ((s 8).toNat : Nat)) ∧ w.cell? ⟨b, o + 9, none⟩ = some (.int .u8 ((s 9).toNat : Nat)) ∧ w.cell? ⟨b, o + 10, none⟩ = some (.int .u8 ((s 10).toNat : Nat)) ∧ w.cell? ⟨b, o + 11, none⟩ = some (.int .u8 ((s 11).toNat : Nat)) ∧ w.cell? ⟨b, o + 12, none⟩ = some (.int .u8 ((s 12).toNat : Nat))) → Calls Try.prog 60 #[.pointer (some ⟨d, 0, none⟩), .bool false, .int .u64 length, .slice (some ⟨b, o, none⟩) 13 c] w fun e w' =>
    e = .returned (.tuple #[.int .u64 r1, .int .u64 r2]) ∧ ∃ n, w' = w.drewN n := by
  apply Exists.intro
  apply Exists.intro
  rintro w d b o c ⟨T, hd⟩ ⟨q0, q1, q2, q3, q4, q5, q6, q7, q8, q9, q10, q11, q12⟩
  have g1 : bits BinOp.and IntKind.i64 13 15 = 13 := by kernel_rfl
  have c0 := hd.cell (i := 0) rfl
  have c1 := hd.cell (i := 1) rfl
  clear hd
  go_enter Try.func60, Try.ntmps60
  go_wp2_with fail
  go_quiet (fail)
  have p0 : (w.drewN nq).cell? ⟨b, o, none⟩ = some (.int .u8 ((s 0).toNat : Nat)) := q0
  have p1 : (w.drewN nq).cell? ⟨b, o + 1, none⟩ = some (.int .u8 ((s 1).toNat : Nat)) := q1
  have p2 : (w.drewN nq).cell? ⟨b, o + 2, none⟩ = some (.int .u8 ((s 2).toNat : Nat)) := q2
  have p3 : (w.drewN nq).cell? ⟨b, o + 3, none⟩ = some (.int .u8 ((s 3).toNat : Nat)) := q3
  have p4 : (w.drewN nq).cell? ⟨b, o + 4, none⟩ = some (.int .u8 ((s 4).toNat : Nat)) := q4
  have p5 : (w.drewN nq).cell? ⟨b, o + 5, none⟩ = some (.int .u8 ((s 5).toNat : Nat)) := q5
  have p6 : (w.drewN nq).cell? ⟨b, o + 6, none⟩ = some (.int .u8 ((s 6).toNat : Nat)) := q6
  have p7 : (w.drewN nq).cell? ⟨b, o + 7, none⟩ = some (.int .u8 ((s 7).toNat : Nat)) := q7
  have p8 : (w.drewN nq).cell? ⟨b, o + 8, none⟩ = some (.int .u8 ((s 8).toNat : Nat)) := q8
  have p9 : (w.drewN nq).cell? ⟨b, o + 9, none⟩ = some (.int .u8 ((s 9).toNat : Nat)) := q9
  have p10 : (w.drewN nq).cell? ⟨b, o + 10, none⟩ = some (.int .u8 ((s 10).toNat : Nat)) := q10
  have p11 : (w.drewN nq).cell? ⟨b, o + 11, none⟩ = some (.int .u8 ((s 11).toNat : Nat)) := q11
  have p12 : (w.drewN nq).cell? ⟨b, o + 12, none⟩ = some (.int .u8 ((s 12).toNat : Nat)) := q12
  clear c0 c1 q0 q1 q2 q3 q4 q5 q6 q7 q8 q9 q10 q11 q12
  have hw : Hid (∃ n, w.drewN nq = w.drewN n) := ⟨nq, rfl⟩
  generalize w.drewN nq = w1 at hw p0 p1 p2 p3 p4 p5 p6 p7 p8 p9 p10 p11 p12 ⊢
  go_upto_block 2 with (fail)
  refine wp_block ?_
  refine wp_hideQ ?_
  intro Q0 hq0
  have HQ0 := Lib.hid hq0
  clear hq0
  go_wp2_with fail
  refine HQ0.out _ _ _ ?_
  clear HQ0
  repeat (first | refine inBlock_pass (by decide) ?_ | refine then_pass ?_)
  refine inBlock_hit ?_
  go_wp2_with fail
  refine (rot_any _ _ (Or.inr (Or.inr rfl)) _).mono ?_; rintro e w2 ⟨rfl, rfl⟩
  go_wp2_with fail
  refine (rot_any _ _ (Or.inl rfl) _).mono ?_; rintro e w2 ⟨rfl, rfl⟩
  go_wp2_with fail
  refine (fmix_any _ _).mono ?_; rintro e w2 ⟨rfl, rfl⟩
  go_wp2_with fail
  refine (fmix_any _ _).mono ?_; rintro e w2 ⟨rfl, rfl⟩
  go_wp2_with fail
  go_ret2
  exact ⟨rfl, hw.out⟩
set_option maxRecDepth 100000 in
set_option maxHeartbeats 4000000 in
theorem sum_n14 (h1 h2 length : Int) (s : Nat → UInt8) : ∃ r1 r2 : Int, ∀ (w : World) (d b o c : Nat), Dg w d h1 h2 → (w.cell? ⟨b, o, none⟩ = some (.int .u8 ((s 0).toNat : Nat)) ∧ w.cell? ⟨b, o + 1, none⟩ = some (.int .u8 ((s 1).toNat : Nat)) ∧ w.cell? ⟨b, o + 2, none⟩ = some (.int .u8 ((s 2).toNat : Nat)) ∧ w.cell? ⟨b, o + 3, none⟩ = some (.int .u8 ((s 3).toNat : Nat)) ∧ w.cell? ⟨b, o + 4, none⟩ = some (.int .u8 ((s 4).toNat : Nat)) ∧ w.cell? ⟨b, o + 5, none⟩ = some (.int .u8 ((s 5).toNat : Nat)) ∧ w.cell? ⟨b, o + 6, none⟩ = some (.int .u8 ((s 6).toNat : Nat)) ∧ w.cell? ⟨b, o + 7, none⟩ = some (.int .u8 ((s 7).toNat : Nat)) ∧ w.cell? ⟨b, o + 8, none⟩ = some (.int .u8 ((s 8).toNat : Nat)) ∧ w.cell? ⟨b, o + 9, none⟩ = some (.int .u8 ((s 9).toNat : Nat)) ∧ w.cell? ⟨b, o + 10, none⟩ = some (.int .u8 ((s 10).toNat : Nat)) ∧ w.cell? ⟨b, o + 11, none⟩ = some (.int .u8 ((s 11).toNat : Nat)) ∧ w.cell? ⟨b, o + 12, none⟩ = some (.int .u8 ((s 12).toNat : Nat)) ∧ w.cell? ⟨b, o + 13, none⟩ = some (.int .u8 ((s 13).toNat : Nat))) → Calls Try.prog 60 #[.pointer (some ⟨d, 0, none⟩), .bool false, .int .u64 length, .slice (some ⟨b, o, none⟩) 14 c] w fun e w' =>
    e = .returned (.tuple #[.int .u64 r1, .int .u64 r2]) ∧ ∃ n, w' = w.drewN n := by
  apply Exists.intro
  apply Exists.intro
  rintro w d b o c ⟨T, hd⟩ ⟨q0, q1, q2, q3, q4, q5, q6, q7, q8, q9, q10, q11, q12, q13⟩
  have g1 : bits BinOp.and IntKind.i64 14 15 = 14 := by kernel_rfl
  have c0 := hd.cell (i := 0) rfl
  have c1 := hd.cell (i := 1) rfl
  clear hd
  go_enter Try.func60, Try.ntmps60
  go_wp2_with fail
  go_quiet (fail)
  have p0 : (w.drewN nq).cell? ⟨b, o, none⟩ = some (.int .u8 ((s 0).toNat : Nat)) := q0
  have p1 : (w.drewN nq).cell? ⟨b, o + 1, none⟩ = some (.int .u8 ((s 1).toNat : Nat)) := q1
  have p2 : (w.drewN nq).cell? ⟨b, o + 2, none⟩ = some (.int .u8 ((s 2).toNat : Nat)) := q2
  have p3 : (w.drewN nq).cell? ⟨b, o + 3, none⟩ = some (.int .u8 ((s 3).toNat : Nat)) := q3
  have p4 : (w.drewN nq).cell? ⟨b, o + 4, none⟩ = some (.int .u8 ((s 4).toNat : Nat)) := q4
  have p5 : (w.drewN nq).cell? ⟨b, o + 5, none⟩ = some (.int .u8 ((s 5).toNat : Nat)) := q5
  have p6 : (w.drewN nq).cell? ⟨b, o + 6, none⟩ = some (.int .u8 ((s 6).toNat : Nat)) := q6
  have p7 : (w.drewN nq).cell? ⟨b, o + 7, none⟩ = some (.int .u8 ((s 7).toNat : Nat)) := q7
  have p8 : (w.drewN nq).cell? ⟨b, o + 8, none⟩ = some (.int .u8 ((s 8).toNat : Nat)) := q8
  have p9 : (w.drewN nq).cell? ⟨b, o + 9, none⟩ = some (.int .u8 ((s 9).toNat : Nat)) := q9
  have p10 : (w.drewN nq).cell? ⟨b, o + 10, none⟩ = some (.int .u8 ((s 10).toNat : Nat)) := q10
  have p11 : (w.drewN nq).cell? ⟨b, o + 11, none⟩ = some (.int .u8 ((s 11).toNat : Nat)) := q11
  have p12 : (w.drewN nq).cell? ⟨b, o + 12, none⟩ = some (.int .u8 ((s 12).toNat : Nat)) := q12
  have p13 : (w.drewN nq).cell? ⟨b, o + 13, none⟩ = some (.int .u8 ((s 13).toNat : Nat)) := q13
  clear c0 c1 q0 q1 q2 q3 q4 q5 q6 q7 q8 q9 q10 q11 q12 q13
  have hw : Hid (∃ n, w.drewN nq = w.drewN n) := ⟨nq, rfl⟩
  generalize w.drewN nq = w1 at hw p0 p1 p2 p3 p4 p5 p6 p7 p8 p9 p10 p11 p12 p13 ⊢
  go_upto_block 2 with (fail)
  refine wp_block ?_
  refine wp_hideQ ?_
  intro Q0 hq0
  have HQ0 := Lib.hid hq0
  clear hq0
  go_wp2_with fail
  refine HQ0.out _ _ _ ?_
  clear HQ0
  repeat (first | refine inBlock_pass (by decide) ?_ | refine then_pass ?_)
  refine inBlock_hit ?_
  go_wp2_with fail
  refine (rot_any _ _ (Or.inr (Or.inr rfl)) _).mono ?_; rintro e w2 ⟨rfl, rfl⟩
  go_wp2_with fail
  refine (rot_any _ _ (Or.inl rfl) _).mono ?_; rintro e w2 ⟨rfl, rfl⟩
  go_wp2_with fail
  refine (fmix_any _ _).mono ?_; rintro e w2 ⟨rfl, rfl⟩
  go_wp2_with fail
  refine (fmix_any _ _).mono ?_; rintro e w2 ⟨rfl, rfl⟩
  go_wp2_with fail
  go_ret2
  exact ⟨rfl, hw.out⟩
set_option maxRecDepth 100000 in
set_option maxHeartbeats 4000000 in
theorem sum_n15 (h1 h2 length : Int) (s : Nat → UInt8) : ∃ r1 r2 : Int, ∀ (w : World) (d b o c : Nat), Dg w d h1 h2 → (w.cell? ⟨b, o, none⟩ = some (.int .u8 ((s 0).toNat : Nat)) ∧ w.cell? ⟨b, o + 1, none⟩ = some (.int .u8 ((s 1).toNat : Nat)) ∧ w.cell? ⟨b, o + 2, none⟩ = some (.int .u8 ((s 2).toNat : Nat)) ∧ w.cell? ⟨b, o + 3, none⟩ = some (.int .u8 ((s 3).toNat : Nat)) ∧ w.cell? ⟨b, o + 4, none⟩ = some (.int .u8 ((s 4).toNat : Nat)) ∧ w.cell? ⟨b, o + 5, none⟩ = some (.int .u8 ((s 5).toNat : Nat)) ∧ w.cell? ⟨b, o + 6, none⟩ = some (.int .u8 ((s 6).toNat : Nat)) ∧ w.cell? ⟨b, o + 7, none⟩ = some (.int .u8 ((s 7).toNat : Nat)) ∧ w.cell? ⟨b, o + 8, none⟩ = some (.int .u8 ((s 8).toNat : Nat)) ∧ w.cell? ⟨b, o + 9, none⟩ = some (.int .u8 ((s 9).toNat : Nat)) ∧ w.cell? ⟨b, o + 10, none⟩ = some (.int .u8 ((s 10).toNat : Nat)) ∧ w.cell? ⟨b, o + 11, none⟩ = some (.int .u8 ((s 11).toNat : Nat)) ∧ w.cell? ⟨b, o + 12, none⟩ = some (.int .u8 ((s 12).toNat : Nat)) ∧ w.cell? ⟨b, o + 13, none⟩ = some (.int .u8 ((s 13).toNat : Nat)) ∧ w.cell? ⟨b, o + 14, none⟩ = some (.int .u8 ((s 14).toNat : Nat))) → Calls Try.prog 60 #[.pointer (some ⟨d, 0, none⟩), .bool false, .int .u64 length, .slice (some ⟨b, o, none⟩) 15 c] w fun e w' =>
    e = .returned (.tuple #[.int .u64 r1, .int .u64 r2]) ∧ ∃ n, w' = w.drewN n := by
  apply Exists.intro
  apply Exists.intro
  rintro w d b o c ⟨T, hd⟩ ⟨q0, q1, q2, q3, q4, q5, q6, q7, q8, q9, q10, q11, q12, q13, q14⟩
  have g1 : bits BinOp.and IntKind.i64 15 15 = 15 := by kernel_rfl
  have c0 := hd.cell (i := 0) rfl
  have c1 := hd.cell (i := 1) rfl
  clear hd
  go_enter Try.func60, Try.ntmps60
  go_wp2_with fail
  go_quiet (fail)
  have p0 : (w.drewN nq).cell? ⟨b, o, none⟩ = some (.int .u8 ((s 0).toNat : Nat)) := q0
  have p1 : (w.drewN nq).cell? ⟨b, o + 1, none⟩ = some (.int .u8 ((s 1).toNat : Nat)) := q1
  have p2 : (w.drewN nq).cell? ⟨b, o + 2, none⟩ = some (.int .u8 ((s 2).toNat : Nat)) := q2
  have p3 : (w.drewN nq).cell? ⟨b, o + 3, none⟩ = some (.int .u8 ((s 3).toNat : Nat)) := q3
  have p4 : (w.drewN nq).cell? ⟨b, o + 4, none⟩ = some (.int .u8 ((s 4).toNat : Nat)) := q4
  have p5 : (w.drewN nq).cell? ⟨b, o + 5, none⟩ = some (.int .u8 ((s 5).toNat : Nat)) := q5
  have p6 : (w.drewN nq).cell? ⟨b, o + 6, none⟩ = some (.int .u8 ((s 6).toNat : Nat)) := q6
  have p7 : (w.drewN nq).cell? ⟨b, o + 7, none⟩ = some (.int .u8 ((s 7).toNat : Nat)) := q7
  have p8 : (w.drewN nq).cell? ⟨b, o + 8, none⟩ = some (.int .u8 ((s 8).toNat : Nat)) := q8
  have p9 : (w.drewN nq).cell? ⟨b, o + 9, none⟩ = some (.int .u8 ((s 9).toNat : Nat)) := q9
  have p10 : (w.drewN nq).cell? ⟨b, o + 10, none⟩ = some (.int .u8 ((s 10).toNat : Nat)) := q10
  have p11 : (w.drewN nq).cell? ⟨b, o + 11, none⟩ = some (.int .u8 ((s 11).toNat : Nat)) := q11
  have p12 : (w.drewN nq).cell? ⟨b, o + 12, none⟩ = some (.int .u8 ((s 12).toNat : Nat)) := q12
  have p13 : (w.drewN nq).cell? ⟨b, o + 13, none⟩ = some (.int .u8 ((s 13).toNat : Nat)) := q13
  have p14 : (w.drewN nq).cell? ⟨b, o + 14, none⟩ = some (.int .u8 ((s 14).toNat : Nat)) := q14
  clear c0 c1 q0 q1 q2 q3 q4 q5 q6 q7 q8 q9 q10 q11 q12 q13 q14
  have hw : Hid (∃ n, w.drewN nq = w.drewN n) := ⟨nq, rfl⟩
  generalize w.drewN nq = w1 at hw p0 p1 p2 p3 p4 p5 p6 p7 p8 p9 p10 p11 p12 p13 p14 ⊢
  go_upto_block 2 with (fail)
  refine wp_block ?_
  refine wp_hideQ ?_
  intro Q0 hq0
  have HQ0 := Lib.hid hq0
  clear hq0
  go_wp2_with fail
  refine HQ0.out _ _ _ ?_
  clear HQ0
  repeat (first | refine inBlock_pass (by decide) ?_ | refine then_pass ?_)
  refine inBlock_hit ?_
  go_wp2_with fail
  refine (rot_any _ _ (Or.inr (Or.inr rfl)) _).mono ?_; rintro e w2 ⟨rfl, rfl⟩
  go_wp2_with fail
  refine (rot_any _ _ (Or.inl rfl) _).mono ?_; rintro e w2 ⟨rfl, rfl⟩
  go_wp2_with fail
  refine (fmix_any _ _).mono ?_; rintro e w2 ⟨rfl, rfl⟩
  go_wp2_with fail
  refine (fmix_any _ _).mono ?_; rintro e w2 ⟨rfl, rfl⟩
  go_wp2_with fail
  go_ret2
  exact ⟨rfl, hw.out⟩
end Go.Proofs.Ytbkodehcjhpcmaa
