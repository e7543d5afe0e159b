/- The hash of the rest: L2c. -/
import Derived.Test.YtbkodehcjhpcmaaL1
import Derived.Deep.DeepCutAuto
import Derived.Deep.CutRange
import Derived.Deep.CutBlock
namespace Go.Proofs.Ytbkodehcjhpcmaa
open Go.RowKit

set_option maxRecDepth 100000 in
set_option maxHeartbeats 4000000 in
theorem sum_p0 (h1 h2 length : Int) (s : Nat → UInt8) : ∃ r1 r2 : Int, ∀ (w : World) (d : Nat) (so : Option Addr) (c : Nat), Dg w d h1 h2 → Calls Try.prog 60 #[.pointer (some ⟨d, 0, none⟩), .bool true, .int .u64 length, .slice (so) 0 c] w fun e w' =>
    e = .returned (.tuple #[.int .u64 r1, .int .u64 r2]) ∧ ∃ n, w' = w.drewN n := by
  apply Exists.intro
  apply Exists.intro
  rintro w d so c ⟨T, hd⟩
  have g1 : bits BinOp.and IntKind.i64 0 15 = 0 := by kernel_rfl
  have g2 : bits BinOp.and IntKind.i64 1 15 = 1 := by kernel_rfl
  have c0 := hd.cell (i := 0) rfl
  have c1 := hd.cell (i := 1) rfl
  clear hd
  go_enter Try.func60, Try.ntmps60
  go_wp2_with fail
  go_quiet (fail)
  clear c0 c1
  have hw : Hid (∃ n, w.drewN nq = w.drewN n) := ⟨nq, rfl⟩
  generalize w.drewN nq = w1 at hw ⊢
  go_upto_block 2 with (fail)
  refine (rot_any _ _ (Or.inl rfl) _).mono ?_; rintro e w2 ⟨rfl, rfl⟩
  go_upto_block 2 with (fail)
  refine wp_block ?_
  refine wp_hideQ ?_
  intro Q0 hq0
  have HQ0 := Lib.hid hq0
  clear hq0
  go_wp2_with fail
  refine HQ0.out _ _ _ ?_
  clear HQ0
  repeat (first | refine inBlock_pass (by decide) ?_ | refine then_pass ?_)
  refine inBlock_hit ?_
  go_wp2_with fail
  refine (fmix_any _ _).mono ?_; rintro e w2 ⟨rfl, rfl⟩
  go_wp2_with fail
  refine (fmix_any _ _).mono ?_; rintro e w2 ⟨rfl, rfl⟩
  go_wp2_with fail
  go_ret2
  exact ⟨rfl, hw.out⟩
set_option maxRecDepth 100000 in
set_option maxHeartbeats 4000000 in
theorem sum_p1 (h1 h2 length : Int) (s : Nat → UInt8) : ∃ r1 r2 : Int, ∀ (w : World) (d b o c : Nat), Dg w d h1 h2 → (w.cell? ⟨b, o, none⟩ = some (.int .u8 ((s 0).toNat : Nat))) → Calls Try.prog 60 #[.pointer (some ⟨d, 0, none⟩), .bool true, .int .u64 length, .slice (some ⟨b, o, none⟩) 1 c] w fun e w' =>
    e = .returned (.tuple #[.int .u64 r1, .int .u64 r2]) ∧ ∃ n, w' = w.drewN n := by
  apply Exists.intro
  apply Exists.intro
  rintro w d b o c ⟨T, hd⟩ q0
  have g1 : bits BinOp.and IntKind.i64 1 15 = 1 := by kernel_rfl
  have g2 : bits BinOp.and IntKind.i64 2 15 = 2 := by kernel_rfl
  have c0 := hd.cell (i := 0) rfl
  have c1 := hd.cell (i := 1) rfl
  clear hd
  go_enter Try.func60, Try.ntmps60
  go_wp2_with fail
  go_quiet (fail)
  have p0 : (w.drewN nq).cell? ⟨b, o, none⟩ = some (.int .u8 ((s 0).toNat : Nat)) := q0
  clear c0 c1 q0
  have hw : Hid (∃ n, w.drewN nq = w.drewN n) := ⟨nq, rfl⟩
  generalize w.drewN nq = w1 at hw p0 ⊢
  go_upto_block 2 with (fail)
  refine wp_block ?_
  refine wp_hideQ ?_
  intro Q0 hq0
  have HQ0 := Lib.hid hq0
  clear hq0
  go_wp2_with fail
  refine HQ0.out _ _ _ ?_
  clear HQ0
  repeat (first | refine inBlock_pass (by decide) ?_ | refine then_pass ?_)
  refine inBlock_hit ?_
  go_wp2_with fail
  refine (rot_any _ _ (Or.inl rfl) _).mono ?_; rintro e w2 ⟨rfl, rfl⟩
  go_wp2_with fail
  refine (fmix_any _ _).mono ?_; rintro e w2 ⟨rfl, rfl⟩
  go_wp2_with fail
  refine (fmix_any _ _).mono ?_; rintro e w2 ⟨rfl, rfl⟩
  go_wp2_with fail
  go_ret2
  exact ⟨rfl, hw.out⟩
set_option maxRecDepth 100000 in
set_option maxHeartbeats 4000000 in
theorem sum_p2 (h1 h2 length : Int) (s : Nat → UInt8) : ∃ r1 r2 : Int, ∀ (w : World) (d b o c : Nat), Dg w d h1 h2 → (w.cell? ⟨b, o, none⟩ = some (.int .u8 ((s 0).toNat : Nat)) ∧ w.cell? ⟨b, o + 1, none⟩ = some (.int .u8 ((s 1).toNat : Nat))) → Calls Try.prog 60 #[.pointer (some ⟨d, 0, none⟩), .bool true, .int .u64 length, .slice (some ⟨b, o, none⟩) 2 c] w fun e w' =>
    e = .returned (.tuple #[.int .u64 r1, .int .u64 r2]) ∧ ∃ n, w' = w.drewN n := by
  apply Exists.intro
  apply Exists.intro
  rintro w d b o c ⟨T, hd⟩ ⟨q0, q1⟩
  have g1 : bits BinOp.and IntKind.i64 2 15 = 2 := by kernel_rfl
  have g2 : bits BinOp.and IntKind.i64 3 15 = 3 := by kernel_rfl
  have c0 := hd.cell (i := 0) rfl
  have c1 := hd.cell (i := 1) rfl
  clear hd
  go_enter Try.func60, Try.ntmps60
  go_wp2_with fail
  go_quiet (fail)
  have p0 : (w.drewN nq).cell? ⟨b, o, none⟩ = some (.int .u8 ((s 0).toNat : Nat)) := q0
  have p1 : (w.drewN nq).cell? ⟨b, o + 1, none⟩ = some (.int .u8 ((s 1).toNat : Nat)) := q1
  clear c0 c1 q0 q1
  have hw : Hid (∃ n, w.drewN nq = w.drewN n) := ⟨nq, rfl⟩
  generalize w.drewN nq = w1 at hw p0 p1 ⊢
  go_upto_block 2 with (fail)
  refine wp_block ?_
  refine wp_hideQ ?_
  intro Q0 hq0
  have HQ0 := Lib.hid hq0
  clear hq0
  go_wp2_with fail
  refine HQ0.out _ _ _ ?_
  clear HQ0
  repeat (first | refine inBlock_pass (by decide) ?_ | refine then_pass ?_)
  refine inBlock_hit ?_
  go_wp2_with fail
  refine (rot_any _ _ (Or.inl rfl) _).mono ?_; rintro e w2 ⟨rfl, rfl⟩
  go_wp2_with fail
  refine (fmix_any _ _).mono ?_; rintro e w2 ⟨rfl, rfl⟩
  go_wp2_with fail
  refine (fmix_any _ _).mono ?_; rintro e w2 ⟨rfl, rfl⟩
  go_wp2_with fail
  go_ret2
  exact ⟨rfl, hw.out⟩
set_option maxRecDepth 100000 in
set_option maxHeartbeats 4000000 in
theorem sum_p3 (h1 h2 length : Int) (s : Nat → UInt8) : ∃ r1 r2 : Int, ∀ (w : World) (d b o c : Nat), Dg w d h1 h2 → (w.cell? ⟨b, o, none⟩ = some (.int .u8 ((s 0).toNat : Nat)) ∧ w.cell? ⟨b, o + 1, none⟩ = some (.int .u8 ((s 1).toNat : Nat)) ∧ w.cell? ⟨b, o + 2, none⟩ = some (.int .u8 ((s 2).toNat : Nat))) → Calls Try.prog 60 #[.pointer (some ⟨d, 0, none⟩), .bool true, .int .u64 length, .slice (some ⟨b, o, none⟩) 3 c] w fun e w' =>
    e = .returned (.tuple #[.int .u64 r1, .int .u64 r2]) ∧ ∃ n, w' = w.drewN n := by
  apply Exists.intro
  apply Exists.intro
  rintro w d b o c ⟨T, hd⟩ ⟨q0, q1, q2⟩
  have g1 : bits BinOp.and IntKind.i64 3 15 = 3 := by kernel_rfl
  have g2 : bits BinOp.and IntKind.i64 4 15 = 4 := by kernel_rfl
  have c0 := hd.cell (i := 0) rfl
  have c1 := hd.cell (i := 1) rfl
  clear hd
  go_enter Try.func60, Try.ntmps60
  go_wp2_with fail
  go_quiet (fail)
  have p0 : (w.drewN nq).cell? ⟨b, o, none⟩ = some (.int .u8 ((s 0).toNat : Nat)) := q0
  have p1 : (w.drewN nq).cell? ⟨b, o + 1, none⟩ = some (.int .u8 ((s 1).toNat : Nat)) := q1
  have p2 : (w.drewN nq).cell? ⟨b, o + 2, none⟩ = some (.int .u8 ((s 2).toNat : Nat)) := q2
  clear c0 c1 q0 q1 q2
  have hw : Hid (∃ n, w.drewN nq = w.drewN n) := ⟨nq, rfl⟩
  generalize w.drewN nq = w1 at hw p0 p1 p2 ⊢
  go_upto_block 2 with (fail)
  refine wp_block ?_
  refine wp_hideQ ?_
  intro Q0 hq0
  have HQ0 := Lib.hid hq0
  clear hq0
  go_wp2_with fail
  refine HQ0.out _ _ _ ?_
  clear HQ0
  repeat (first | refine inBlock_pass (by decide) ?_ | refine then_pass ?_)
  refine inBlock_hit ?_
  go_wp2_with fail
  refine (rot_any _ _ (Or.inl rfl) _).mono ?_; rintro e w2 ⟨rfl, rfl⟩
  go_wp2_with fail
  refine (fmix_any _ _).mono ?_; rintro e w2 ⟨rfl, rfl⟩
  go_wp2_with fail
  refine (fmix_any _ _).mono ?_; rintro e w2 ⟨rfl, rfl⟩
  go_wp2_with fail
  go_ret2
  exact ⟨rfl, hw.out⟩
set_option maxRecDepth 100000 in
set_option maxHeartbeats 4000000 in
theorem sum_p4 (h1 h2 length : Int) (s : Nat → UInt8) : ∃ r1 r2 : Int, ∀ (w : World) (d b o c : Nat), Dg w d h1 h2 → (w.cell? ⟨b, o, none⟩ = some (.int .u8 ((s 0).toNat : Nat)) ∧ w.cell? ⟨b, o + 1, none⟩ = some (.int .u8 ((s 1).toNat : Nat)) ∧ w.cell? ⟨b, o + 2, none⟩ = some (.int .u8 ((s 2).toNat : Nat)) ∧ w.cell? ⟨b, o + 3, none⟩ = some (.int .u8 ((s 3).toNat : Nat))) → Calls Try.prog 60 #[.pointer (some ⟨d, 0, none⟩), .bool true, .int .u64 length, .slice (some ⟨b, o, none⟩) 4 c] w fun e w' =>
    e = .returned (.tuple #[.int .u64 r1, .int .u64 r2]) ∧ ∃ n, w' = w.drewN n := by
  apply Exists.intro
  apply Exists.intro
  rintro w d b o c ⟨T, hd⟩ ⟨q0, q1, q2, q3⟩
  have g1 : bits BinOp.and IntKind.i64 4 15 = 4 := by kernel_rfl
  have g2 : bits BinOp.and IntKind.i64 5 15 = 5 := by kernel_rfl
  have c0 := hd.cell (i := 0) rfl
  have c1 := hd.cell (i := 1) rfl
  clear hd
  go_enter Try.func60, Try.ntmps60
  go_wp2_with fail
  go_quiet (fail)
  have p0 : (w.drewN nq).cell? ⟨b, o, none⟩ = some (.int .u8 ((s 0).toNat : Nat)) := q0
  have p1 : (w.drewN nq).cell? ⟨b, o + 1, none⟩ = some (.int .u8 ((s 1).toNat : Nat)) := q1
  have p2 : (w.drewN nq).cell? ⟨b, o + 2, none⟩ = some (.int .u8 ((s 2).toNat : Nat)) := q2
  have p3 : (w.drewN nq).cell? ⟨b, o + 3, none⟩ = some (.int .u8 ((s 3).toNat : Nat)) := q3
  clear c0 c1 q0 q1 q2 q3
  have hw : Hid (∃ n, w.drewN nq = w.drewN n) := ⟨nq, rfl⟩
  generalize w.drewN nq = w1 at hw p0 p1 p2 p3 ⊢
  go_upto_block 2 with (fail)
  refine wp_block ?_
  refine wp_hideQ ?_
  intro Q0 hq0
  have HQ0 := Lib.hid hq0
  clear hq0
  go_wp2_with fail
  refine HQ0.out _ _ _ ?_
  clear HQ0
  repeat (first | refine inBlock_pass (by decide) ?_ | refine then_pass ?_)
  refine inBlock_hit ?_
  go_wp2_with fail
  refine (rot_any _ _ (Or.inl rfl) _).mono ?_; rintro e w2 ⟨rfl, rfl⟩
  go_wp2_with fail
  refine (fmix_any _ _).mono ?_; rintro e w2 ⟨rfl, rfl⟩
  go_wp2_with fail
  refine (fmix_any _ _).mono ?_; rintro e w2 ⟨rfl, rfl⟩
  go_wp2_with fail
  go_ret2
  exact ⟨rfl, hw.out⟩
set_option maxRecDepth 100000 in
set_option maxHeartbeats 4000000 in
theorem sum_p5 (h1 h2 length : Int) (s : Nat → UInt8) : ∃ r1 r2 : Int, ∀ (w : World) (d b o c : Nat), Dg w d h1 h2 → (w.cell? ⟨b, o, none⟩ = some (.int .u8 ((s 0).toNat : Nat)) ∧ w.cell? ⟨b, o + 1, none⟩ = some (.int .u8 ((s 1).toNat : Nat)) ∧ w.cell? ⟨b, o + 2, none⟩ = some (.int .u8 ((s 2).toNat : Nat)) ∧ w.cell? ⟨b, o + 3, none⟩ = some (.int .u8 ((s 3).toNat : Nat)) ∧ w.cell? ⟨b, o + 4, none⟩ = some (.int .u8 ((s 4).toNat : Nat))) → Calls Try.prog 60 #[.pointer (some ⟨d, 0, none⟩), .bool true, .int .u64 length, .slice (some ⟨b, o, none⟩) 5 c] w fun e w' =>
    e = .returned (.tuple #[.int .u64 r1, .int .u64 r2]) ∧ ∃ n, w' = w.drewN n := by
  apply Exists.intro
  apply Exists.intro
  rintro w d b o c ⟨T, hd⟩ ⟨q0, q1, q2, q3, q4⟩
  have g1 : bits BinOp.and IntKind.i64 5 15 = 5 := by kernel_rfl
  have g2 : bits BinOp.and IntKind.i64 6 15 = 6 := by kernel_rfl
  have c0 := hd.cell (i := 0) rfl
  have c1 := hd.cell (i := 1) rfl
  clear hd
  go_enter Try.func60, Try.ntmps60
  go_wp2_with fail
  go_quiet (fail)
  have p0 : (w.drewN nq).cell? ⟨b, o, none⟩ = some (.int .u8 ((s 0).toNat : Nat)) := q0
  have p1 : (w.drewN nq).cell? ⟨b, o + 1, none⟩ = some (.int .u8 ((s 1).toNat : Nat)) := q1
  have p2 : (w.drewN nq).cell? ⟨b, o + 2, none⟩ = some (.int .u8 ((s 2).toNat : Nat)) := q2
  have p3 : (w.drewN nq).cell? ⟨b, o + 3, none⟩ = some (.int .u8 ((s 3).toNat : Nat)) := q3
  have p4 : (w.drewN nq).cell? ⟨b, o + 4, none⟩ = some (.int .u8 ((s 4).toNat : Nat)) := q4
  clear c0 c1 q0 q1 q2 q3 q4
  have hw : Hid (∃ n, w.drewN nq = w.drewN n) := ⟨nq, rfl⟩
  generalize w.drewN nq = w1 at hw p0 p1 p2 p3 p4 ⊢
  go_upto_block 2 with (fail)
  refine wp_block ?_
  refine wp_hideQ ?_
  intro Q0 hq0
  have HQ0 := Lib.hid hq0
  clear hq0
  go_wp2_with fail
  refine HQ0.out _ _ _ ?_
  clear HQ0
  repeat (first | refine inBlock_pass (by decide) ?_ | refine then_pass ?_)
  refine inBlock_hit ?_
  go_wp2_with fail
  refine (rot_any _ _ (Or.inl rfl) _).mono ?_; rintro e w2 ⟨rfl, rfl⟩
  go_wp2_with fail
  refine (fmix_any _ _).mono ?_; rintro e w2 ⟨rfl, rfl⟩
  go_wp2_with fail
  refine (fmix_any _ _).mono ?_; rintro e w2 ⟨rfl, rfl⟩
  go_wp2_with fail
  go_ret2
  exact ⟨rfl, hw.out⟩
set_option maxRecDepth 100000 in
set_option maxHeartbeats 4000000 in
theorem sum_p6 (h1 h2 length : Int) (s : Nat → UInt8) : ∃ r1 r2 : Int, ∀ (w : World) (d b o c : Nat), Dg w d h1 h2 → (w.cell? ⟨b, o, none⟩ = some (.int .u8 ((s 0).toNat : Nat)) ∧ w.cell? ⟨b, o + 1, none⟩ = some (.int .u8 ((s 1).toNat : Nat)) ∧ w.cell? ⟨b, o + 2, none⟩ = some (.int .u8 ((s 2).toNat : Nat)) ∧ w.cell? ⟨b, o + 3, none⟩ = some (.int .u8 ((s 3).toNat : Nat)) ∧ w.cell? ⟨b, o + 4, none⟩ = some (.int .u8 ((s 4).toNat : Nat)) ∧ w.cell? ⟨b, o + 5, none⟩ = some (.int .u8 ((s 5).toNat : Nat))) → Calls Try.prog 60 #[.pointer (some ⟨d, 0, none⟩), .bool true, .int .u64 length, .slice (some ⟨b, o, none⟩) 6 c] w fun e w' =>
    e = .returned (.tuple #[.int .u64 r1, .int .u64 r2]) ∧ ∃ n, w' = w.drewN n := by
  apply Exists.intro
  apply Exists.intro
  rintro w d b o c ⟨T, hd⟩ ⟨q0, q1, q2, q3, q4, q5⟩
  have g1 : bits BinOp.and IntKind.i64 6 15 = 6 := by kernel_rfl
  have g2 : bits BinOp.and IntKind.i64 7 15 = 7 := by kernel_rfl
  have c0 := hd.cell (i := 0) rfl
  have c1 := hd.cell (i := 1) rfl
  clear hd
  go_enter Try.func60, Try.ntmps60
  go_wp2_with fail
  go_quiet (fail)
  have p0 : (w.drewN nq).cell? ⟨b, o, none⟩ = some (.int .u8 ((s 0).toNat : Nat)) := q0
  have p1 : (w.drewN nq).cell? ⟨b, o + 1, none⟩ = some (.int .u8 ((s 1).toNat : Nat)) := q1
  have p2 : (w.drewN nq).cell? ⟨b, o + 2, none⟩ = some (.int .u8 ((s 2).toNat : Nat)) := q2
  have p3 : (w.drewN nq).cell? ⟨b, o + 3, none⟩ = some (.int .u8 ((s 3).toNat : Nat)) := q3
  have p4 : (w.drewN nq).cell? ⟨b, o + 4, none⟩ = some (.int .u8 ((s 4).toNat : Nat)) := q4
  have p5 : (w.drewN nq).cell? ⟨b, o + 5, none⟩ = some (.int .u8 ((s 5).toNat : Nat)) := q5
  clear c0 c1 q0 q1 q2 q3 q4 q5
  have hw : Hid (∃ n, w.drewN nq = w.drewN n) := ⟨nq, rfl⟩
  generalize w.drewN nq = w1 at hw p0 p1 p2 p3 p4 p5 ⊢
  go_upto_block 2 with (fail)
  refine wp_block ?_
  refine wp_hideQ ?_
  intro Q0 hq0
  have HQ0 := Lib.hid hq0
  clear hq0
  go_wp2_with fail
  refine HQ0.out _ _ _ ?_
  clear HQ0
  repeat (first | refine inBlock_pass (by decide) ?_ | refine then_pass ?_)
  refine inBlock_hit ?_
  go_wp2_with fail
  refine (rot_any _ _ (Or.inl rfl) _).mono ?_; rintro e w2 ⟨rfl, rfl⟩
  go_wp2_with fail
  refine (fmix_any _ _).mono ?_; rintro e w2 ⟨rfl, rfl⟩
  go_wp2_with fail
  refine (fmix_any _ _).mono ?_; rintro e w2 ⟨rfl, rfl⟩
  go_wp2_with fail
  go_ret2
  exact ⟨rfl, hw.out⟩
set_option maxRecDepth 100000 in
set_option maxHeartbeats 4000000 in
theorem sum_p7 (h1 h2 length : Int) (s : Nat → UInt8) : ∃ r1 r2 : Int, ∀ (w : World) (d b o c : Nat), Dg w d h1 h2 → (w.cell? ⟨b, o, none⟩ = some (.int .u8 ((s 0).toNat : Nat)) ∧ w.cell? ⟨b, o + 1, none⟩ = some (.int .u8 ((s 1).toNat : Nat)) ∧ w.cell? ⟨b, o + 2, none⟩ = some (.int .u8 ((s 2).toNat : Nat)) ∧ w.cell? ⟨b, o + 3, none⟩ = some (.int .u8 ((s 3).toNat : Nat)) ∧ w.cell? ⟨b, o + 4, none⟩ = some (.int .u8 ((s 4).toNat : Nat)) ∧ w.cell? ⟨b, o + 5, none⟩ = some (.int .u8 ((s 5).toNat : Nat)) ∧ w.cell? ⟨b, o + 6, none⟩ = some (.int .u8 ((s 6).toNat : Nat))) → Calls Try.prog 60 #[.pointer (some ⟨d, 0, none⟩), .bool true, .int .u64 length, .slice (some ⟨b, o, none⟩) 7 c] w fun e w' =>
    e = .returned (.tuple #[.int .u64 r1, .int .u64 r2]) ∧ ∃ n, w' = w.drewN n := by
  apply Exists.intro
  apply Exists.intro
  rintro w d b o c ⟨T, hd⟩ ⟨q0, q1, q2, q3, q4, q5, q6⟩
  have g1 : bits BinOp.and IntKind.i64 7 15 = 7 := by kernel_rfl
  have g2 : bits BinOp.and IntKind.i64 8 15 = 8 := by kernel_rfl
  have c0 := hd.cell (i := 0) rfl
  have c1 := hd.cell (i := 1) rfl
  clear hd
  go_enter Try.func60, Try.ntmps60
  go_wp2_with fail
  go_quiet (fail)
  have p0 : (w.drewN nq).cell? ⟨b, o, none⟩ = some (.int .u8 ((s 0).toNat : Nat)) := q0
  have p1 : (w.drewN nq).cell? ⟨b, o + 1, none⟩ = some (.int .u8 ((s 1).toNat : Nat)) := q1
  have p2 : (w.drewN nq).cell? ⟨b, o + 2, none⟩ = some (.int .u8 ((s 2).toNat : Nat)) := q2
  have p3 : (w.drewN nq).cell? ⟨b, o + 3, none⟩ = some (.int .u8 ((s 3).toNat : Nat)) := q3
  have p4 : (w.drewN nq).cell? ⟨b, o + 4, none⟩ = some (.int .u8 ((s 4).toNat : Nat)) := q4
  have p5 : (w.drewN nq).cell? ⟨b, o + 5, none⟩ = some (.int .u8 ((s 5).toNat : Nat)) := q5
  have p6 : (w.drewN nq).cell? ⟨b, o + 6, none⟩ = some (.int .u8 ((s 6).toNat : Nat)) := q6
  clear c0 c1 q0 q1 q2 q3 q4 q5 q6
  have hw : Hid (∃ n, w.drewN nq = w.drewN n) := ⟨nq, rfl⟩
  generalize w.drewN nq = w1 at hw p0 p1 p2 p3 p4 p5 p6 ⊢
  go_upto_block 2 with (fail)
  refine wp_block ?_
  refine wp_hideQ ?_
  intro Q0 hq0
  have HQ0 := Lib.hid hq0
  clear hq0
  go_wp2_with fail
  refine HQ0.out _ _ _ ?_
  clear HQ0
  repeat (first | refine inBlock_pass (by decide) ?_ | refine then_pass ?_)
  refine inBlock_hit ?_
  go_wp2_with fail
  refine (rot_any _ _ (Or.inl rfl) _).mono ?_; rintro e w2 ⟨rfl, rfl⟩
  go_wp2_with fail
  refine (fmix_any _ _).mono ?_; rintro e w2 ⟨rfl, rfl⟩
  go_wp2_with fail
  refine (fmix_any _ _).mono ?_; rintro e w2 ⟨rfl, rfl⟩
  go_wp2_with fail
  go_ret2
  exact ⟨rfl, hw.out⟩
end Go.Proofs.Ytbkodehcjhpcmaa
