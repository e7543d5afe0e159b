/- The four hashes of data. -/
import Derived.Test.YtbkodehcjhpcmaaL4
import Derived.IntWalk
namespace Go.Proofs.Ytbkodehcjhpcmaa
open Go.RowKit

theorem sm_ex (pad : Bool) (t : Nat) (h1 h2 length : Int) (s : Nat → UInt8) : ∃ r : Int × Int, t < 16 → (pad = true → t < 15) → ∀ (w : World) (d : Nat) (so : Option Addr) (c : Nat), Dg w d h1 h2 → Byts w so t s →
    Calls Try.prog 60 #[.pointer (some ⟨d, 0, none⟩), .bool pad, .int .u64 length, .slice so t c] w fun e w' => e = .returned (.tuple #[.int .u64 r.1, .int .u64 r.2]) ∧ ∃ n, w' = w.drewN n := by
  by_cases ht : t < 16
  · by_cases hp : pad = true → t < 15
    · obtain ⟨r1, r2, h⟩ := sum_ex pad t ht hp h1 h2 length s
      exact ⟨(r1, r2), fun _ _ => h⟩
    · exact ⟨(0, 0), fun _ h => absurd h hp⟩
  · exact ⟨(0, 0), fun h _ => absurd h ht⟩
noncomputable def sm (pad : Bool) (t : Nat) (h1 h2 length : Int) (s : Nat → UInt8) : Int × Int := Classical.choose (sm_ex pad t h1 h2 length s)
theorem sum_any (pad : Bool) (t : Nat) (h1 h2 length : Int) (s : Nat → UInt8) (ht : t < 16) (hp : pad = true → t < 15) (w : World) (d : Nat) (so : Option Addr) (c : Nat) (hd : Dg w d h1 h2) (hb : Byts w so t s) :
    Calls Try.prog 60 #[.pointer (some ⟨d, 0, none⟩), .bool pad, .int .u64 length, .slice so t c] w fun e w' => e = .returned (.tuple #[.int .u64 (sm pad t h1 h2 length s).1, .int .u64 (sm pad t h1 h2 length s).2]) ∧ ∃ n, w' = w.drewN n :=
  Classical.choose_spec (sm_ex pad t h1 h2 length s) ht hp w d so c hd hb

/-- How a slice that is data lies. -/
def Lies (w : World) (d : Nat) (so : Option Addr) (n c : Nat) (s : Nat → UInt8) : Prop := (n = 0 ∧ c = 0) ∨ ∃ b o, so = some ⟨b, o, none⟩ ∧ (0 < n → b ≠ d) ∧ n ≤ c ∧ ∀ i, i < n → w.cell? ⟨b, o + i, none⟩ = some (.int .u8 ((s i).toNat : Nat))

theorem byts_only {w w' : World} {d b o n : Nat} {s : Nat → UInt8} (hb : ∀ i, i < n → w.cell? ⟨b, o + i, none⟩ = some (.int .u8 ((s i).toNat : Nat))) (hne : 0 < n → b ≠ d) (ho : Only [d] w w') : ∀ i, i < n → w'.cell? ⟨b, o + i, none⟩ = some (.int .u8 ((s i).toNat : Nat)) :=
  fun i hi => (World.cell?_of_block (ho.block b (cell_lt (hb i hi)) (by simp; exact hne (by omega)))).trans (hb i hi)
def tl (s : Nat → UInt8) (m : Nat) : Nat → UInt8 := fun i => s (m + i)

set_option maxRecDepth 100000 in
set_option maxHeartbeats 4000000 in
theorem sum256_a (s : Nat → UInt8) (q t : Nat) (ht : t < 15) (hn : 16 * q + t ≤ 80) (w : World) (d : Nat) (so : Option Addr) (c : Nat) (hd : Dg w d 0 0) (hl : Lies w d so (16 * q + t) c s) :
    Calls Try.prog 50 #[.pointer (some ⟨d, 0, none⟩), .slice so ((16 * q + t : Nat)) c] w fun e w' =>
      e = .returned (.tuple #[.int .u64 (sm false t (fold s q).1 (fold s q).2 ((16 * q + t : Nat) : Int) (tl s (16 * q))).1, .int .u64 (sm false t (fold s q).1 (fold s q).2 ((16 * q + t : Nat) : Int) (tl s (16 * q))).2, .int .u64 (sm true t (fold s q).1 (fold s q).2 (((16 * q + t : Nat) : Int) + 1) (tl s (16 * q))).1, .int .u64 (sm true t (fold s q).1 (fold s q).2 (((16 * q + t : Nat) : Int) + 1) (tl s (16 * q))).2]) ∧ Only [d] w w' := by
  have HD := Lib.hid hd
  have c0 : w.cell? ⟨d, 0, none⟩ = some (.int .u64 0) := by obtain ⟨T, h⟩ := hd; exact h.cell rfl
  have c1 : w.cell? ⟨d, 1, none⟩ = some (.int .u64 0) := by obtain ⟨T, h⟩ := hd; exact h.cell rfl
  have f0 : w.frozen? ⟨d, 0, none⟩ = false := by obtain ⟨T, h⟩ := hd; exact h.free 0
  have f1 : w.frozen? ⟨d, 1, none⟩ = false := by obtain ⟨T, h⟩ := hd; exact h.free 1
  obtain ⟨w2, hw2⟩ : ∃ w2, w2 = (w.setCell ⟨d, 0, none⟩ (.int .u64 0)).setCell ⟨d, 1, none⟩ (.int .u64 0) := ⟨_, rfl⟩
  have H2 : Hid (Dg w2 d 0 0 ∧ Only [d] w w2) := by
    rw [hw2]
    exact ⟨by obtain ⟨T, h⟩ := hd; exact ⟨T, (h.set 0 _).set 1 _⟩, ((Only.refl _ _).setCell (Or.inl (by simp)) _).setCell (Or.inl (by simp)) _⟩
  have HW2 := Lib.hid hw2
  clear hw2
  have HL := Lib.hid hl
  clear hl
  obtain ⟨n, hnn⟩ : ∃ n, n = 16 * q + t := ⟨_, rfl⟩
  have hm1 : (n : Int) % 16 = (t : Int) := by omega
  have hm2 : (n : Int) - (t : Int) = ((16 * q : Nat) : Int) := by omega
  have hdiv : n / 16 = q := by omega
  have hmq : 16 * q ≤ n := by omega
  have HN := Lib.hid hnn
  have HM : Hid ((n : Int) % 16 = (t : Int) ∧ (n : Int) - (t : Int) = ((16 * q : Nat) : Int)) := ⟨hm1, hm2⟩
  rw [← hnn] at hn HL ⊢
  have hB := Lib.hid (bmix_any s n hn w2 d so c H2.out.1 (by
    rcases HL.out with ⟨h0, hc0⟩ | ⟨b, o, rfl, hne, hc, hb⟩
    · intro h; omega
    · intro _; exact ⟨b, o, rfl, byts_only hb hne H2.out.2⟩) (by
    rcases HL.out with ⟨h0, hc0⟩ | ⟨b, o, rfl, hne, hc, hb⟩
    · intro b o h h1; omega
    · intro b' o' h h0; simp at h; rw [← h.1]; exact hne h0) (by
    rcases HL.out with ⟨h0, hc0⟩ | ⟨b, o, rfl, hne, hc, hb⟩
    · omega
    · exact hc))
  rw [hdiv] at hB
  clear hdiv hnn hm1 hm2
  obtain ⟨m, hm⟩ : ∃ m, m = 16 * q := ⟨_, rfl⟩
  rw [← hm] at HN HM hmq ⊢
  have hnm : n - m = t := by have := HN.out; omega
  have hn2 : n ≤ 80 := hn
  rcases HL.out with ⟨h0, rfl⟩ | ⟨b, o, rfl, hne, hc, hb⟩
  · subst h0
    obtain rfl : m = 0 := by omega
    obtain rfl : t = 0 := by omega
    clear hm HM HN hnm hmq
    rcases so with _ | a
    all_goals
      go_enter Try.func50, Try.ntmps50
      go_wp2_with fail
      rw [← HW2.out]
      refine hB.out.mono ?_
      rintro e w3 ⟨rfl, hd3, ho3⟩
      have H3 : Hid (Dg w3 d (fold s q).1 (fold s q).2 ∧ Only [d] w w3) := ⟨hd3, H2.out.2.trans ho3⟩
      clear hd3 ho3 c0 c1 f0 f1
      go_wp2_with fail
      refine (sum_any false 0 _ _ _ (tl s 0) (by decide) (by decide) _ _ _ _ H3.out.1 (fun h => absurd h (by decide))).mono ?_
      rintro e w4 ⟨rfl, k, rfl⟩
      go_wp2_with fail
      refine (sum_any true 0 _ _ _ (tl s 0) (by decide) (by decide) _ _ _ _ (show Dg (w3.drewN k) d _ _ from H3.out.1) (fun h => absurd h (by decide))).mono ?_
      rintro e w5 ⟨rfl, k2, rfl⟩
      go_wp2_with fail
      refine bodyPost_ret (v := .tuple #[.int .u64 (sm false 0 (fold s q).1 (fold s q).2 ((0 : Nat) : Int) (tl s 0)).1, .int .u64 (sm false 0 (fold s q).1 (fold s q).2 ((0 : Nat) : Int) (tl s 0)).2, .int .u64 (sm true 0 (fold s q).1 (fold s q).2 (((0 : Nat) : Int) + 1) (tl s 0)).1, .int .u64 (sm true 0 (fold s q).1 (fold s q).2 (((0 : Nat) : Int) + 1) (tl s 0)).2]) ?_ rfl ⟨rfl, ?_⟩
      · simp [results, Try.results50, go_sem]
      · exact (H3.out.2.drewN _)
  · have h1 : (0 : Int) ≤ (m : Int) := by omega
    have h2 : (m : Int) ≤ (n : Int) := by omega
    have h4 : (n : Int) ≤ (c : Int) := by omega
    have hm1 := HM.out.1
    have hm2 := HM.out.2
    have h15 : ((t : Int) + 1 == 16) = false := by simp; omega
    have HT : Hid (∀ W, Only [d] w W → Byts W (some ⟨b, o + m, none⟩) t (tl s m)) := fun W hW _ => ⟨b, o + m, rfl, fun i hi => by rw [Nat.add_assoc]; exact byts_only hb hne hW (m + i) (by omega)⟩
    clear hm HN hb
    go_enter Try.func50, Try.ntmps50
    go_wp2_with fail
    rw [← HW2.out]
    refine hB.out.mono ?_
    rintro e w3 ⟨rfl, hd3, ho3⟩
    have H3 : Hid (Dg w3 d (fold s q).1 (fold s q).2 ∧ Only [d] w w3) := ⟨hd3, H2.out.2.trans ho3⟩
    clear hd3 ho3 c0 c1 f0 f1
    go_wp2_with fail
    all_goals
      refine (sum_any false t _ _ _ (tl s m) (by omega) (fun h => absurd h (by decide)) _ _ _ _ H3.out.1 (by first | exact HT.out _ H3.out.2 | (intro h; omega))).mono ?_
      rintro e w4 ⟨rfl, k, rfl⟩
      go_wp2_with fail
      refine (sum_any true t _ _ _ (tl s m) (by omega) (fun _ => ht) _ _ _ _ (show Dg (w3.drewN k) d _ _ from H3.out.1) (by first | exact HT.out _ (H3.out.2.drewN k) | (intro h; omega))).mono ?_
      rintro e w5 ⟨rfl, k2, rfl⟩
      go_wp2_with fail
      refine bodyPost_ret (v := .tuple #[.int .u64 (sm false t (fold s q).1 (fold s q).2 (n : Int) (tl s m)).1, .int .u64 (sm false t (fold s q).1 (fold s q).2 (n : Int) (tl s m)).2, .int .u64 (sm true t (fold s q).1 (fold s q).2 ((n : Int) + 1) (tl s m)).1, .int .u64 (sm true t (fold s q).1 (fold s q).2 ((n : Int) + 1) (tl s m)).2]) ?_ rfl ⟨rfl, ?_⟩
      · simp [results, Try.results50, go_sem]
      · exact (H3.out.2.drewN _)

def le32 (s : Nat → UInt8) (o : Nat) : Int := (Lib.leNat [s o, s (o + 1), s (o + 2), s (o + 3)] : Nat)
theorem u32_any (g o n c k : Nat) (s : Nat → UInt8) (w : World) (hn : 4 ≤ n) (hb : ∀ i, i < 4 → w.cell? ⟨g, o + i, none⟩ = some (.int .u8 ((s (k + i)).toNat : Nat))) :
    Calls Try.prog 62 #[.agg #[], .slice (some ⟨g, o, none⟩) n c] w fun e w' => e = .returned (.int .u32 (le32 s k)) ∧ Below w.heap.size w w' :=
  Try.binary_LE_Uint32 g o n c _ _ _ _ w hn (hb 0 (by decide)) (hb 1 (by decide)) (hb 2 (by decide)) (hb 3 (by decide))
def word2 (s : Nat → UInt8) (m : Nat) : Int :=
  bits BinOp.or IntKind.u64 (bits BinOp.or IntKind.u64 (bits BinOp.or IntKind.u64 (bits BinOp.or IntKind.u64 (IntKind.u64.wrap (le32 s (m + 8))) (IntKind.u64.wrap (IntKind.u64.wrap ((s (m + 12)).toNat : Nat) * 4294967296)))
    (IntKind.u64.wrap (IntKind.u64.wrap ((s (m + 13)).toNat : Nat) * 1099511627776))) (IntKind.u64.wrap (IntKind.u64.wrap ((s (m + 14)).toNat : Nat) * 281474976710656))) 72057594037927936
set_option maxRecDepth 100000 in
set_option maxHeartbeats 4000000 in
theorem sum256_b (s : Nat → UInt8) (q : Nat) (hn : 16 * q + 15 ≤ 80) (w : World) (d : Nat) (so : Option Addr) (c : Nat) (hd : Dg w d 0 0) (hl : Lies w d so (16 * q + 15) c s) :
    Calls Try.prog 50 #[.pointer (some ⟨d, 0, none⟩), .slice so ((16 * q + 15 : Nat)) c] w fun e w' =>
      e = .returned (.tuple #[.int .u64 (sm false 15 (fold s q).1 (fold s q).2 ((16 * q + 15 : Nat) : Int) (tl s (16 * q))).1, .int .u64 (sm false 15 (fold s q).1 (fold s q).2 ((16 * q + 15 : Nat) : Int) (tl s (16 * q))).2, .int .u64 (sm false 0 (mw (fold s q).1 (fold s q).2 (le64 s (16 * q)) (word2 s (16 * q))).1 (mw (fold s q).1 (fold s q).2 (le64 s (16 * q)) (word2 s (16 * q))).2 (((16 * q + 15 : Nat) : Int) + 1) (tl s (16 * q + 15))).1, .int .u64 (sm false 0 (mw (fold s q).1 (fold s q).2 (le64 s (16 * q)) (word2 s (16 * q))).1 (mw (fold s q).1 (fold s q).2 (le64 s (16 * q)) (word2 s (16 * q))).2 (((16 * q + 15 : Nat) : Int) + 1) (tl s (16 * q + 15))).2]) ∧ Only [d] w w' := by
  obtain ⟨n, hnn⟩ : ∃ n, n = 16 * q + 15 := ⟨_, rfl⟩
  have hm1 : (n : Int) % 16 = 15 := by omega
  have hm2 : (n : Int) - 15 = ((16 * q : Nat) : Int) := by omega
  have hdiv : n / 16 = q := by omega
  have hmq : 16 * q + 15 = n := hnn.symm
  have HM : Hid ((n : Int) % 16 = 15 ∧ (n : Int) - 15 = ((16 * q : Nat) : Int)) := ⟨hm1, hm2⟩
  rw [← hnn] at hn hl ⊢
  clear hnn hm1 hm2
  obtain ⟨m, hm⟩ : ∃ m, m = 16 * q := ⟨_, rfl⟩
  rw [← hm] at HM hmq ⊢
  have HDV := Lib.hid hdiv
  have HMQ := Lib.hid hmq
  clear hm hdiv hmq
  have HD := Lib.hid hd
  have c0 : w.cell? ⟨d, 0, none⟩ = some (.int .u64 0) := by obtain ⟨T, h⟩ := hd; exact h.cell rfl
  have c1 : w.cell? ⟨d, 1, none⟩ = some (.int .u64 0) := by obtain ⟨T, h⟩ := hd; exact h.cell rfl
  have f0 : w.frozen? ⟨d, 0, none⟩ = false := by obtain ⟨T, h⟩ := hd; exact h.free 0
  have f1 : w.frozen? ⟨d, 1, none⟩ = false := by obtain ⟨T, h⟩ := hd; exact h.free 1
  obtain ⟨w2, hw2⟩ : ∃ w2, w2 = (w.setCell ⟨d, 0, none⟩ (.int .u64 0)).setCell ⟨d, 1, none⟩ (.int .u64 0) := ⟨_, rfl⟩
  have H2 : Hid (Dg w2 d 0 0 ∧ Only [d] w w2) := by
    rw [hw2]
    exact ⟨by obtain ⟨T, h⟩ := hd; exact ⟨T, (h.set 0 _).set 1 _⟩, ((Only.refl _ _).setCell (Or.inl (by simp)) _).setCell (Or.inl (by simp)) _⟩
  have HW2 := Lib.hid hw2
  clear hw2
  have HL := Lib.hid hl
  clear hl
  have hB := Lib.hid (bmix_any s n hn w2 d so c H2.out.1 (by
    rcases HL.out with ⟨h0, hc0⟩ | ⟨b, o, rfl, hne, hc, hb⟩
    · intro h; omega
    · intro _; exact ⟨b, o, rfl, byts_only hb hne H2.out.2⟩) (by
    rcases HL.out with ⟨h0, hc0⟩ | ⟨b, o, rfl, hne, hc, hb⟩
    · intro b o h h1; omega
    · intro b' o' h h0; simp at h; rw [← h.1]; exact hne h0) (by
    rcases HL.out with ⟨h0, hc0⟩ | ⟨b, o, rfl, hne, hc, hb⟩
    · omega
    · exact hc))
  rw [HDV.out] at hB
  have hnm : n - m = 15 := by have := HMQ.out; omega
  rcases HL.out with ⟨h0, hc0⟩ | ⟨b, o, rfl, hne, hc, hb⟩
  · have := HMQ.out; omega
  · have hmq := HMQ.out
    have h1 : (0 : Int) ≤ (m : Int) := by omega
    have h2 : (m : Int) ≤ (n : Int) := by omega
    have h4 : (n : Int) ≤ (c : Int) := by omega
    have hcm : ¬ c = m := by omega
    have hm1 := HM.out.1
    have hm2 := HM.out.2
    have HBY : Hid (∀ W, Only [d] w W → ∀ i, i < 15 → W.cell? ⟨b, o + m + i, none⟩ = some (.int .u8 ((s (m + i)).toNat : Nat))) := fun W hW i hi => by rw [Nat.add_assoc]; exact byts_only hb hne hW (m + i) (by omega)
    have hmn : m ≤ n := by omega
    clear hb hmq
    go_enter Try.func50, Try.ntmps50
    go_wp2_with fail
    rw [← HW2.out]
    refine hB.out.mono ?_
    rintro e w3 ⟨rfl, hd3, ho3⟩
    have H3 : Hid (Dg w3 d (fold s q).1 (fold s q).2 ∧ Only [d] w w3) := ⟨hd3, H2.out.2.trans ho3⟩
    clear hd3 ho3 c0 c1 f0 f1
    go_wp2_with fail
    refine (sum_any false 15 _ _ _ (tl s m) (by decide) (fun h => absurd h (by decide)) _ _ _ _ H3.out.1 (fun _ => ⟨b, o + m, rfl, HBY.out _ H3.out.2⟩)).mono ?_
    rintro e w4 ⟨rfl, k, rfl⟩
    have hcc0 : 15 ≤ c - m := by omega
    obtain ⟨cc, hcc⟩ : ∃ cc, cc = c - m := ⟨_, rfl⟩
    rw [← hcc] at hcc0 ⊢
    have h15 : ((n : Int) % 16 + 1 == 16) = true := by rw [hm1]; rfl
    clear hcc hm2
    have H4 : Hid (Dg (w3.drewN k) d (fold s q).1 (fold s q).2 ∧ Only [d] w (w3.drewN k)) := ⟨H3.out.1, H3.out.2.drewN k⟩
    generalize w3.drewN k = w4 at H4 ⊢
    have i1 : (8 : Int) ≤ (cc : Int) := by omega
    have i2 : (12 : Int) ≤ (cc : Int) := by omega
    have i3 : ¬ cc = 8 := by omega
    go_wp2_with fail
    go_region_held3 (fun w' => Only [d] w w') (first | exact H4.out.2.drew | exact H5.out.2)
      (first
        | (go_at_call 61; refine (u64_any b (o + m) 8 _ m s _ (by decide) ?_).mono ?_; (intro i hi; exact HBY.out _ H4.out.2.drew i (by omega)); rintro e w5 ⟨rfl, hb⟩; have H5 : Hid (Dg w5 d (fold s q).1 (fold s q).2 ∧ Only [d] w w5) := ⟨H4.out.1.drew.same hb, H4.out.2.drew.trans (Only.of_below hb)⟩; clear hb))
    clear i1
    go_wp2_with fail
    go_region_held3 (fun w' => Only [d] w w') (first | exact H5.out.2.drew | exact H6.out.2)
      (first
        | (go_at_call 62; refine (u32_any b (o + m + 8) 4 _ (m + 8) s _ (by decide) ?_).mono ?_; (intro i hi; rw [Nat.add_assoc m, Nat.add_assoc (o + m)]; exact HBY.out _ H5.out.2.drew (8 + i) (by omega)); rintro e w6 ⟨rfl, hb⟩; have H6 : Hid (Dg w6 d (fold s q).1 (fold s q).2 ∧ Only [d] w w6) := ⟨H5.out.1.drew.same hb, H5.out.2.drew.trans (Only.of_below hb)⟩; clear hb))
    clear i2 i3
    have y12 := HBY.out _ H6.out.2 12 (by decide)
    have y13 := HBY.out _ H6.out.2 13 (by decide)
    have y14 := HBY.out _ H6.out.2 14 (by decide)
    go_wp2_with fail
    go_quiet (fail)
    have H7 : Hid (Dg (w6.drewN nq) d (fold s q).1 (fold s q).2 ∧ Only [d] w (w6.drewN nq)) := ⟨H6.out.1, H6.out.2.drewN nq⟩
    clear y12 y13 y14
    generalize w6.drewN nq = w7 at H7 ⊢
    go_wp2_with fail
    refine (mw_any _ _ (le64 s m) (word2 s m) _ _ H7.out.1).mono ?_
    rintro e w8 ⟨rfl, hd8, ho8⟩
    have H8 : Hid (Dg w8 d (mw (fold s q).1 (fold s q).2 (le64 s m) (word2 s m)).1 (mw (fold s q).1 (fold s q).2 (le64 s m) (word2 s m)).2 ∧ Only [d] w w8) := ⟨hd8, H7.out.2.trans ho8⟩
    clear hd8 ho8 h15 hm1 hcm hnm
    go_wp2_with fail
    all_goals
      refine (sum_any false 0 _ _ _ (tl s n) (by decide) (fun h => absurd h (by decide)) _ _ _ _ H8.out.1 (fun h => absurd h (by decide))).mono ?_
      rintro e w9 ⟨rfl, k9, rfl⟩
      go_wp2_with fail
      refine bodyPost_ret (v := .tuple #[.int .u64 (sm false 15 (fold s q).1 (fold s q).2 (n : Int) (tl s m)).1, .int .u64 (sm false 15 (fold s q).1 (fold s q).2 (n : Int) (tl s m)).2, .int .u64 (sm false 0 (mw (fold s q).1 (fold s q).2 (le64 s m) (word2 s m)).1 (mw (fold s q).1 (fold s q).2 (le64 s m) (word2 s m)).2 ((n : Int) + 1) (tl s n)).1, .int .u64 (sm false 0 (mw (fold s q).1 (fold s q).2 (le64 s m) (word2 s m)).1 (mw (fold s q).1 (fold s q).2 (le64 s m) (word2 s m)).2 ((n : Int) + 1) (tl s n)).2]) ?_ rfl ⟨rfl, ?_⟩
      · simp [results, Try.results50, go_sem]
      · exact (H8.out.2.drewN _)
theorem hashes_ex (s : Nat → UInt8) (n : Nat) : ∃ h : Nat → Int, n ≤ 80 → ∀ (w : World) (d : Nat) (so : Option Addr) (c : Nat), Dg w d 0 0 → Lies w d so n c s →
    Calls Try.prog 50 #[.pointer (some ⟨d, 0, none⟩), .slice so n c] w fun e w' => e = .returned (.tuple #[.int .u64 (h 0), .int .u64 (h 1), .int .u64 (h 2), .int .u64 (h 3)]) ∧ Only [d] w w' := by
  obtain ⟨q, hq⟩ : ∃ q, q = n / 16 := ⟨_, rfl⟩
  obtain ⟨t, ht⟩ : ∃ t, t = n % 16 := ⟨_, rfl⟩
  obtain rfl : n = 16 * q + t := by omega
  by_cases h15 : t < 15
  · refine ⟨fun i => match i with | 0 => _ | 1 => _ | 2 => _ | _ => _, fun hn w d so c hd hl => sum256_a s q t h15 hn w d so c hd hl⟩
  · obtain rfl : t = 15 := by omega
    refine ⟨fun i => match i with | 0 => _ | 1 => _ | 2 => _ | _ => _, fun hn w d so c hd hl => sum256_b s q hn w d so c hd hl⟩
/-- The hashes of data. -/
noncomputable def hashes (s : Nat → UInt8) (n : Nat) : Nat → Int := Classical.choose (hashes_ex s n)
theorem hashes_any (s : Nat → UInt8) (n : Nat) (hn : n ≤ 80) (w : World) (d : Nat) (so : Option Addr) (c : Nat) (hd : Dg w d 0 0) (hl : Lies w d so n c s) :
    Calls Try.prog 50 #[.pointer (some ⟨d, 0, none⟩), .slice so n c] w fun e w' => e = .returned (.tuple #[.int .u64 (hashes s n 0), .int .u64 (hashes s n 1), .int .u64 (hashes s n 2), .int .u64 (hashes s n 3)]) ∧ Only [d] w w' :=
  Classical.choose_spec (hashes_ex s n) hn w d so c hd hl
/-- Data in memory. -/
def Data (w : World) (so : Option Addr) (n c : Nat) (s : Nat → UInt8) : Prop := (n = 0 ∧ c = 0) ∨ ∃ b o, so = some ⟨b, o, none⟩ ∧ n ≤ c ∧ ∀ i, i < n → w.cell? ⟨b, o + i, none⟩ = some (.int .u8 ((s i).toNat : Nat))
theorem Data.same {w w' : World} {so : Option Addr} {n c : Nat} {s : Nat → UInt8} (h : Data w so n c s) (hb : Below w.heap.size w w') : Data w' so n c s := by
  rcases h with h | ⟨b, o, h1, h2, h3⟩
  · exact Or.inl h
  · exact Or.inr ⟨b, o, h1, h2, fun i hi => (hb.cell (cell_lt (h3 i hi))).trans (h3 i hi)⟩
set_option maxRecDepth 100000 in
theorem base_any (s : Nat → UInt8) (n : Nat) (hn : n ≤ 80) (w : World) (so : Option Addr) (c : Nat) (hd : Data w so n c s) :
    Calls Try.prog 39 #[.slice so n c] w fun e w' => e = .returned (.agg #[.int .u64 (hashes s n 0), .int .u64 (hashes s n 1), .int .u64 (hashes s n 2), .int .u64 (hashes s n 3)]) ∧ Below w.heap.size w w' := by
  have HD := Lib.hid hd
  clear hd
  go_enter Try.func39, Try.ntmps39
  go_wp2_with fail
  have hW := Blk.new (w.alloc (Obj.cells #[Value.int IntKind.u64 0, Value.int IntKind.u64 0, Value.int IntKind.u64 0, Value.int IntKind.u64 0] 69)) #[Value.int IntKind.u64 0, Value.int IntKind.u64 0] 82
  have hR : Blk ((w.alloc (Obj.cells #[Value.int IntKind.u64 0, Value.int IntKind.u64 0, Value.int IntKind.u64 0, Value.int IntKind.u64 0] 69)).alloc (Obj.cells #[Value.int IntKind.u64 0, Value.int IntKind.u64 0] 82)) w.heap.size #[Value.int IntKind.u64 0, Value.int IntKind.u64 0, Value.int IntKind.u64 0, Value.int IntKind.u64 0] 69 := (Blk.new w _ _).alloc _
  have hb0 : Below w.heap.size w ((w.alloc (Obj.cells #[Value.int IntKind.u64 0, Value.int IntKind.u64 0, Value.int IntKind.u64 0, Value.int IntKind.u64 0] 69)).alloc (Obj.cells #[Value.int IntKind.u64 0, Value.int IntKind.u64 0] 82)) := ((Below.refl _ _).alloc (Nat.le_refl _) _).alloc (by simp) _
  generalize ((w.alloc (Obj.cells #[Value.int IntKind.u64 0, Value.int IntKind.u64 0, Value.int IntKind.u64 0, Value.int IntKind.u64 0] 69)).alloc (Obj.cells #[Value.int IntKind.u64 0, Value.int IntKind.u64 0] 82)) = w1 at *
  simp at hW
  have H1 : Hid (Dg w1 (w.heap.size + 1) 0 0 ∧ Lies w1 (w.heap.size + 1) so n c s) := by
    refine ⟨⟨_, hW⟩, ?_⟩
    rcases HD.out with h | ⟨b, o, h1, h2, h3⟩
    · exact Or.inl h
    · exact Or.inr ⟨b, o, h1, fun h => by have := cell_lt (h3 0 h); simp at this; omega, h2, fun i hi => (hb0.cell (cell_lt (h3 i hi))).trans (h3 i hi)⟩
  refine (hashes_any s n hn w1 _ so c H1.out.1 H1.out.2).mono ?_
  rintro e w2 ⟨rfl, ho⟩
  have hr2 := hR.only ho (by simp)
  have H2 : Hid (Blk w2 w.heap.size #[Value.int IntKind.u64 0, Value.int IntKind.u64 0, Value.int IntKind.u64 0, Value.int IntKind.u64 0] 69 ∧ Below w.heap.size w w2) := ⟨hr2, hb0.trans (ho.below hb0.size (by simp))⟩
  have g0 : w2.cell? ⟨w.heap.size, 0, none⟩ = some (.int .u64 0) := hr2.cell rfl
  have g1 : w2.cell? ⟨w.heap.size, 1, none⟩ = some (.int .u64 0) := hr2.cell rfl
  have g2 : w2.cell? ⟨w.heap.size, 2, none⟩ = some (.int .u64 0) := hr2.cell rfl
  have g3 : w2.cell? ⟨w.heap.size, 3, none⟩ = some (.int .u64 0) := hr2.cell rfl
  have e0 := hr2.free 0
  have e1 := hr2.free 1
  have e2 := hr2.free 2
  have e3 := hr2.free 3
  clear hW hR hb0 ho hr2 H1
  go_wp2_with fail
  have s0 := (((H2.out.1.set 0 (.int .u64 (hashes s n 0))).set 1 (.int .u64 (hashes s n 1))).set 2 (.int .u64 (hashes s n 2))).set 3 (.int .u64 (hashes s n 3))
  have hbl := (((H2.out.2.setCell (p := ⟨w.heap.size, 0, none⟩) (Nat.le_refl _) (.int .u64 (hashes s n 0))).setCell (p := ⟨w.heap.size, 1, none⟩) (Nat.le_refl _) (.int .u64 (hashes s n 1))).setCell (p := ⟨w.heap.size, 2, none⟩) (Nat.le_refl _) (.int .u64 (hashes s n 2))).setCell (p := ⟨w.heap.size, 3, none⟩) (Nat.le_refl _) (.int .u64 (hashes s n 3))
  have d0 := s0.cell (i := 0) (v := .int .u64 (hashes s n 0)) (by simp)
  have d1 := s0.cell (i := 1) (v := .int .u64 (hashes s n 1)) (by simp)
  have d2 := s0.cell (i := 2) (v := .int .u64 (hashes s n 2)) (by simp)
  have d3 := s0.cell (i := 3) (v := .int .u64 (hashes s n 3)) (by simp)
  refine bodyPost_ret (v := .agg #[.int .u64 (hashes s n 0), .int .u64 (hashes s n 1), .int .u64 (hashes s n 2), .int .u64 (hashes s n 3)]) ?_ rfl ⟨rfl, hbl⟩
  simp [results, Try.results39, go_sem, d0, d1, d2, d3]
end Go.Proofs.Ytbkodehcjhpcmaa
