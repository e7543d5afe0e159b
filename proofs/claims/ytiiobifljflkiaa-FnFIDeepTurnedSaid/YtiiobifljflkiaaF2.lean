/- The table of the hash map in memory, and the search in it. -/
import Derived.Test.YtiiobifljflkiaaF1
namespace Go.Proofs.Ytiiobifljflkiaa
open Go.RowKit FI

/-- A row of values of one cell each. -/
def Rw (w : World) (b c : Nat) (g : Nat → Value) : Prop := ∃ (vs : Array Value) (T : TypeId), Blk w b vs T ∧ vs.size = c ∧ ∀ i, i < c → vs[i]? = some (g i)
section
variable {w w' : World} {b c : Nat} {g : Nat → Value}
theorem Rw.lt (h : Rw w b c g) : b < w.heap.size := by obtain ⟨_, _, h, _⟩ := h; exact h.lt
theorem Rw.cell (h : Rw w b c g) {i : Nat} (hi : i < c) : w.cell? ⟨b, i, none⟩ = some (g i) := by obtain ⟨_, _, h, _, h2⟩ := h; exact h.cell (h2 i hi)
theorem Rw.free (h : Rw w b c g) (i : Nat) : w.frozen? ⟨b, i, none⟩ = false := by obtain ⟨_, _, h, _⟩ := h; exact h.free i
theorem Rw.set (h : Rw w b c g) (i : Nat) (v : Value) : Rw (w.setCell ⟨b, i, none⟩ v) b c (fun j => if j = i then v else g j) := by
  obtain ⟨vs, T, h, h1, h2⟩ := h
  refine ⟨_, T, h.set i _, by simpa using h1, fun j hj => ?_⟩
  rw [Array.getElem?_setIfInBounds]
  by_cases e : i = j
  · subst e; simp [h1, hj]
  · rw [if_neg e, h2 j hj]
    show some (g j) = some (if j = i then v else g j)
    rw [if_neg (fun e' : j = i => e e'.symm)]
theorem Rw.other (h : Rw w b c g) {a : Addr} (ha : a.block ≠ b) (v : Value) : Rw (w.setCell a v) b c g := by obtain ⟨vs, T, h, r⟩ := h; exact ⟨vs, T, h.other ha v, r⟩
theorem Rw.alloc (h : Rw w b c g) (o : Obj) : Rw (w.alloc o) b c g := by obtain ⟨vs, T, h, r⟩ := h; exact ⟨vs, T, h.alloc o, r⟩
theorem Rw.drewN (h : Rw w b c g) (n : Nat) : Rw (w.drewN n) b c g := h
theorem Rw.only {M : List Nat} (h : Rw w b c g) (ho : Only M w w') (hb : b ∉ M) : Rw w' b c g := by obtain ⟨vs, T, h, r⟩ := h; exact ⟨vs, T, h.only ho hb, r⟩
theorem Rw.below {B : Nat} (h : Rw w b c g) (ho : Below B w w') (hb : b < B) : Rw w' b c g := by obtain ⟨vs, T, h, r⟩ := h; exact ⟨vs, T, h.below ho hb, r⟩
theorem Rw.congr {g' : Nat → Value} (h : Rw w b c g) (hg : ∀ i, i < c → g' i = g i) : Rw w b c g' := by
  obtain ⟨vs, T, h, h1, h2⟩ := h; exact ⟨vs, T, h, h1, fun i hi => by rw [hg i hi]; exact h2 i hi⟩
end
/-- A place of the table as Go holds it. -/
def pv : Option Nat → Value
  | none => .pointer none
  | some k => .pointer (some ⟨k, 0, none⟩)
/-- The table and its entries. -/
structure Tab (w : World) (b n : Nat) (T : Nat → Option Nat) (key val : Nat → Nat) : Prop where
  row : Rw w b n (fun i => pv (T i))
  pk : ∀ i k, i < n → T i = some k → ∃ T0, Blk w k #[.int .u64 (key k), .int .u64 (val k)] T0
  ap : ∀ i k, i < n → T i = some k → k ≠ b
  kl : ∀ i k, i < n → T i = some k → key k < 18446744073709551616
  vl : ∀ i k, i < n → T i = some k → val k < 18446744073709551616
def hmn (n k : Nat) : Nat := hsh k % n

theorem mask_and {x a : Nat} (hx : x < 18446744073709551616) (ha : a < 64) : bits BinOp.and IntKind.u64 (x : Int) ((2 ^ a - 1 : Nat) : Int) = ((x % 2 ^ a : Nat) : Int) := by
  rw [u64_and_nat _ _ hx (by have := pow64 a ha; omega), Nat.and_two_pow_sub_one_eq_mod]
/-- How many steps it is to z. -/
def stepsTo (n z i : Nat) : Nat := if i ≤ z then z - i else z + n - i
theorem stepsTo_lt {n z i : Nat} (hz : z < n) (hi : i < n) (hiz : i ≠ z) : stepsTo n z (pos n i 1) < stepsTo n z i := by
  have hp := pos_or n i 1
  unfold stepsTo
  by_cases h1 : pos n i 1 ≤ z
  · rw [if_pos h1]
    by_cases h2 : i ≤ z
    · rw [if_pos h2]; omega
    · rw [if_neg h2]; omega
  · rw [if_neg h1]
    by_cases h2 : i ≤ z
    · rw [if_pos h2]; omega
    · rw [if_neg h2]; omega
theorem some_of_pv {T : Option Nat} (h : T ≠ none) : ∃ k, T = some k := by cases T with
  | none => exact absurd rfl h
  | some k => exact ⟨k, rfl⟩

set_option maxRecDepth 100000 in
set_option maxHeartbeats 1000000 in
theorem find_any {w : World} {b n a : Nat} {T : Nat → Option Nat} {key val : Nat → Nat} (h : Tab w b n T key val) (k : Nat) (hk : k < 18446744073709551616) (hn : n = 2 ^ a) (ha : a ≤ 20) (hroom : ∃ x, x < n ∧ T x = none) :
    Calls Try.prog 21 #[.slice (some ⟨b, 0, none⟩) n n, .int .u64 k] w fun e w' => (∃ i : Nat, e = .returned (.int .u64 i) ∧ i < n ∧ Finds n key (hmn n) T k i) ∧ w = w' := by
  have H := Lib.hid h
  obtain ⟨z, hz, hTz⟩ := hroom
  have hn0 : 0 < n := by omega
  have hn2 : n ≤ 1048576 := by rw [hn]; exact Nat.pow_le_pow_right (n := 2) (by decide) ha
  obtain ⟨m, hm⟩ : ∃ m, m = n - 1 := ⟨_, rfl⟩
  have hm1 : (n : Int) - 1 = (m : Int) := by omega
  have HMask : Hid (∀ x : Nat, x < 18446744073709551616 → bits BinOp.and IntKind.u64 (x : Int) (m : Int) = ((x % n : Nat) : Int)) := Lib.hid (fun x hx => by rw [hm, hn]; exact mask_and hx (by omega))
  obtain ⟨i0, hi0⟩ : ∃ i, i = hsh k % n := ⟨_, rfl⟩
  have hi0n : i0 < n := by rw [hi0]; exact Nat.mod_lt _ hn0
  have HI0 : Hid (hmn n k = i0) := Lib.hid hi0.symm
  have HE0 : Hid (bits BinOp.and IntKind.u64 (hsh k : Int) (m : Int) = (i0 : Int)) := Lib.hid (by rw [HMask.out _ (hsh_lt hk), hi0])
  have HTz := Lib.hid hTz
  clear h hn hm hi0 hTz
  go_enter Try.func21, Try.ntmps21
  go_wp2_with fail
  refine (hash_any k w hk).mono ?_; rintro e w' ⟨rfl, rfl⟩
  go_wp2_with fail
  rw [HE0.out]
  go_loop [6] (fun iv => ∃ j i : Nat, j < n ∧ i < n ∧ iv = .int .u64 i ∧ Hid (i = pos n i0 j ∧ ∀ j', j' < j → ∃ b, T (pos n i0 j') = some b ∧ key b ≠ k)) (fun iv => stepsTo n z (intOf iv).toNat)
  case atStart => exact ⟨0, i0, hn0, hi0n, rfl, (pos_zero hi0n).symm, fun j' h => absurd h (by omega)⟩
  case round =>
    obtain ⟨j, i, hj, hi, rfl, hR⟩ := hrel
    have HR : Hid (i = pos n i0 j ∧ ∀ j', j' < j → ∃ b, T (pos n i0 j') = some b ∧ key b ≠ k) := hR
    clear hR
    have c1 := H.out.row.cell hi
    cases hT : T i with
    | none =>
      rw [hT] at c1
      have HT := Lib.hid hT
      clear hT
      simp only [pv] at c1
      go_wp2_with fail
      go_ret
      exact ⟨⟨i, rfl, hi, j, hj, by rw [HI0.out]; exact HR.out.1, Or.inl HT.out, by rw [HI0.out]; exact HR.out.2⟩, rfl⟩
    | some q =>
      rw [hT] at c1
      obtain ⟨T0, hb⟩ := H.out.pk i q hi hT
      have c2 : w.cell? ⟨q, 0, none⟩ = some (.int .u64 (key q)) := hb.cell rfl
      have HT := Lib.hid hT
      clear hT hb
      simp only [pv] at c1
      by_cases hq : key q = k
      · have hqb : ((key q : Int) != (k : Int)) = false := by rw [hq]; simp
        have HQ := Lib.hid hq
        clear hq
        go_wp2_with fail
        go_ret
        exact ⟨⟨i, rfl, hi, j, hj, by rw [HI0.out]; exact HR.out.1, Or.inr ⟨q, HT.out, HQ.out⟩, by rw [HI0.out]; exact HR.out.2⟩, rfl⟩
      · have hqb : ((key q : Int) != (k : Int)) = true := by simp; omega
        have HQ := Lib.hid hq
        clear hq
        have HE : Hid (bits BinOp.and IntKind.u64 ((i : Int) + 1) (m : Int) = (pos n i 1 : Int)) := Lib.hid (by
          rw [show (i : Int) + 1 = ((i + 1 : Nat) : Int) by omega, HMask.out _ (by omega), pos_mask hi (by omega)])
        have hiz : i ≠ z := fun e => by have h1 := HT.out; rw [e, HTz.out] at h1; cases h1
        have hj1 : j + 1 < n := by
          obtain ⟨jz, h1, h2⟩ := pos_dist hi0n hz
          rcases Nat.lt_or_ge j jz with h3 | h3
          · omega
          · exfalso
            rcases Nat.eq_or_lt_of_le h3 with h4 | h4
            · rw [h4] at h2; rw [← HR.out.1] at h2; exact hiz h2.symm
            · obtain ⟨b', h5, _⟩ := HR.out.2 jz h4
              rw [← h2, HTz.out] at h5; cases h5
        have hpl := pos_lt hi (show 1 ≤ n by omega)
        go_wp2_with fail
        rw [HE.out]
        go_round
        case rel =>
          refine ⟨j + 1, pos n i 1, hj1, hpl, rfl, ?_, fun j' h1 => ?_⟩
          · rw [HR.out.1, pos_add hi0n (by omega)]
          · rcases Nat.eq_or_lt_of_le (Nat.le_of_lt_succ h1) with h2 | h2
            · rw [h2, ← HR.out.1]; exact ⟨q, HT.out, HQ.out⟩
            · exact HR.out.2 j' h2
        case measure =>
          show stepsTo n z (pos n i 1) < stepsTo n z i
          exact stepsTo_lt hz hi hiz
end Go.Proofs.Ytiiobifljflkiaa
