/- Plain data of a filter, and filters made of it. -/
import Derived.Test.YtbkodehcjhpcmaaL7
namespace Go.Proofs.Ytbkodehcjhpcmaa
open Go.RowKit

/-- A slice of so many words. -/
def Wds (w : World) (sl : Value) (n : Nat) (f : Nat → Nat) : Prop := ∃ b o c, sl = .slice (some ⟨b, o, none⟩) n c ∧ n ≤ c ∧ ∀ i, i < n → w.cell? ⟨b, o + i, none⟩ = some (.int .u64 (f i : Nat))
theorem Wds.same {w w' : World} {sl : Value} {n : Nat} {f : Nat → Nat} (h : Wds w sl n f) (hb : Below w.heap.size w w') : Wds w' sl n f := by
  obtain ⟨b, o, c, h1, h2, h3⟩ := h
  exact ⟨b, o, c, h1, h2, fun i hi => (hb.cell (cell_lt (h3 i hi))).trans (h3 i hi)⟩
def wvals (n : Nat) (f : Nat → Nat) : List Value := (List.range n).map fun i => .int .u64 (f i : Nat)
theorem wvals_len (n : Nat) (f : Nat → Nat) : (wvals n f).length = n := by simp [wvals]
theorem wvals_at {n i : Nat} (f : Nat → Nat) (h : i < n) : (wvals n f)[i]? = some (.int .u64 (f i : Nat)) := by simp [wvals, h]
theorem info25 : (Try.prog.info? 25).map (fun i => (i.zero, i.size, i.bytes)) = some (some (.int .u64 0), 1, 8) := by kernel_rfl
theorem info_parts2 {P : Program} {t : TypeId} {z : Value} {s b : Nat} (h : (P.info? t).map (fun i => (i.zero, i.size, i.bytes)) = some (some z, s, b)) : ∃ i, P.info? t = some i ∧ i.zero = some z ∧ i.size = s ∧ i.bytes = b := by
  cases hi : P.info? t with
  | none => rw [hi] at h; simp at h
  | some i => rw [hi] at h; simp at h; exact ⟨i, rfl, h.1, h.2.1, h.2.2⟩
/-- A row of words in a new block. -/
def Row (w : World) (b n : Nat) (f : Nat → Nat) : Prop := ∃ cur T, Blk w b cur T ∧ ∀ i, i < n → cur[i]? = some (.int .u64 (f i : Nat))
theorem Row.wds {w : World} {b n c : Nat} {f : Nat → Nat} (h : Row w b n f) (hc : n ≤ c) : Wds w (.slice (some ⟨b, 0, none⟩) n c) n f := by
  obtain ⟨cur, T, h1, h2⟩ := h
  exact ⟨b, 0, c, rfl, hc, fun i hi => by rw [Nat.zero_add]; exact h1.cell (h2 i hi)⟩
theorem Row.lt {w : World} {b n : Nat} {f : Nat → Nat} (h : Row w b n f) : b < w.heap.size := by obtain ⟨cur, T, h1, h2⟩ := h; exact h1.lt
theorem Row.same {w w' : World} {b n : Nat} {f : Nat → Nat} (h : Row w b n f) (hb : Below w.heap.size w w') : Row w' b n f := by
  obtain ⟨cur, T, h1, h2⟩ := h
  exact ⟨cur, T, (hb.block b h1.lt).trans h1, h2⟩

set_option maxRecDepth 100000 in
set_option maxHeartbeats 1000000 in
theorem words_any {w : World} {sl : Value} {n : Nat} {f : Nat → Nat} (h : Wds w sl n f) (h0 : 0 < n) (hn : n ≤ 1000) :
    Calls Try.prog 21 #[sl] w fun e w' => ∃ b c, e = .returned (.slice (some ⟨b, 0, none⟩) n c) ∧ w.heap.size ≤ b ∧ n ≤ c ∧ Row w' b n f ∧ Below w.heap.size w w' := by
  obtain ⟨i0, hi, hz0, hz1, hz2⟩ := info_parts2 info25
  have HI : Hid (Try.prog.info? 25 = some i0 ∧ i0.zero = some (.int .u64 0) ∧ i0.size = 1 ∧ i0.bytes = 8) := ⟨hi, hz0, hz1, hz2⟩
  clear hi hz0 hz1 hz2
  obtain ⟨b, o, c, rfl, hc, hw⟩ := h
  have HW := Lib.hid hw
  clear hw
  go_enter Try.func21, Try.ntmps21
  go_wp2_with (at_builtin; go_must (refine wpList_append_own_at _ rfl _ _ 22 rfl w.heap.size 25 i0 (.int .u64 0) 1 8 Try.underlying22 HI.out.1 HI.out.2.1 HI.out.2.2.1 HI.out.2.2.2 rfl (by decide) _ 0 [] rfl (World.ownsRow_nil _ _ _ _) ⟨b, o, none⟩ n c (wvals n f) rfl (by rw [wvals_len, Nat.mul_one]) ?c1 ?c2 ?c3 ?c4 ?c5 ?_))
  case c1 =>
    intro j u hj
    have hjn : j < n := by
      have := (List.getElem?_eq_some_iff.1 hj).1
      rwa [wvals_len] at this
    rw [wvals_at f hjn] at hj
    have hx := HW.out j hjn
    simp only [Option.some.injEq] at hj
    subst hj
    cases j with
    | zero => simpa [Addr.add] using hx
    | succ j => simpa [Addr.add] using hx
  case c2 => intro u hu; simp only [wvals, List.mem_map] at hu; obtain ⟨i, _, rfl⟩ := hu; rfl
  case c3 => unfold maxLen; omega
  case c4 => omega
  case c5 => exact Nat.le_refl _
  intro v' w3 hown' hgrow _ hblk
  have hbl : Below w.heap.size w w3 := (Below.refl _ _).grown hgrow (Nat.le_refl _) (fun k hk => by simp [Value.ownBlock] at hk)
  obtain ⟨hl, h1 | ⟨g, cap, cur, hv, hg, hh, hnn, hmm, hs, ht⟩⟩ := hown'
  · omega
  subst hv
  have hrow : Row w3 g n f := ⟨cur, _, hh, fun i hi => by
    have h3 : (cur.toList.take (n * 1))[i]? = (wvals n f)[i]? := by rw [ht]
    rw [List.getElem?_take, if_pos (by omega), Array.getElem?_toList, wvals_at f hi] at h3
    exact h3⟩
  clear hl hh ht hs hmm hblk hgrow
  go_wp2_with fail
  go_ret
  exact ⟨g, cap, rfl, hg, hnn, hrow, hbl⟩

set_option maxRecDepth 100000 in
theorem bfrom_any {w : World} {b n c : Nat} {f : Nat → Nat} (h : Row w b n f) (hc : n ≤ c) (hn : n ≤ 1000) (hs : ∀ i, f i < 18446744073709551616) :
    Calls Try.prog 33 #[.slice (some ⟨b, 0, none⟩) n c] w fun e w' => e = .returned (.pointer (some ⟨w.heap.size, 0, none⟩)) ∧ RS w' w.heap.size b n c f ∧ Below w.heap.size w w' := by
  have HN := Lib.hid (needed_any n w hn)
  have H := Lib.hid h
  have HSm := Lib.hid hs
  obtain ⟨l, hl⟩ : ∃ l, l = 64 * n := ⟨_, rfl⟩
  rw [← hl] at HN
  have hl1 : (n : Int) * 64 = (l : Int) := by omega
  have hl2 : l ≤ 64000 := by omega
  have HLE := Lib.hid hl
  clear h hs hl
  have hi : Calls Try.prog 48 #[.int .u64 l, .slice (some ⟨b, 0, none⟩) n c] w fun e w' => e = .returned (.pointer (some ⟨w.heap.size, 0, none⟩)) ∧ RS w' w.heap.size b n c f ∧ Below w.heap.size w w' := by
    clear hl1
    go_enter Try.func48, Try.ntmps48
    go_wp2_with fail
    refine HN.out.mono ?_; rintro e w' ⟨rfl, rfl⟩
    go_wp2_with fail
    go_ret
    have hb0 : Below w.heap.size w (w.alloc (.cells #[.int .u64 l, .slice (some ⟨b, 0, none⟩) n c] 77)) := (Below.refl _ _).alloc (Nat.le_refl _) _
    exact ⟨rfl, ⟨⟨_, by rw [← HLE.out]; exact Blk.new w _ _⟩, H.out.same hb0, hc, fun e => by have := H.out.lt; omega, HSm.out⟩, hb0⟩
  have HIn := Lib.hid hi
  clear hi
  go_enter Try.func33, Try.ntmps33
  go_wp2_with fail
  refine HIn.out.mono ?_; rintro e w' ⟨rfl, hr, hb⟩
  have HR : Hid (RS w' w.heap.size b n c f ∧ Below w.heap.size w w') := ⟨hr, hb⟩
  clear hr hb
  go_wp2_with fail
  go_ret
  exact ⟨rfl, HR.out⟩

set_option maxRecDepth 100000 in
theorem fromM_any {w : World} {B b n c m k : Nat} {f : Nat → Nat} (h : Row w b n f) (hc : n ≤ c) (hn : n ≤ 1000) (hs : ∀ i, f i < 18446744073709551616) (hB : B ≤ b) :
    Calls Try.prog 22 #[.slice (some ⟨b, 0, none⟩) n c, .int .u64 m, .int .u64 k] w fun e w' => ∃ q p, e = .returned (.pointer (some ⟨q, 0, none⟩)) ∧ BF w' B q p b n c m k f ∧ Below w.heap.size w w' := by
  have HF := Lib.hid (bfrom_any h hc hn hs)
  have hlt := h.lt
  clear h hs
  go_enter Try.func22, Try.ntmps22
  go_wp2_with fail
  refine HF.out.mono ?_; rintro e w1 ⟨rfl, hr, hb⟩
  have HR : Hid (RS w1 w.heap.size b n c f ∧ Below w.heap.size w w1) := ⟨hr, hb⟩
  clear hr hb
  go_wp2_with fail
  go_ret
  have hb0 : Below w1.heap.size w1 (w1.alloc (.cells #[.int .u64 m, .int .u64 k, .pointer (some ⟨w.heap.size, 0, none⟩)] 67)) := (Below.refl _ _).alloc (Nat.le_refl _) _
  have h1 := HR.out.1.plt
  have h2 := HR.out.1.blt
  exact ⟨_, _, rfl, ⟨⟨_, Blk.new w1 _ _⟩, HR.out.1.below hb0, by omega, by omega, by omega, by omega, hB⟩, HR.out.2.trans (hb0.mono HR.out.2.size)⟩
end Go.Proofs.Ytbkodehcjhpcmaa
