/- Numbers as values of an interface: keys of maps; impl.anys. -/
import Derived.Test.YtjijgkjmndpngaaMapOps
import Derived.Test.YtjijgkjmndpngaaListKit
import Derived.Test.YtjijgkjmndpngaaRows
import Derived.WalkSpells
import Derived.WalkLawsBesides
import Derived.Recover
namespace Go.Proofs.Ytjijgkjmndpngaa
open Go.RowKit

def ik (x : Int) : Value := .iface 3 (.int .i64 x)
theorem ik_inj (x y : Int) (h : ik x = ik y) : x = y := by
  simp [ik] at h; exact h
theorem ikind : KeyKind Try.prog 20 ik where
  iface := ⟨_, Try.underlying20⟩
  eq w a b := by
    cases hi : Try.prog.info? 3 with
    | none => exact absurd hi (by decide +kernel)
    | some i =>
      have hcc : (Try.prog.info? 3).map (·.comparable) = some true := by kernel_rfl
      rw [hi] at hcc
      have hc : i.comparable = true := by simpa using hcc
      have h : ∀ d : Nat, (Op.equalIn (d + 2) 20 (.iface 3 (.int .i64 a)) (.iface 3 (.int .i64 b))).run Try.prog w = .ok (a == b) w := fun d => by
        simp [Op.equalIn, run_underlying Try.underlying20, run_underlying Try.underlying3, typeInfo, hi, hc]
      have h2 : (Op.equal 20 (ik a) (ik b)).run Try.prog w = .ok (a == b) w := h 9998
      rw [h2]
      congr 1
  chk w em a := by
    cases hi : Try.prog.info? 3 with
    | none => exact absurd hi (by decide +kernel)
    | some i =>
      have hcc : (Try.prog.info? 3).map (·.comparable) = some true := by kernel_rfl
      rw [hi] at hcc
      have hc : i.comparable = true := by simpa using hcc
      have h : ∀ d : Nat, (Instr.checkKey em (d + 2) 20 (.iface 3 (.int .i64 a))).run Try.prog w = .ok () w := fun d => by
        simp [Instr.checkKey, run_underlying Try.underlying20, run_underlying Try.underlying3, typeInfo, hi, hc]
      exact h 9998
  stay a := by simp [ik, Instr.sameBits]

/-- A list of ints in memory; of ints as values of an interface. -/
abbrev Ints (w : World) (sl : Value) (xs : List Int) : Prop := Vals w sl (xs.map (Value.int .i64))
abbrev Anys (w : World) (sl : Value) (xs : List Int) : Prop := Vals w sl (xs.map ik)
theorem info20 : (Try.prog.info? 20).map (fun i => (i.zero, i.size, i.bytes)) = some (some .nilIface, 1, 16) := by kernel_rfl
theorem info3 : (Try.prog.info? 3).map (fun i => (i.zero, i.size, i.bytes)) = some (some (.int .i64 0), 1, 8) := by kernel_rfl

set_option maxRecDepth 100000 in
set_option maxHeartbeats 1000000 in
theorem anys_any {w : World} {sl : Value} {xs : List Int} (h : Ints w sl xs) (hl : xs.length ≤ 1000) :
    Calls Try.prog 10 #[sl] w fun e w' => ∃ v, e = .returned v ∧ Anys w' v xs ∧ (∀ a n c, v = .slice (some a) n c → w.heap.size ≤ a.block) ∧ Below w.heap.size w w' := by
  obtain ⟨i0, hi, hz0, hz1, hz2⟩ := info_at info20
  have HI : Hid (Try.prog.info? 20 = some i0 ∧ i0.zero = some .nilIface ∧ i0.size = 1 ∧ i0.bytes = 16) := ⟨hi, hz0, hz1, hz2⟩
  clear hi hz0 hz1 hz2
  have H := Lib.hid h
  obtain ⟨so, cp, rfl⟩ := h.shape
  clear h
  obtain ⟨n, hn⟩ : ∃ n, n = xs.length := ⟨_, rfl⟩
  have HN := Lib.hid hn
  rw [List.length_map, ← hn]
  have hl2 : n ≤ 1000 := by omega
  clear hn hl
  go_enter Try.func10, Try.ntmps10
  go_wp2_with fail
  go_loopw [3, 5, 8] (fun ov _ kv wr => ∃ k : Nat, k ≤ n ∧ kv = .int .i64 k ∧ Hid (wr.ownsRow w.heap.size 20 1 ov k ((xs.take k).map ik) ∧ Below w.heap.size w wr)) (fun _ _ kv _ => n - (intOf kv).toNat)
  case atStart => exact ⟨0, by omega, rfl, World.ownsRow_nil _ _ _ _, Below.refl _ _⟩
  case round =>
    obtain ⟨k, hk, rfl, hR⟩ := hrel
    have HR : Hid (wr.ownsRow w.heap.size 20 1 _ k ((xs.take k).map ik) ∧ Below w.heap.size w wr) := hR
    clear hR
    obtain ⟨so2, cp2, rfl⟩ := own_shape HR.out.1
    by_cases hkn : k < n
    · obtain ⟨x, hx⟩ : ∃ x, xs[k]? = some x := ⟨xs[k]'(by rw [← HN.out]; exact hkn), List.getElem?_eq_getElem _⟩
      have HX := Lib.hid hx
      rcases H.out with ⟨_, h2⟩ | ⟨b, o, c, h1, h2, h3⟩
      · simp at h2; rw [HN.out, h2] at hkn; exact absurd hkn (by simp)
      · simp only [Value.slice.injEq] at h1
        obtain ⟨rfl, _, rfl⟩ := h1
        have h4 := h3 k (by rw [List.length_map, ← HN.out]; exact hkn)
        rw [List.getElem?_map, hx] at h4
        have c0 : wr.cell? ⟨b, o + k, none⟩ = some (.int .i64 x) := (HR.out.2.cell (cell_lt' h4)).trans h4
        clear h2 h3 h4 hx
        go_wp2_with (at_builtin; go_must (refine wpList_append_own_at _ rfl _ _ 41 rfl w.heap.size 20 i0 .nilIface 1 16 Try.underlying41 HI.out.1 HI.out.2.1 HI.out.2.2.1 HI.out.2.2.2 rfl (by decide) _ _ _ rfl (HR.out.1.alloc _) ⟨wr.heap.size, 0, none⟩ 1 1 [ik x] rfl rfl ?c1 ?c2 ?c3 ?c4 ?c5 ?_))
        case c1 => exact one_cell
        case c2 => intro u hu; simp at hu; subst hu; rfl
        case c3 => unfold maxLen; omega
        case c4 => omega
        case c5 => have := HR.out.2.size; simp; omega
        intro v' w3 hown' hgrow _ hblk
        obtain ⟨so3, cp3, rfl⟩ := own_shape hown'
        have HQ : Hid (w3.ownsRow w.heap.size 20 1 (.slice so3 (k + 1) cp3) (k + 1) ((xs.take (k + 1)).map ik) ∧ Below w.heap.size w w3) := by
          refine ⟨?_, HR.out.2.trans (own_grown HR.out.1 hgrow HR.out.2.size)⟩
          rw [List.take_add_one, HX.out, List.map_append, List.map_take]
          exact hown'
        clear hown' hgrow hblk c0
        go_wp2_with fail
        go_roundw
        case rel => exact ⟨k + 1, by omega, by go_num, HQ.out⟩
        case measure => simp [intOf]; omega
    · have hkx : k = n := by omega
      have HK := Lib.hid hkx
      clear hkx
      go_wp2_with fail
      go_ret
      refine ⟨_, rfl, ?_, own_low HR.out.1, HR.out.2⟩
      have h1 := Vals.of_own HR.out.1
      have h2 : xs.take k = xs := by rw [HK.out, HN.out, List.take_length]
      rw [h2] at h1
      exact h1
end Go.Proofs.Ytjijgkjmndpngaa
