/- A set in memory: made, added to, removed from, asked. -/
import Derived.Test.YtjijgkjmndpngaaS1
namespace Go.Proofs.Ytjijgkjmndpngaa
open Go.RowKit

/-- A set in memory. -/
structure SetAt (w : World) (p b : Nat) (L : List (Int × Value)) (fl : Value) : Prop where
  blk : Blk w p #[.map (some b), fl] 50
  map : IMap w ik b L
  ne : p ≠ b
  unit : ∀ q ∈ L, q.2 = .agg #[]
def insL (L : List (Int × Value)) (xs : List Int) : List (Int × Value) := xs.foldl (fun L x => mput L x (.agg #[])) L
def remL (L : List (Int × Value)) (xs : List Int) : List (Int × Value) := xs.foldl (fun L x => mdel L x) L
theorem insL_snoc (L : List (Int × Value)) (xs : List Int) (x : Int) : insL L (xs ++ [x]) = mput (insL L xs) x (.agg #[]) := by simp [insL]
theorem remL_snoc (L : List (Int × Value)) (xs : List Int) (x : Int) : remL L (xs ++ [x]) = mdel (remL L xs) x := by simp [remL]
theorem take_snoc {xs : List Int} {k : Nat} {x : Int} (h : xs[k]? = some x) : xs.take (k + 1) = xs.take k ++ [x] := by rw [List.take_add_one, h]; rfl
theorem unit_mput {L : List (Int × Value)} {x : Int} : (∀ q ∈ L, q.2 = .agg #[]) → ∀ q ∈ mput L x (.agg #[]), q.2 = .agg #[] := by
  induction L with
  | nil => intro _ q hq; simp [mput] at hq; rw [hq]
  | cons p L ih =>
    intro h q hq
    simp only [mput] at hq
    split at hq
    · rcases List.mem_cons.1 hq with rfl | hq
      · rfl
      · exact h q (by simp [hq])
    · rcases List.mem_cons.1 hq with rfl | hq
      · exact h _ (by simp)
      · exact ih (fun r hr => h r (by simp [hr])) q hq
theorem unit_mdel {L : List (Int × Value)} {x : Int} (h : ∀ q ∈ L, q.2 = .agg #[]) : ∀ q ∈ mdel L x, q.2 = .agg #[] := fun q hq => h q (List.mem_filter.1 hq).1
theorem unit_insL (xs : List Int) : ∀ {L : List (Int × Value)}, (∀ q ∈ L, q.2 = .agg #[]) → ∀ q ∈ insL L xs, q.2 = .agg #[] := by
  induction xs with
  | nil => intro L h; exact h
  | cons x xs ih => intro L h; exact ih (unit_mput h)
theorem look_unit {L : List (Int × Value)} (h : ∀ q ∈ L, q.2 = .agg #[]) (k : Int) : (mlook L k).getD (.agg #[]) = .agg #[] := by
  induction L with
  | nil => rfl
  | cons p L ih =>
    simp only [mlook]
    split
    · exact h p (by simp)
    · exact ih fun q hq => h q (by simp [hq])
section
variable {w w' : World} {p b : Nat} {L : List (Int × Value)} {fl : Value}
theorem SetAt.c0 (h : SetAt w p b L fl) : w.cell? ⟨p, 0, none⟩ = some (.map (some b)) := h.blk.cell rfl
theorem SetAt.c1 (h : SetAt w p b L fl) : w.cell? ⟨p, 1, none⟩ = some fl := h.blk.cell rfl
theorem SetAt.plt (h : SetAt w p b L fl) : p < w.heap.size := h.blk.lt
theorem SetAt.blt (h : SetAt w p b L fl) : b < w.heap.size := h.map.lt
theorem SetAt.only {M : List Nat} (h : SetAt w p b L fl) (ho : Only M w w') (hp : p ∉ M) (hb : b ∉ M) : SetAt w' p b L fl := ⟨h.blk.only ho hp, h.map.only ho hb, h.ne, h.unit⟩
theorem SetAt.same (h : SetAt w p b L fl) (ho : Below w.heap.size w w') : SetAt w' p b L fl := h.only (M := []) (Only.of_below ho) (by simp) (by simp)
end
theorem zero_unit (w : World) : (zeroValue 51).run Try.prog w = .ok (.agg #[]) w := by kernel_rfl


set_option maxRecDepth 100000 in
set_option maxHeartbeats 1000000 in
theorem new_any {w : World} {sl : Value} {xs : List Int} (h : Anys w sl xs) (hl : xs.length ≤ 1000) :
    Calls Try.prog 9 #[sl] w fun e w' => e = .returned (.pointer (some ⟨w.heap.size + 1, 0, none⟩)) ∧ SetAt w' (w.heap.size + 1) w.heap.size (insL [] xs) (.slice none 0 0) ∧ Below w.heap.size w w' := by
  have H := Lib.hid h
  obtain ⟨so, cp, rfl⟩ := h.shape
  clear h
  obtain ⟨n, hn⟩ : ∃ n, n = xs.length := ⟨_, rfl⟩
  have HN := Lib.hid hn
  rw [List.length_map, ← hn]
  have hl2 : n ≤ 1000 := by omega
  clear hn hl
  have hmk : ∀ w : World, (Instr.makeMap 48 (some (.int .i64 10))).run Try.prog w = .ok (.map (some w.heap.size)) (w.alloc (.map #[] 0)) := fun _ => by simp [Instr.makeMap, asInt, asIntOf]
  have HS : Hid (SetAt ((w.alloc (.map #[] 0)).alloc (.cells #[.map (some w.heap.size), .slice none 0 0] 50)) (w.heap.size + 1) w.heap.size [] (.slice none 0 0) ∧ Below w.heap.size w ((w.alloc (.map #[] 0)).alloc (.cells #[.map (some w.heap.size), .slice none 0 0] 50))) := by
    refine ⟨⟨?_, (IMap.new w ik).same ((Below.refl _ _).alloc (Nat.le_refl _) _), by omega, by simp⟩, ((Below.refl _ _).alloc (Nat.le_refl _) _).alloc (by simp) _⟩
    have := Blk.new (w.alloc (.map #[] 0)) #[.map (some w.heap.size), .slice none 0 0] 50
    simp at this
    exact this
  go_enter Try.func9, Try.ntmps9
  go_wp2_with fail
  go_loopw [5, 11] (fun _ kv wr => ∃ k : Nat, k ≤ n ∧ kv = .int .i64 k ∧ Hid (SetAt wr (w.heap.size + 1) w.heap.size (insL [] (xs.take k)) (.slice none 0 0) ∧ Below w.heap.size w wr)) (fun _ kv _ => n - (intOf kv).toNat)
  case atStart => exact ⟨0, by omega, rfl, by simpa [insL] using HS.out.1, HS.out.2⟩
  case round =>
    obtain ⟨k, hk, rfl, hR⟩ := hrel
    have HR : Hid (SetAt wr (w.heap.size + 1) w.heap.size (insL [] (xs.take k)) (.slice none 0 0) ∧ Below w.heap.size w wr) := hR
    clear hR
    by_cases hkn : k < n
    · obtain ⟨x, hx⟩ : ∃ x, xs[k]? = some x := ⟨xs[k]'(by rw [← HN.out]; exact hkn), List.getElem?_eq_getElem _⟩
      have HX := Lib.hid hx
      rcases H.out with ⟨_, h2⟩ | ⟨bx, o, c, h1, h2, h3⟩
      · simp at h2; rw [HN.out, h2] at hkn; exact absurd hkn (by simp)
      · simp only [Value.slice.injEq] at h1
        obtain ⟨rfl, _, rfl⟩ := h1
        have h4 := h3 k (by rw [List.length_map, ← HN.out]; exact hkn)
        rw [List.getElem?_map, hx] at h4
        have hlt := cell_lt' h4
        have c0 : wr.cell? ⟨bx, o + k, none⟩ = some (.iface 3 (.int .i64 x)) := (HR.out.2.cell hlt).trans h4
        have c1 := HR.out.1.c0
        clear h2 h3 h4 hx hlt
        go_wp2_with (at_mapUpdate; go_must (refine wpList_mput _ rfl _ _ _ 48 rfl ikind Try.underlying48 _ _ rfl HR.out.1.map x rfl ?_))
        intro w3 hm ho
        have HQ : Hid (SetAt w3 (w.heap.size + 1) w.heap.size (insL [] (xs.take (k + 1))) (.slice none 0 0) ∧ Below w.heap.size w w3) := by
          rw [take_snoc HX.out, insL_snoc]
          refine ⟨⟨HR.out.1.blk.only ho (by simp; try exact HR.out.1.ne), hm, HR.out.1.ne, unit_mput HR.out.1.unit⟩, ?_⟩
          exact HR.out.2.trans (ho.below HR.out.2.size (by simp))
        clear hm ho c0 c1
        go_wp2_with fail
        go_roundw
        case rel => exact ⟨k + 1, by omega, by go_num, HQ.out⟩
        case measure => simp [intOf]; omega
    · have hkx : k = n := by omega
      have HK := Lib.hid hkx
      clear hkx
      have HQ : Hid (SetAt wr (w.heap.size + 1) w.heap.size (insL [] xs) (.slice none 0 0) ∧ Below w.heap.size w wr) := by
        have h1 := HR.out
        have h2 : xs.take k = xs := by rw [HK.out, HN.out, List.take_length]
        rw [h2] at h1
        exact h1
      clear HR
      have c1 := HQ.out.1.c1
      have c2 := HQ.out.1.blk.free 1
      by_cases h0 : 0 < n
      · go_wp2_with fail
        go_ret
        refine ⟨rfl, ⟨HQ.out.1.blk.set 1 _, HQ.out.1.map.only ((Only.refl [w.heap.size + 1] wr).setCell (Or.inl (by simp)) _) (by simp), HQ.out.1.ne, HQ.out.1.unit⟩, HQ.out.2.setCell (by simp) _⟩
      · have h00 : n = 0 := by omega
        subst h00
        go_wp2_with fail
        go_ret
        exact ⟨rfl, HQ.out.1, HQ.out.2⟩

set_option maxRecDepth 100000 in
set_option maxHeartbeats 1000000 in
theorem add_any {w : World} {p b : Nat} {L : List (Int × Value)} {fl : Value} (hs : SetAt w p b L fl) {sl : Value} {xs : List Int} (h : Anys w sl xs) (hl : xs.length ≤ 1000) (hx : ∀ bx o c, sl = .slice (some ⟨bx, o, none⟩) xs.length c → bx ≠ p ∧ bx ≠ b) :
    Calls Try.prog 11 #[.pointer (some ⟨p, 0, none⟩), sl] w fun e w' => e = .returned (.tuple #[]) ∧ SetAt w' p b (insL L xs) (.slice none 0 0) ∧ Only [p, b] w w' := by
  have c0 := hs.c0
  have c1 := hs.c1
  have c2 := hs.blk.free 1
  have HS : Hid (SetAt (w.setCell ⟨p, 1, none⟩ (.slice none 0 0)) p b L (.slice none 0 0) ∧ Only [p, b] w (w.setCell ⟨p, 1, none⟩ (.slice none 0 0))) := by
    have ho : Only [p] w (w.setCell ⟨p, 1, none⟩ (.slice none 0 0)) := (Only.refl [p] w).setCell (Or.inl (by simp)) _
    exact ⟨⟨hs.blk.set 1 _, hs.map.only ho (by simp; exact hs.ne.symm), hs.ne, hs.unit⟩, ho.mono (by intro k _ hk; simp at hk; simp [hk])⟩
  have HXX := Lib.hid hx
  clear hs hx
  have H := Lib.hid h
  obtain ⟨so, cp, rfl⟩ := h.shape
  clear h
  obtain ⟨n, hn⟩ : ∃ n, n = xs.length := ⟨_, rfl⟩
  have HN := Lib.hid hn
  rw [List.length_map, ← hn]
  have hl2 : n ≤ 1000 := by omega
  clear hn hl
  go_enter Try.func11, Try.ntmps11
  go_wp2_with fail
  clear c0 c1 c2
  go_loopw [5, 11] (fun _ kv wr => ∃ k : Nat, k ≤ n ∧ kv = .int .i64 k ∧ Hid (SetAt wr p b (insL L (xs.take k)) (.slice none 0 0) ∧ Only [p, b] w wr)) (fun _ kv _ => n - (intOf kv).toNat)
  case atStart => exact ⟨0, by omega, rfl, by simpa [insL] using HS.out.1, HS.out.2⟩
  case round =>
    obtain ⟨k, hk, rfl, hR⟩ := hrel
    have HR : Hid (SetAt wr p b (insL L (xs.take k)) (.slice none 0 0) ∧ Only [p, b] w wr) := hR
    clear hR
    by_cases hkn : k < n
    · obtain ⟨x, hx⟩ : ∃ x, xs[k]? = some x := ⟨xs[k]'(by rw [← HN.out]; exact hkn), List.getElem?_eq_getElem _⟩
      have HX := Lib.hid hx
      rcases H.out with ⟨_, h2⟩ | ⟨bx, o, c, h1, h2, h3⟩
      · simp at h2; rw [HN.out, h2] at hkn; exact absurd hkn (by simp)
      · simp only [Value.slice.injEq] at h1
        obtain ⟨rfl, _, rfl⟩ := h1
        have h4 := h3 k (by rw [List.length_map, ← HN.out]; exact hkn)
        rw [List.getElem?_map, hx] at h4
        have hlt := cell_lt' h4
        have c0 : wr.cell? ⟨bx, o + k, none⟩ = some (.iface 3 (.int .i64 x)) := (show wr.cell? _ = w.cell? _ from World.cell?_of_block (HR.out.2.block bx hlt (by have := HXX.out bx o _ (by rw [List.length_map]); simp; exact this))).trans h4
        have c1 := HR.out.1.c0
        clear h2 h3 h4 hx hlt
        go_wp2_with (at_mapUpdate; go_must (refine wpList_mput _ rfl _ _ _ 48 rfl ikind Try.underlying48 _ _ rfl HR.out.1.map x rfl ?_))
        intro w3 hm ho
        have HQ : Hid (SetAt w3 p b (insL L (xs.take (k + 1))) (.slice none 0 0) ∧ Only [p, b] w w3) := by
          rw [take_snoc HX.out, insL_snoc]
          refine ⟨⟨HR.out.1.blk.only ho (by simp; try exact HR.out.1.ne), hm, HR.out.1.ne, unit_mput HR.out.1.unit⟩, ?_⟩
          exact HR.out.2.trans (ho.mono (by intro k _ hk; simp at hk; simp [hk]))
        clear hm ho c0 c1
        go_wp2_with fail
        go_roundw
        case rel => exact ⟨k + 1, by omega, by go_num, HQ.out⟩
        case measure => simp [intOf]; omega
    · have hkx : k = n := by omega
      have HK := Lib.hid hkx
      clear hkx
      have HQ : Hid (SetAt wr p b (insL L xs) (.slice none 0 0) ∧ Only [p, b] w wr) := by
        have h1 := HR.out
        have h2 : xs.take k = xs := by rw [HK.out, HN.out, List.take_length]
        rw [h2] at h1
        exact h1
      clear HR
      go_wp2_with fail
      go_end0
      exact ⟨rfl, HQ.out⟩

set_option maxRecDepth 100000 in
set_option maxHeartbeats 1000000 in
theorem remove_any {w : World} {p b : Nat} {L : List (Int × Value)} {fl : Value} (hs : SetAt w p b L fl) {sl : Value} {xs : List Int} (h : Anys w sl xs) (hl : xs.length ≤ 1000) (hx : ∀ bx o c, sl = .slice (some ⟨bx, o, none⟩) xs.length c → bx ≠ p ∧ bx ≠ b) :
    Calls Try.prog 12 #[.pointer (some ⟨p, 0, none⟩), sl] w fun e w' => e = .returned (.tuple #[]) ∧ SetAt w' p b (remL L xs) (.slice none 0 0) ∧ Only [p, b] w w' := by
  have c0 := hs.c0
  have c1 := hs.c1
  have c2 := hs.blk.free 1
  have HS : Hid (SetAt (w.setCell ⟨p, 1, none⟩ (.slice none 0 0)) p b L (.slice none 0 0) ∧ Only [p, b] w (w.setCell ⟨p, 1, none⟩ (.slice none 0 0))) := by
    have ho : Only [p] w (w.setCell ⟨p, 1, none⟩ (.slice none 0 0)) := (Only.refl [p] w).setCell (Or.inl (by simp)) _
    exact ⟨⟨hs.blk.set 1 _, hs.map.only ho (by simp; exact hs.ne.symm), hs.ne, hs.unit⟩, ho.mono (by intro k _ hk; simp at hk; simp [hk])⟩
  have HXX := Lib.hid hx
  clear hs hx
  have H := Lib.hid h
  obtain ⟨so, cp, rfl⟩ := h.shape
  clear h
  obtain ⟨n, hn⟩ : ∃ n, n = xs.length := ⟨_, rfl⟩
  have HN := Lib.hid hn
  rw [List.length_map, ← hn]
  have hl2 : n ≤ 1000 := by omega
  clear hn hl
  go_enter Try.func12, Try.ntmps12
  go_wp2_with fail
  clear c0 c1 c2
  go_loopw [5, 11] (fun _ kv wr => ∃ k : Nat, k ≤ n ∧ kv = .int .i64 k ∧ Hid (SetAt wr p b (remL L (xs.take k)) (.slice none 0 0) ∧ Only [p, b] w wr)) (fun _ kv _ => n - (intOf kv).toNat)
  case atStart => exact ⟨0, by omega, rfl, by simpa [remL] using HS.out.1, HS.out.2⟩
  case round =>
    obtain ⟨k, hk, rfl, hR⟩ := hrel
    have HR : Hid (SetAt wr p b (remL L (xs.take k)) (.slice none 0 0) ∧ Only [p, b] w wr) := hR
    clear hR
    by_cases hkn : k < n
    · obtain ⟨x, hx⟩ : ∃ x, xs[k]? = some x := ⟨xs[k]'(by rw [← HN.out]; exact hkn), List.getElem?_eq_getElem _⟩
      have HX := Lib.hid hx
      rcases H.out with ⟨_, h2⟩ | ⟨bx, o, c, h1, h2, h3⟩
      · simp at h2; rw [HN.out, h2] at hkn; exact absurd hkn (by simp)
      · simp only [Value.slice.injEq] at h1
        obtain ⟨rfl, _, rfl⟩ := h1
        have h4 := h3 k (by rw [List.length_map, ← HN.out]; exact hkn)
        rw [List.getElem?_map, hx] at h4
        have hlt := cell_lt' h4
        have c0 : wr.cell? ⟨bx, o + k, none⟩ = some (.iface 3 (.int .i64 x)) := (show wr.cell? _ = w.cell? _ from World.cell?_of_block (HR.out.2.block bx hlt (by have := HXX.out bx o _ (by rw [List.length_map]); simp; exact this))).trans h4
        have c1 := HR.out.1.c0
        clear h2 h3 h4 hx hlt
        go_wp2_with (at_delete; go_must (refine wpList_mdel _ rfl _ _ 48 20 rfl rfl ikind Try.underlying48 _ _ rfl HR.out.1.map x rfl ?_))
        intro w3 hm ho
        have HQ : Hid (SetAt w3 p b (remL L (xs.take (k + 1))) (.slice none 0 0) ∧ Only [p, b] w w3) := by
          rw [take_snoc HX.out, remL_snoc]
          refine ⟨⟨HR.out.1.blk.only ho (by simp; try exact HR.out.1.ne), hm, HR.out.1.ne, unit_mdel HR.out.1.unit⟩, ?_⟩
          exact HR.out.2.trans (ho.mono (by intro k _ hk; simp at hk; simp [hk]))
        clear hm ho c0 c1
        go_wp2_with fail
        go_roundw
        case rel => exact ⟨k + 1, by omega, by go_num, HQ.out⟩
        case measure => simp [intOf]; omega
    · have hkx : k = n := by omega
      have HK := Lib.hid hkx
      clear hkx
      have HQ : Hid (SetAt wr p b (remL L xs) (.slice none 0 0) ∧ Only [p, b] w wr) := by
        have h1 := HR.out
        have h2 : xs.take k = xs := by rw [HK.out, HN.out, List.take_length]
        rw [h2] at h1
        exact h1
      clear HR
      go_wp2_with fail
      go_end0
      exact ⟨rfl, HQ.out⟩

set_option maxRecDepth 100000 in
theorem len_any {w : World} {p b : Nat} {L : List (Int × Value)} {fl : Value} (hs : SetAt w p b L fl) (hl : L.length ≤ 100000) :
    Calls Try.prog 14 #[.pointer (some ⟨p, 0, none⟩)] w fun e w' => e = .returned (.int .i64 (L.length : Nat)) ∧ w = w' := by
  have c0 := hs.c0
  have hlen := fun ty => run_len (P := Try.prog) Try.underlying48 hs.map ty
  clear hs
  go_enter Try.func14, Try.ntmps14
  go_wp2_with fail
  go_ret
  exact ⟨rfl, rfl⟩

set_option maxRecDepth 100000 in
theorem exists_any {w : World} {p b : Nat} {L : List (Int × Value)} {fl : Value} (hs : SetAt w p b L fl) (x : Int) :
    Calls Try.prog 17 #[.pointer (some ⟨p, 0, none⟩), ik x] w fun e w' => e = .returned (.bool (decide (x ∈ mkeys L))) ∧ Below w.heap.size w w' := by
  have c0 := hs.c0
  have hlk : (Instr.lookup 48 (.map (some b)) (.iface 3 (.int .i64 x)) true).run Try.prog w = .ok (.tuple #[.agg #[], .bool (decide (x ∈ mkeys L))]) w := by
    have := run_look ikind Try.underlying48 (zero_unit w) hs.map x true
    rwa [if_pos rfl, look_unit hs.unit, mlook_isSome] at this
  obtain ⟨r, hr⟩ : ∃ r, r = decide (x ∈ mkeys L) := ⟨_, rfl⟩
  rw [← hr] at hlk ⊢
  clear hs hr
  show Calls _ _ #[.pointer (some ⟨p, 0, none⟩), .iface 3 (.int .i64 x)] _ _
  go_enter Try.func17, Try.ntmps17
  go_wp2_with fail
  go_ret
  exact ⟨rfl, (Below.refl _ _).alloc (Nat.le_refl _) _⟩
end Go.Proofs.Ytjijgkjmndpngaa
