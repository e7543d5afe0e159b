/- laws.dsSaid, and how many values sets have. -/
import Derived.Test.YtjijgkjmndpngaaS5
import Derived.Test.YtjijgkjmndpngaaS6
namespace Go.Proofs.Ytjijgkjmndpngaa
open Go.RowKit

theorem mem_mput {L : List (Int × Value)} {a k : Int} {v : Value} : k ∈ mkeys (mput L a v) ↔ k ∈ mkeys L ∨ k = a := by
  by_cases h : a ∈ mkeys L
  · rw [mkeys_mput_in h]
    constructor
    · exact Or.inl
    · rintro (h1 | rfl) <;> assumption
  · rw [mkeys_mput_new h]; simp
theorem mem_insL {xs : List Int} {k : Int} : ∀ {L : List (Int × Value)}, k ∈ mkeys (insL L xs) ↔ k ∈ mkeys L ∨ k ∈ xs := by
  induction xs with
  | nil => intro L; simp [insL]
  | cons x xs ih =>
    intro L
    have h := ih (L := mput L x (.agg #[]))
    rw [mem_mput] at h
    show k ∈ mkeys (insL (mput L x (.agg #[])) xs) ↔ _
    rw [h, List.mem_cons, or_assoc]
theorem mem_remL {xs : List Int} {k : Int} : ∀ {L : List (Int × Value)}, k ∈ mkeys (remL L xs) ↔ k ∈ mkeys L ∧ k ∉ xs := by
  induction xs with
  | nil => intro L; simp [remL]
  | cons x xs ih =>
    intro L
    have h := ih (L := mdel L x)
    rw [mkeys_mdel, List.mem_filter] at h
    show k ∈ mkeys (remL (mdel L x) xs) ↔ _
    rw [h, List.mem_cons, not_or]
    simp only [Bool.not_eq_true', decide_eq_false_iff_not]
    constructor
    · rintro ⟨⟨h1, h2⟩, h3⟩; exact ⟨h1, fun e => h2 e.symm, h3⟩
    · rintro ⟨h1, h2, h3⟩; exact ⟨⟨h1, fun e => h2 e.symm⟩, h3⟩
theorem nodup_mput {L : List (Int × Value)} {a : Int} {v : Value} (h : (mkeys L).Nodup) : (mkeys (mput L a v)).Nodup := by
  by_cases h1 : a ∈ mkeys L
  · rw [mkeys_mput_in h1]; exact h
  · rw [mkeys_mput_new h1, List.nodup_append]
    refine ⟨h, by simp, fun x hx y hy => ?_⟩
    simp at hy
    subst hy
    exact fun e => h1 (e ▸ hx)
theorem nodup_insL {xs : List Int} : ∀ {L : List (Int × Value)}, (mkeys L).Nodup → (mkeys (insL L xs)).Nodup := by
  induction xs with
  | nil => intro L h; exact h
  | cons x xs ih => intro L h; exact ih (nodup_mput h)
theorem nodup_remL {xs : List Int} : ∀ {L : List (Int × Value)}, (mkeys L).Nodup → (mkeys (remL L xs)).Nodup := by
  induction xs with
  | nil => intro L h; exact h
  | cons x xs ih =>
    intro L h
    refine ih (L := mdel L x) ?_
    rw [mkeys_mdel]
    exact h.sublist List.filter_sublist
theorem keys_len (L : List (Int × Value)) : (mkeys L).length = L.length := by simp [mkeys]
theorem same_len {l l' : List Int} (h : l.Nodup) (h' : l'.Nodup) (e : ∀ k, k ∈ l ↔ k ∈ l') : l.length = l'.length :=
  Nat.le_antisymm (nodup_len h fun k hk => (e k).1 hk) (nodup_len h' fun k hk => (e k).2 hk)
/-- Both sets' values together are as many as the second one's and those of the first one that are not in it. -/
theorem count_law (x y : List Int) : (insL (insL [] x) y).length = (insL (insL [] []) y).length + (remL (insL [] x) y).length := by
  have h0 : (mkeys ([] : List (Int × Value))).Nodup := by simp [mkeys]
  have h1 : (mkeys (insL (insL [] []) y) ++ mkeys (remL (insL [] x) y)).Nodup := by
    rw [List.nodup_append]
    refine ⟨nodup_insL (nodup_insL h0), nodup_remL (nodup_insL h0), fun a ha b hb => ?_⟩
    rw [mem_insL, mem_insL] at ha
    rw [mem_remL] at hb
    rintro rfl
    simp [mkeys] at ha
    exact hb.2 ha
  have h2 := same_len (nodup_insL (xs := y) (nodup_insL (xs := x) h0)) h1 fun k => by
    rw [List.mem_append, mem_insL, mem_insL, mem_insL, mem_insL, mem_remL, mem_insL]
    simp [mkeys]
    by_cases hy : k ∈ y <;> simp [hy]
  rw [List.length_append, keys_len, keys_len, keys_len] at h2
  exact h2
theorem less_law (x y : List Int) : (remL (insL [] x) y).length ≤ (insL (insL [] []) x).length := by
  have h0 : (mkeys ([] : List (Int × Value))).Nodup := by simp [mkeys]
  have h2 := nodup_len (l := mkeys (remL (insL [] x) y)) (l' := mkeys (insL (insL [] []) x)) (nodup_remL (nodup_insL h0)) fun k hk => by
    rw [mem_remL] at hk
    exact hk.1
  rwa [keys_len, keys_len] at h2
theorem all_law (x y : List Int) : (y.all fun k => decide (k ∈ mkeys (insL (insL [] x) y))) = true := by
  rw [List.all_eq_true]
  intro k hk
  rw [decide_eq_true_iff, mem_insL]
  exact Or.inr hk

theorem one_key {ks : List Int} {k : Int} (hn : ks.Nodup) (h : ∀ a, a ∈ ks ↔ a ∈ [k]) : ks = [k] := by
  match ks, hn, h with
  | [], _, h => have := (h k).2 (by simp); simp at this
  | [a], _, h => have := (h a).1 (by simp); simp at this; rw [this]
  | a :: b :: r, hn, h =>
    have h1 := (h a).1 (by simp)
    have h2 := (h b).1 (by simp)
    simp at h1 h2
    subst h1 h2
    simp at hn
theorem vals_blk {w : World} {b : Nat} {vs : List Value} {T : TypeId} (h : Blk w b vs.toArray T) : Vals w (.slice (some ⟨b, 0, none⟩) vs.length vs.length) vs :=
  Or.inr ⟨b, 0, vs.length, rfl, Nat.le_refl _, fun i hi => by
    rw [Nat.zero_add, List.getElem?_eq_getElem hi]
    exact h.cell (by simp [hi])⟩

/-- What a script says behind its last step. -/
def Told (w : World) (e : Ending) (w' : World) (L : List (Int × Value)) (all : List (Int × Value) → Bool) : Prop :=
  ∃ (sf : Option Addr) (cf : Nat) (sx : Option Addr) (nx cx : Nat) (ks : List Int), e = .returned (.tuple #[.agg #[.int .i64 (L.length : Nat), .slice sf ks.length cf, .bool (all L), .slice sx nx cx], .bool true]) ∧
      Ints w' (.slice sf ks.length cf) ks ∧ ks.Nodup ∧ (∀ k, k ∈ ks ↔ k ∈ mkeys L) ∧ Below w.heap.size w w'

set_option maxRecDepth 100000 in
set_option maxHeartbeats 2000000 in
theorem said_any {w : World} {sl : Value} {sb cst : Nat} {L : List (Int × Value)} {all : List (Int × Value) → Bool}
    (hrun : ∀ W', Below w.heap.size w W' → Calls Try.prog 7 #[sl, .slice (some ⟨sb, 0, none⟩) 1 cst] W' fun e w' => RunSaid W' e w' L all) (hl : ∃ so n cp, sl = .slice so n cp) (hLl : L.length ≤ 1000) :
    Calls Try.prog 6 #[sl, .slice (some ⟨sb, 0, none⟩) 1 cst] w fun e w' => Told w e w' L all := by
  obtain ⟨so, n, cp, rfl⟩ := hl
  have HR := Lib.hid hrun
  clear hrun
  obtain ⟨W, hW⟩ : ∃ W, W = ((((w.alloc (.cells #[.int .i64 0, .slice none 0 0, .bool false, .slice none 0 0] 28)).alloc (.cells #[.int .i64 4, .int .i64 9, .int .i64 4] 3)).alloc (.cells #[.int .i64 9] 3)).alloc (.cells #[.int .i64 2, .slice (some ⟨w.heap.size + 1 + 1, 0, none⟩) 1 1] 32)) := ⟨_, rfl⟩
  have K0 : Blk W w.heap.size #[.int .i64 0, .slice none 0 0, .bool false, .slice none 0 0] 28 := by rw [hW]; exact ((((Blk.new w _ _).alloc _).alloc _).alloc _)
  have K1 : Blk W (w.heap.size + 1) #[.int .i64 4, .int .i64 9, .int .i64 4] 3 := by
    rw [hW]; have := ((Blk.new (w.alloc (.cells #[.int .i64 0, .slice none 0 0, .bool false, .slice none 0 0] 28)) #[.int .i64 4, .int .i64 9, .int .i64 4] 3).alloc (.cells #[.int .i64 9] 3)).alloc (.cells #[.int .i64 2, .slice (some ⟨w.heap.size + 1 + 1, 0, none⟩) 1 1] 32); simpa using this
  have K2 : Blk W (w.heap.size + 1 + 1) #[.int .i64 9] 3 := by
    rw [hW]; have := ((Blk.new ((w.alloc (.cells #[.int .i64 0, .slice none 0 0, .bool false, .slice none 0 0] 28)).alloc (.cells #[.int .i64 4, .int .i64 9, .int .i64 4] 3)) #[.int .i64 9] 3)).alloc (.cells #[.int .i64 2, .slice (some ⟨w.heap.size + 1 + 1, 0, none⟩) 1 1] 32); simpa using this
  have K3 : Blk W (w.heap.size + 1 + 1 + 1) #[.int .i64 2, .slice (some ⟨w.heap.size + 1 + 1, 0, none⟩) 1 1] 32 := by
    rw [hW]; have := Blk.new (((w.alloc (.cells #[.int .i64 0, .slice none 0 0, .bool false, .slice none 0 0] 28)).alloc (.cells #[.int .i64 4, .int .i64 9, .int .i64 4] 3)).alloc (.cells #[.int .i64 9] 3)) #[.int .i64 2, .slice (some ⟨w.heap.size + 1 + 1, 0, none⟩) 1 1] 32; simpa using this
  have KB : Below w.heap.size w W := by rw [hW]; exact ((((Below.refl _ _).alloc (Nat.le_refl _) _).alloc (by simp) _).alloc (by simp; omega) _).alloc (by simp; omega) _
  have HK : Hid (Blk W w.heap.size #[.int .i64 0, .slice none 0 0, .bool false, .slice none 0 0] 28 ∧ Below w.heap.size w W) := ⟨K0, KB⟩
  have HC : Hid (Calls Try.prog 7 #[.slice (some ⟨w.heap.size + 1, 0, none⟩) 3 3, .slice (some ⟨w.heap.size + 1 + 1 + 1, 0, none⟩) 1 1] W fun e w' => RunSaid W e w' [(4, .agg #[])] (fun L => [9].all fun y => decide (y ∈ mkeys L))) :=
    run_rem (xs := [4, 9, 4]) (ys := [9]) (vals_blk (vs := [4, 9, 4].map (Value.int .i64)) K1) (vals_blk (vs := [9].map (Value.int .i64)) K2) (by simp) (by simp) (K3.cell rfl) (K3.cell rfl)
  clear K0 K1 K2 K3 KB
  have HWW := Lib.hid hW
  go_enter Try.func6, Try.ntmps6
  clear hW
  go_wp2_with fail
  rw [← HWW.out]
  refine HC.out.mono ?_
  rintro e w1 ⟨g, cq, sf, cf, sx, nx, cx, ks, rfl, hcq, c0, c1, c2, c3, hI, hnd, hks, _, hb⟩
  obtain rfl := one_key hnd (k := 4) (by simpa [mkeys] using hks)
  have H1 : Hid (Ints w1 (.slice sf 1 cf) [4] ∧ Below w.heap.size w w1 ∧ Blk w1 w.heap.size #[.int .i64 0, .slice none 0 0, .bool false, .slice none 0 0] 28) := ⟨hI, HK.out.2.trans (hb.mono HK.out.2.size), HK.out.1.below hb HK.out.1.lt⟩
  have c0' : w1.cell? ⟨g, 0, none⟩ = some (.int .i64 1) := c0
  have c1' : w1.cell? ⟨g, 1, none⟩ = some (.slice sf 1 cf) := c1
  clear hI hnd hks hb c2 c3 c0 c1
  go_wp2_with fail
  refine (equal_any (xs := [4]) (ys := [4]) (H1.out.1.same ((Below.refl _ _).alloc (Nat.le_refl _) _)) (vals_blk (vs := [4].map (Value.int .i64)) (Blk.new w1 _ _)) (by omega) (by simp)).mono ?_
  rintro e w2 ⟨rfl, hb⟩
  have H2 : Hid (Below w.heap.size w w2 ∧ Blk w2 w.heap.size #[.int .i64 0, .slice none 0 0, .bool false, .slice none 0 0] 28) :=
    ⟨(H1.out.2.1.alloc H1.out.2.1.size _).trans (hb.mono (by have := H1.out.2.1.size; simp; omega)), (H1.out.2.2.alloc _).below hb (by have := H1.out.2.2.lt; simp; omega)⟩
  clear hb c0' c1'
  go_wp2_with fail
  refine (HR.out w2 H2.out.1).mono ?_
  rintro e w3 ⟨g2, cq2, sf2, cf2, sx2, nx2, cx2, ks, rfl, hcq2, c0, c1, c2, c3, hI, hnd, hks, hlow, hb⟩
  have H3 : Hid (Ints w3 (.slice sf2 ks.length cf2) ks ∧ ks.Nodup ∧ (∀ k, k ∈ ks ↔ k ∈ mkeys L) ∧ Below w.heap.size w w3 ∧ Blk w3 w.heap.size #[.int .i64 0, .slice none 0 0, .bool false, .slice none 0 0] 28 ∧ ∀ a, sf2 = some a → w.heap.size < a.block) :=
    ⟨hI, hnd, hks, H2.out.1.trans (hb.mono H2.out.1.size), H2.out.2.below hb H2.out.2.lt, fun a e => Nat.lt_of_lt_of_le H2.out.2.lt (hlow a e)⟩
  have f0 := H3.out.2.2.2.2.1.free 0
  have f1 := H3.out.2.2.2.2.1.free 1
  have f2 := H3.out.2.2.2.2.1.free 2
  have f3 := H3.out.2.2.2.2.1.free 3
  have z0 := H3.out.2.2.2.2.1.cell (i := 0) rfl
  have z1 := H3.out.2.2.2.2.1.cell (i := 1) rfl
  have z2 := H3.out.2.2.2.2.1.cell (i := 2) rfl
  have z3 := H3.out.2.2.2.2.1.cell (i := 3) rfl
  clear hI hnd hks hb hlow
  go_wp2_with fail
  have HE := Lib.hid ((((H3.out.2.2.2.2.1.set 0 (.int .i64 L.length)).set 1 (.slice sf2 ks.length cf2)).set 2 (.bool (all L))).set 3 (.slice sx2 nx2 cx2))
  have d0 := HE.out.cell (i := 0) rfl
  have d1 := HE.out.cell (i := 1) rfl
  have d2 := HE.out.cell (i := 2) rfl
  have d3 := HE.out.cell (i := 3) rfl
  simp at d0 d1 d2 d3
  have hB := (((H3.out.2.2.2.1.setCell (p := ⟨w.heap.size, 0, none⟩) (Nat.le_refl _) (.int .i64 L.length)).setCell (p := ⟨w.heap.size, 1, none⟩) (Nat.le_refl _) (.slice sf2 ks.length cf2)).setCell (p := ⟨w.heap.size, 2, none⟩) (Nat.le_refl _) (.bool (all L))).setCell (p := ⟨w.heap.size, 3, none⟩) (Nat.le_refl _) (.slice sx2 nx2 cx2)
  have hO := ((((Only.refl [w.heap.size] w3).setCell (p := ⟨w.heap.size, 0, none⟩) (Or.inl (by simp)) (.int .i64 L.length)).setCell (p := ⟨w.heap.size, 1, none⟩) (Or.inl (by simp)) (.slice sf2 ks.length cf2)).setCell (p := ⟨w.heap.size, 2, none⟩) (Or.inl (by simp)) (.bool (all L))).setCell (p := ⟨w.heap.size, 3, none⟩) (Or.inl (by simp)) (.slice sx2 nx2 cx2)
  refine bodyPost_ret (v := .tuple #[.agg #[.int .i64 (L.length : Nat), .slice sf2 ks.length cf2, .bool (all L), .slice sx2 nx2 cx2], .bool true]) ?_ rfl ⟨sf2, cf2, sx2, nx2, cx2, ks, rfl, Vals.heap H3.out.1 (fun b o c e _ hlt => hO.block b hlt ?_), H3.out.2.1, H3.out.2.2.1, hB⟩
  · simp [results, Try.results6, go_sem, d0, d1, d2, d3]
  · simp only [Value.slice.injEq] at e
    have := H3.out.2.2.2.2.2 _ e.1
    simp at this ⊢
    omega
end Go.Proofs.Ytjijgkjmndpngaa
