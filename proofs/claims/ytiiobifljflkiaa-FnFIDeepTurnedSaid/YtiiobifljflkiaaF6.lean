/- The map's own calls, by the dictionary that it stands for. -/
import Derived.Test.YtiiobifljflkiaaF5
namespace Go.Proofs.Ytiiobifljflkiaa
open Go.RowKit FI

/-- Only blocks with a property, and new ones, are changed. -/
structure Kept (F : Nat → Prop) (w w' : World) : Prop where
  os : w'.os = w.os
  tape : w'.tape = w.tape
  output : w'.output = w.output
  size : w.heap.size ≤ w'.heap.size
  block : ∀ k, k < w.heap.size → ¬ F k → w'.heap[k]? = w.heap[k]?
section
variable {F : Nat → Prop} {w w' w2 : World}
theorem Kept.refl (F : Nat → Prop) (w : World) : Kept F w w := ⟨rfl, rfl, rfl, Nat.le_refl _, fun _ _ _ => rfl⟩
theorem Kept.trans (h : Kept F w w') (k : Kept F w' w2) : Kept F w w2 :=
  ⟨k.os.trans h.os, k.tape.trans h.tape, k.output.trans h.output, Nat.le_trans h.size k.size, fun i hi hm => (k.block i (Nat.lt_of_lt_of_le hi h.size) hm).trans (h.block i hi hm)⟩
theorem Only.kept {M : List Nat} (h : Only M w w') (hm : ∀ m ∈ M, F m) : Kept F w w' := ⟨h.os, h.tape, h.output, h.size, fun k hk hn => h.block k hk (fun hx => hn (hm k hx))⟩
theorem Kept.setCell (h : Kept F w w') {p : Addr} (hp : F p.block) (u : Value) : Kept F w (w'.setCell p u) :=
  h.trans (((Only.refl [p.block] w').setCell (Or.inl (by simp)) u).kept (by simp; exact hp))
theorem Kept.below {B : Nat} (h : Kept F w w') (hB : B ≤ w.heap.size) (hm : ∀ k, F k → B ≤ k) : Below B w w' :=
  ⟨h.os, h.tape, h.output, h.size, fun k hk => h.block k (by omega) (fun hx => by have := hm k hx; omega)⟩
theorem Kept.only {M : List Nat} (h : Kept F w w') (hm : ∀ k, k < w.heap.size → F k → k ∈ M) : Only M w w' := ⟨h.os, h.tape, h.output, h.size, fun k hk hn => h.block k hk (fun hx => hn (hm k hk hx))⟩
theorem Blk.kept {b : Nat} {vs : Array Value} {T : TypeId} (h : Blk w b vs T) (hk : Kept F w w') (hb : ¬ F b) : Blk w' b vs T := (hk.block b h.lt hb).trans h
end
/-- The map at p, in blocks with a property, stands for a dictionary. -/
def Dc (w : World) (F : Nat → Prop) (p a c : Nat) (D : Nat → Option Nat) : Prop :=
  ∃ b T key val, Mp w p b (2 ^ a) c T key val ∧ occ T (2 ^ a) ≤ c ∧ F p ∧ F b ∧ (∀ q, In T (2 ^ a) q → F q) ∧ ∀ k v, D k = some v ↔ ∃ q, In T (2 ^ a) q ∧ key q = k ∧ val q = v
def said (x : Option Nat) : Nat := x.getD 0
theorem in_pos {T : Nat → Option Nat} {n q : Nat} (h : In T n q) : 0 < occ T n := by
  obtain ⟨x, hx, h⟩ := h
  have := occ_put (T := T) (x := none) n hx
  rw [h] at this
  simp at this
  omega
theorem occ_room' {T : Nat → Option Nat} {n c : Nat} (h : occ T n ≤ c) (hc : c < n) : ∃ x, x < n ∧ T x = none := occ_room n (by omega)
theorem found_at {w : World} {p b n c : Nat} {T : Nat → Option Nat} {key val : Nat → Nat} {D : Nat → Option Nat} (_h : Mp w p b n c T key val) (hD : ∀ k v, D k = some v ↔ ∃ q, In T n q ∧ key q = k ∧ val q = v) {k i r : Nat}
    (hi : i < n) (hr : T i = some r) (hk : key r = k) : D k = some (val r) := (hD k _).2 ⟨r, ⟨i, hi, hr⟩, hk, rfl⟩
theorem not_found {w : World} {p b n c : Nat} {T : Nat → Option Nat} {key val : Nat → Nat} {D : Nat → Option Nat} (h : Mp w p b n c T key val) (hD : ∀ k v, D k = some v ↔ ∃ q, In T n q ∧ key q = k ∧ val q = v) {k i : Nat}
    (hf : Finds n key (hmn n) T k i) (hi : T i = none) : D k = none := by
  cases hk : D k with
  | none => rfl
  | some v =>
    obtain ⟨q, ⟨x, hx, hq⟩, h1, _⟩ := (hD k v).1 hk
    exact absurd h1 (hf.gone h.wf hi x q hx hq)

set_option maxRecDepth 100000 in
set_option maxHeartbeats 1000000 in
theorem Get_any {w : World} {F : Nat → Prop} {p a c : Nat} {D : Nat → Option Nat} (h : Dc w F p a c D) (ha : a ≤ 18) (hc : c < 2 ^ a) (k : Nat) (hk : k < 18446744073709551616) :
    Calls Try.prog 9 #[.pointer (some ⟨p, 0, none⟩), .int .u64 k] w fun e w' =>
      e = .returned (.tuple #[.int .u64 (said (D k) : Nat), .bool (D k).isSome]) ∧ w = w' := by
  obtain ⟨b, T, key, val, hm, ho, _, _, _, hD⟩ := h
  have H := Lib.hid hm
  have HD := Lib.hid hD
  have x1 := hm.row
  have hG := Lib.hid (get_any hm.tab k hk rfl (by omega) (occ_room' ho hc))
  obtain ⟨n, hn⟩ : ∃ n, n = 2 ^ a := ⟨_, rfl⟩
  rw [← hn] at *
  clear hm hD ho hn
  go_enter Try.func9, Try.ntmps9
  go_wp2_with fail
  refine hG.out.mono ?_; rintro e w' ⟨⟨i, hi, hf, hcase⟩, rfl⟩
  have hr : e = .returned (.tuple #[.int .u64 (said (D k) : Nat), .bool (D k).isSome]) := by
    rcases hcase with ⟨h1, rfl⟩ | ⟨r, h1, h2, rfl⟩
    · rw [not_found H.out HD.out hf h1]; rfl
    · rw [found_at H.out HD.out hi h1 h2]; rfl
  subst hr
  clear hcase hf
  go_wp2_with fail
  go_ret2
  exact ⟨rfl, rfl⟩

set_option maxRecDepth 100000 in
set_option maxHeartbeats 1000000 in
theorem Exists_any {w : World} {F : Nat → Prop} {p a c : Nat} {D : Nat → Option Nat} (h : Dc w F p a c D) (ha : a ≤ 18) (hc : c < 2 ^ a) (k : Nat) (hk : k < 18446744073709551616) :
    Calls Try.prog 10 #[.pointer (some ⟨p, 0, none⟩), .int .u64 k] w fun e w' =>
      e = .returned (.bool (D k).isSome) ∧ w = w' := by
  obtain ⟨b, T, key, val, hm, ho, _, _, _, hD⟩ := h
  have H := Lib.hid hm
  have HD := Lib.hid hD
  have x1 := hm.row
  have hG := Lib.hid (exists_any hm.tab k hk rfl (by omega) (occ_room' ho hc))
  obtain ⟨n, hn⟩ : ∃ n, n = 2 ^ a := ⟨_, rfl⟩
  rw [← hn] at *
  clear hm hD ho hn
  go_enter Try.func10, Try.ntmps10
  go_wp2_with fail
  refine hG.out.mono ?_; rintro e w' ⟨⟨i, hi, hf, hcase⟩, rfl⟩
  have hr : e = .returned (.bool (D k).isSome) := by
    rcases hcase with ⟨h1, rfl⟩ | ⟨r, h1, h2, rfl⟩
    · rw [not_found H.out HD.out hf h1]; rfl
    · rw [found_at H.out HD.out hi h1 h2]; rfl
  subst hr
  clear hcase hf
  go_wp2_with fail
  go_ret
  exact ⟨rfl, rfl⟩

set_option maxRecDepth 100000 in
theorem Len_any {w : World} {F : Nat → Prop} {p a c : Nat} {D : Nat → Option Nat} (h : Dc w F p a c D) :
    Calls Try.prog 12 #[.pointer (some ⟨p, 0, none⟩)] w fun e w' =>
      e = .returned (.int .u64 (c : Nat)) ∧ w = w' := by
  obtain ⟨b, T, key, val, hm, _⟩ := h
  have x0 := hm.count
  clear hm
  go_enter Try.func12, Try.ntmps12
  go_wp2_with fail
  go_ret
  exact ⟨rfl, rfl⟩

set_option maxRecDepth 100000 in
theorem Cap_any {w : World} {F : Nat → Prop} {p a c : Nat} {D : Nat → Option Nat} (h : Dc w F p a c D) (ha : a ≤ 18) :
    Calls Try.prog 13 #[.pointer (some ⟨p, 0, none⟩)] w fun e w' =>
      e = .returned (.int .u64 (2 ^ a : Nat)) ∧ w = w' := by
  obtain ⟨b, T, key, val, hm, _⟩ := h
  have x0 := hm.row
  have hn2 : 2 ^ a ≤ 262144 := Nat.pow_le_pow_right (n := 2) (by decide) ha
  clear hm
  generalize 2 ^ a = n at *
  go_enter Try.func13, Try.ntmps13
  go_wp2_with fail
  go_ret
  exact ⟨rfl, rfl⟩

def lgh (h : Nat) : Nat := Nat.log2 (rup (if h = 0 then 16 else h))
theorem rup_lgh : ∀ h, h < 601 → rup (if h = 0 then 16 else h) = 2 ^ lgh h ∧ lgh h < 11 := by decide +kernel

set_option maxRecDepth 100000 in
set_option maxHeartbeats 1000000 in
theorem New_any (w : World) (F : Nat → Prop) (hF : ∀ x, w.heap.size ≤ x → F x) (h : Nat) (hh : h < 601) :
    Calls Try.prog 7 #[.int .u64 h] w fun e w' =>
      ∃ p, e = .returned (.pointer (some ⟨p, 0, none⟩)) ∧ Dc w' F p (lgh h) 0 (fun _ => none) ∧ Below w.heap.size w w' := by
  obtain ⟨g, hg⟩ : ∃ g, g = if h = 0 then 16 else h := ⟨_, rfl⟩
  obtain ⟨r1, r2⟩ := rup_lgh h hh
  rw [← hg] at r1
  have hg1 : 1 ≤ g ∧ g < 601 := by rw [hg]; split <;> omega
  have hn2 : 2 ^ lgh h ≤ 2048 := Nat.pow_le_pow_right (n := 2) (j := 11) (by decide) (show lgh h ≤ 11 by omega)
  have hU := Lib.hid (fun w => roundUp_any g w hg1.1 (by omega) (by omega))
  obtain ⟨n, hn⟩ : ∃ n, n = 2 ^ lgh h := ⟨_, rfl⟩
  rw [← hn] at r1 hn2
  rw [r1] at hU
  have hmk := fun w => make_pk n w (by omega)
  have HN := Lib.hid hn
  have HG := Lib.hid hg
  have hK : ∀ (W : World), W = (w.alloc (.cells (madeCells #[.pointer none] n) 50)).alloc (.cells #[.int .u64 0, .slice (some ⟨w.heap.size, 0, none⟩) n n] 47) →
      Dc W F (w.heap.size + 1) (lgh h) 0 (fun _ => none) ∧ Below w.heap.size w W := by
    rintro W rfl
    have hb := Blk.new (w.alloc (.cells (madeCells #[.pointer none] n) 50)) #[.int .u64 0, .slice (some ⟨w.heap.size, 0, none⟩) n n] 47
    have hne : ∀ q, ¬ In (fun _ => none) (2 ^ lgh h) q := by rintro q ⟨x, _, h⟩; cases h
    simp at hb
    refine ⟨⟨w.heap.size, fun _ => none, fun _ => 0, fun _ => 0, ⟨?_, tabNew ?_ _ _, wfNew _ _ _, by omega, fun q hq => absurd hq (hne q)⟩, by rw [occ_none _ _ (fun _ _ => rfl)]; exact Nat.le_refl _, hF _ (by omega), hF _ (by omega), fun q hq => absurd hq (hne q), fun k v => ⟨fun h => (by cases h), fun ⟨q, hq, _⟩ => absurd hq (hne q)⟩⟩, ?_⟩
    · rw [← HN.out]; exact ⟨_, hb⟩
    · rw [← HN.out]; exact (rowNew w n _).alloc _
    · exact (((Only.refl [] w).alloc _).alloc _).nil
  have HK := Lib.hid hK
  clear hn r1 r2 hg hK
  by_cases hz : h = 0
  · have hg16 : g = 16 := by rw [HG.out, if_pos hz]
    subst hz
    subst hg16
    go_enter Try.func7, Try.ntmps7
    go_wp2_with fail
    refine (hU.out w).mono ?_; rintro e w' ⟨rfl, rfl⟩
    go_wp2_with fail
    go_ret
    exact ⟨_, rfl, HK.out _ rfl⟩
  · have hgh : g = h := by rw [HG.out, if_neg hz]
    have hzb : ((h : Int) == 0) = false := by simp; omega
    subst hgh
    go_enter Try.func7, Try.ntmps7
    go_wp2_with fail
    refine (hU.out w).mono ?_; rintro e w' ⟨rfl, rfl⟩
    go_wp2_with fail
    go_ret
    exact ⟨_, rfl, HK.out _ rfl⟩
theorem Dc.move {w w' : World} {F F' : Nat → Prop} {p a c : Nat} {D : Nat → Option Nat} (h : Dc w F p a c D) (hb : ∀ k, k < w.heap.size → F k → w'.heap[k]? = w.heap[k]?) (hF : ∀ k, k < w.heap.size → F k → F' k) : Dc w' F' p a c D := by
  obtain ⟨b, T, key, val, hm, ho, h1, h2, h3, hD⟩ := h
  obtain ⟨T0, hst⟩ := hm.st
  have g : ∀ {x : Nat} {vs : Array Value} {t : TypeId}, Blk w x vs t → F x → Blk w' x vs t := fun h hf => (hb _ h.lt hf).trans h
  refine ⟨b, T, key, val, ⟨⟨T0, g hst h1⟩, ⟨?_, fun i k hi hk => ?_, hm.tab.ap, hm.tab.kl, hm.tab.vl⟩, hm.wf, hm.pb, hm.pq⟩, ho, hF p hst.lt h1, hF b hm.tab.row.lt h2, fun q hq => hF q (hm.tab.plt hq) (h3 q hq), hD⟩
  · obtain ⟨vs, t, h, r⟩ := hm.tab.row
    exact ⟨vs, t, g h h2, r⟩
  · obtain ⟨t, h⟩ := hm.tab.pk i k hi hk
    exact ⟨t, g h (h3 k ⟨i, hi, hk⟩)⟩
end Go.Proofs.Ytiiobifljflkiaa
