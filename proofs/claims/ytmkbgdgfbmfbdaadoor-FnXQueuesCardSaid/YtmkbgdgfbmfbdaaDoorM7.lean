/- SymMerge: two ascending lists are one. -/
import Derived.Test.YtmkbgdgfbmfbdaaDoorM6
namespace Go.Proofs.YtmkbgdgfbmfbdaaDoor.MG
open Go.RowKit

/-- An ascending list. -/
abbrev Up (L : List Item) : Prop := L.Pairwise (fun x y => x.1 ≤ y.1)
theorem ky_get {L : List Item} {k : Nat} (h : k < L.length) : ky L k = (L[k]).1 := by
  unfold ky
  rw [gt_at (List.getElem?_eq_getElem h)]
theorem up_of_srt {L : List Item} {n : Nat} (hn : L.length = n) (h : Srt L 0 n) : Up L := by
  rw [Up, List.pairwise_iff_getElem]
  intro i j hi hj hij
  have := h i j (Nat.zero_le _) (by omega) (by omega)
  rwa [ky_get hi, ky_get hj] at this
theorem srt_of_up {L : List Item} {n : Nat} (hn : L.length = n) (h : Up L) : Srt L 0 n := fun i j _ hij hj => by
  rcases Nat.lt_or_ge i j with hlt | hge
  · have := List.pairwise_iff_getElem.1 h i j (by omega) (by omega) hlt
    rw [ky_get (by omega), ky_get (by omega)]
    exact this
  · rw [show i = j by omega]; exact Int.le_refl _
theorem srt_left {L M : List Item} {n : Nat} (hn : L.length = n) (h : Srt L 0 n) : Srt (L ++ M) 0 n := fun i j a b c => by
  have e : ∀ k, k < n → ky (L ++ M) k = ky L k := fun k hk => by rw [ky_get (by rw [List.length_append]; omega), ky_get (by omega), List.getElem_append_left]
  rw [e i (by omega), e j c]
  exact h i j a b c
theorem srt_right {L M : List Item} {n m : Nat} (hn : L.length = n) (hm : M.length = m) (h : Srt M 0 m) : Srt (L ++ M) n (n + m) := fun i j a b c => by
  have e : ∀ k, n ≤ k → k < n + m → ky (L ++ M) k = ky M (k - n) := fun k hk hk' => by
    rw [ky_get (by rw [List.length_append]; omega), ky_get (by omega), List.getElem_append_right (by omega)]
    congr 2
    congr 1
  rw [e i a (by omega), e j (by omega) c]
  exact h _ _ (Nat.zero_le _) (by omega) (by omega)
theorem srt_take {L : List Item} {n k : Nat} (h : Srt L 0 n) (hk : k ≤ n) : Srt (L.take k) 0 k := fun i j a b c => by
  unfold ky
  rw [gt_take (by omega), gt_take c]
  exact h i j a b (by omega)
theorem srt_drop {L : List Item} {n k : Nat} (h : Srt L 0 n) (hk : k ≤ n) : Srt (L.drop k) 0 (n - k) := fun i j a b c => by
  unfold ky
  rw [gt_drop, gt_drop]
  exact h _ _ (Nat.zero_le _) (by omega) (by omega)
theorem mem_take_at {L : List Item} {k : Nat} {x : Item} (h : x ∈ L.take k) : ∃ a, a < k ∧ a < L.length ∧ x.1 = ky L a := by
  obtain ⟨a, ha, rfl⟩ := List.mem_iff_getElem.1 h
  rw [List.length_take] at ha
  exact ⟨a, by omega, by omega, by rw [ky_get (by omega), List.getElem_take]⟩
theorem mem_drop_at {L : List Item} {k : Nat} {x : Item} (h : x ∈ L.drop k) : ∃ a, k ≤ a ∧ a < L.length ∧ x.1 = ky L a := by
  obtain ⟨a, ha, rfl⟩ := List.mem_iff_getElem.1 h
  rw [List.length_drop] at ha
  exact ⟨k + a, by omega, by omega, by rw [ky_get (by omega), List.getElem_drop]⟩
/-- Two ascending lists that were split and put in order part by part. -/
theorem both_up {U V L1 L2 : List Item} {n m i k : Nat} (hU : U.length = n) (hV : V.length = m) (su : Srt U 0 n) (sv : Srt V 0 m) (hi : i ≤ n) (hk0 : 0 < k) (hk : k < m)
    (y : ∀ a, a < i → ky U a ≤ ky V (k + (i - 1 - a))) (no : ∀ a, i ≤ a → a < n → ky V (k + i - 1 - a) < ky U a)
    (p1 : L1.Perm (U.take i ++ V.take k)) (p2 : L2.Perm (U.drop i ++ V.drop k)) (u1 : Up L1) (u2 : Up L2) : (L1 ++ L2).Perm (U ++ V) ∧ Up (L1 ++ L2) := by
  refine ⟨?_, List.pairwise_append.2 ⟨u1, u2, fun x hx z hz => ?_⟩⟩
  · refine (p1.append p2).trans ?_
    have h1 : (U.take i ++ V.take k ++ (U.drop i ++ V.drop k)).Perm (U.take i ++ U.drop i ++ (V.take k ++ V.drop k)) := by
      rw [List.append_assoc, List.append_assoc]
      refine List.Perm.append_left _ ?_
      rw [← List.append_assoc, ← List.append_assoc]
      exact List.Perm.append_right _ List.perm_append_comm
    rw [List.take_append_drop, List.take_append_drop] at h1
    exact h1
  · have hx' := p1.mem_iff.1 hx
    have hz' := p2.mem_iff.1 hz
    rcases List.mem_append.1 hx' with hx' | hx' <;> rcases List.mem_append.1 hz' with hz' | hz'
    · obtain ⟨a, a1, a2, a3⟩ := mem_take_at hx'
      obtain ⟨b, b1, b2, b3⟩ := mem_drop_at hz'
      rw [a3, b3]; exact su a b (Nat.zero_le _) (by omega) (by omega)
    · obtain ⟨a, a1, a2, a3⟩ := mem_take_at hx'
      obtain ⟨b, b1, b2, b3⟩ := mem_drop_at hz'
      have c1 := su a (i - 1) (Nat.zero_le _) (by omega) (by omega)
      have c2 := y (i - 1) (by omega)
      have c3 := sv k b (Nat.zero_le _) b1 (by omega)
      rw [Nat.sub_self, Nat.add_zero] at c2
      rw [a3, b3]; omega
    · obtain ⟨a, a1, a2, a3⟩ := mem_take_at hx'
      obtain ⟨b, b1, b2, b3⟩ := mem_drop_at hz'
      have c1 := sv a (k - 1) (Nat.zero_le _) (by omega) (by omega)
      have c2 := no i (Nat.le_refl _) (by omega)
      rw [show k + i - 1 - i = k - 1 by omega] at c2
      have c3 := su i b (Nat.zero_le _) b1 (by omega)
      rw [a3, b3]; omega
    · obtain ⟨a, a1, a2, a3⟩ := mem_take_at hx'
      obtain ⟨b, b1, b2, b3⟩ := mem_drop_at hz'
      rw [a3, b3]; exact sv a b (Nat.zero_le _) (by omega) (by omega)

/-- What a merge leaves. -/
def Done (B : Nat) (w : World) (U V : List Item) (e : Ending) (w' : World) : Prop :=
  ∃ g n cap L, e = .returned (.slice (some ⟨g, 0, none⟩) n cap) ∧ Row B w' g n cap L ∧ L.Perm (U ++ V) ∧ Up L ∧ Below B w w'
theorem Row.other {B B' : Nat} {w w' : World} {g n cap : Nat} {L : List Item} {g' : Nat} (h : Row B w g n cap L) (ho : Only [g'] w w') (hg : g ≠ g') : Row B w' g n cap L := by
  obtain ⟨h1, h | ⟨g2, cap2, cur, hv, hge, hh, r⟩⟩ := h
  · simp at h
  · have hv' := hv
    simp only [Value.slice.injEq, Option.some.injEq, Addr.mk.injEq] at hv'
    obtain ⟨⟨rfl, _, _⟩, _, _⟩ := hv'
    exact ⟨h1, Or.inr ⟨g, cap2, cur, hv, hge, (ho.block g (Blk.lt (show Blk w g cur _ from hh)) (by simpa using hg)).trans hh, r⟩⟩
theorem Row.lt {B : Nat} {w : World} {g n cap : Nat} {L : List Item} (h : Row B w g n cap L) : g < w.heap.size ∧ B ≤ g := by
  obtain ⟨cur, o1, o2, _⟩ := own_open h
  exact ⟨Blk.lt o1, o2⟩
theorem Row.cells {B : Nat} {w : World} {g n cap : Nat} {L : List Item} (h : Row B w g n cap L) : ∀ j u, (L.map mit)[j]? = some u → w.cell? ((⟨g, 0, none⟩ : Addr).add j) = some u := fun j u hj => by
  obtain ⟨j1, rfl⟩ := map_cell hj
  rw [addr_add, Nat.zero_add]
  exact (h.at_ (by rw [h.len] at j1; exact j1)).1
theorem Reads.cells {w : World} {g o n : Nat} {L : List Item} (h : Reads w g o n L) : ∀ j u, (L.map mit)[j]? = some u → w.cell? ((⟨g, o, none⟩ : Addr).add j) = some u := fun j u hj => by
  obtain ⟨j1, rfl⟩ := map_cell hj
  rw [addr_add]
  exact h.2 j (by rw [h.1] at j1; exact j1)
theorem Reads.only {w w' : World} {g o n g' : Nat} {L : List Item} (h : Reads w g o n L) (ho : Only [g'] w w') (hg : g ≠ g') : Reads w' g o n L :=
  ⟨h.1, fun k hk => (World.cell?_of_block (ho.block g (by have := cell_lt' (h.2 k hk); exact this) (by simpa using hg))).trans (h.2 k hk)⟩
/-- What an append to a row leaves. -/
theorem grew {B : Nat} {w w' : World} {g n cap : Nat} {v' : Value} {L M : List Item} {m : Nat} (h : Row B w g n cap L) (hm : M.length = m) (hn : 0 < n + m) (hown : w'.ownsRow B 59 1 v' (n + m) (L.map mit ++ M.map mit)) (hg : w.grownBy w' (Value.ownBlock (.slice (some ⟨g, 0, none⟩) n cap))) (hat : v'.ownBlock = Value.ownBlock (.slice (some ⟨g, 0, none⟩) n cap) ∨ v'.ownBlock = some w.heap.size) :
    ∃ g' cap', v' = .slice (some ⟨g', 0, none⟩) (n + m) cap' ∧ Row B w' g' (n + m) cap' (L ++ M) ∧ (g' = g ∨ g' = w.heap.size) ∧ Only [g] w w' := by
  obtain ⟨g', cap', rfl⟩ := own_some hown hn
  refine ⟨g', cap', rfl, by rw [Row, List.map_append]; exact hown, ?_, (Only.refl _ _).grown hg (fun k hk => Or.inl (by simp [Value.ownBlock] at hk; simp [hk]))⟩
  simpa [Value.ownBlock] using hat

set_option maxRecDepth 1000000 in
set_option maxHeartbeats 4000000 in
theorem sym_near {w : World} {B gu n capu gw m capw : Nat} {U V : List Item} (hU : Row B w gu n capu U) (hV : Row B w gw m capw V) (hB : B ≤ w.heap.size) (hn : n ≤ 100) (hm : m ≤ 100) (su : Srt U 0 n) (sv : Srt V 0 m) (h0 : 0 < n) (h1 : 0 < m) (hd : n ≤ m + 1 ∧ m ≤ n + 1) :
    Calls Tryd.prog 22 #[.slice (some ⟨gu, 0, none⟩) n capu, .slice (some ⟨gw, 0, none⟩) m capw] w fun e w' => Done B w U V e w' := by
  obtain ⟨i0, hi, hz0, hz1, hz2⟩ := info_at infoM
  have HI : Hid (Tryd.prog.info? 59 = some i0 ∧ i0.zero = some .nilIface ∧ i0.size = 1 ∧ i0.bytes = 16) := ⟨hi, hz0, hz1, hz2⟩
  clear hi hz0 hz1 hz2
  have hfar : far ((n : Int) - (m : Int)) = false := by rw [far_eq (by omega) (by omega)]; simp; omega
  unfold far at hfar
  have hfar2 : ¬ FloatKind.f64.format.order (absb (floatOfInt FloatKind.f64 ((n : Int) - (m : Int)))) 4607182418800017408 = some .gt := by simpa using hfar
  have hw : IntKind.i64.wrap ((n : Int) - (m : Int)) = (n : Int) - (m : Int) := by rw [IntKind.wrap_i64]; omega
  have z1 : ((n : Int) == 0) = false := by simp; omega
  have z2 : ((m : Int) == 0) = false := by simp; omega
  have HH : Hid (Row B w gu n capu U ∧ Row B w gw m capw V ∧ Srt U 0 n ∧ Srt V 0 m) := ⟨hU, hV, su, sv⟩
  obtain ⟨A, hA⟩ : ∃ A, A = V.map mit := ⟨_, rfl⟩
  have HA : Hid (A = V.map mit ∧ A.length = m * 1 ∧ (∀ j u, A[j]? = some u → w.cell? ((⟨gw, 0, none⟩ : Addr).add j) = some u) ∧ (∀ u ∈ A, u.oneCell' = true)) := by
    subst hA
    exact ⟨rfl, by rw [List.length_map, hV.len]; omega, hV.cells, one_all _⟩
  clear hU hV su sv hA hd
  go_enter Tryd.func22, Tryd.ntmps22
  go_wp2_with fail
  refine (abs_any _ _).mono ?_
  rintro e w' ⟨rfl, rfl⟩
  go_wp2_with (at_builtin; go_must (refine wpList_append_own_at _ rfl (.tmp 63) (.tmp 64) 55 rfl (B) 59 i0 .nilIface 1 16 Tryd.underlying55 HI.out.1 HI.out.2.1 HI.out.2.2.1 HI.out.2.2.2 rfl (by decide) (.slice (some ⟨gu, 0, none⟩) n capu) (n) _ rfl HH.out.1 ⟨gw, 0, none⟩ (m) _ A rfl HA.out.2.1 HA.out.2.2.1 HA.out.2.2.2 ?c3 ?c4 ?c5 ?_))
  case c3 => unfold maxLen; omega
  case c4 => omega
  case c5 => exact hB
  intro v2 w2 hown hgrow _ hat
  rw [HA.out.1] at hown
  obtain ⟨g, cap, rfl, hrow, hgg, ho⟩ := grew HH.out.1 HH.out.2.1.len (by omega) (by simpa only [List.map_take, List.map_drop] using hown) hgrow hat
  have hB2 : Below B w w2 := ho.below hB (fun k hk => by simp at hk; subst hk; exact HH.out.1.lt.2)
  obtain ⟨n0, hn0⟩ : ∃ n0, n0 = n + m := ⟨_, rfl⟩
  rw [← hn0] at hrow ⊢
  have hn1 : n0 ≤ 200 ∧ n ≤ n0 := by omega
  have HN0 := Lib.hid hn0
  obtain ⟨hn1, hn2⟩ := hn1
  clear hn0
  have H2 : Hid (Row B w2 g n0 cap (U ++ V) ∧ Below B w w2) := ⟨hrow, hB2⟩
  clear hown hgrow hat hrow ho hB2
  go_wp2_with fail
  refine (merge_any B g n0 cap (by omega) n0 w2 0 n n0 (U ++ V) (by omega) H2.out.1 (Nat.zero_le _) hn2 (Nat.le_refl _) (srt_left HH.out.1.len HH.out.2.2.1) (by rw [HN0.out]; exact srt_right HH.out.1.len HH.out.2.1.len HH.out.2.2.2)).mono ?_
  rintro e w3 ⟨rfl, L, hmer, hrow, ho⟩
  have H3 : Hid (Row B w3 g n0 cap L ∧ L.Perm (U ++ V) ∧ Up L ∧ Below B w w3) := ⟨hrow, hmer.perm, up_of_srt hrow.len hmer.srt, H2.out.2.trans (ho.below (by have := H2.out.2.size; omega) (fun k hk => by simp at hk; subst hk; exact H2.out.1.lt.2))⟩
  clear hmer hrow ho
  go_wp2_with fail
  go_ret
  exact ⟨g, n0, cap, L, rfl, H3.out.1, H3.out.2.1, H3.out.2.2.1, H3.out.2.2.2⟩

set_option maxRecDepth 1000000 in
set_option maxHeartbeats 4000000 in
theorem sym_none {w : World} {B gu n capu gw m capw : Nat} {U V : List Item} (hU : Row B w gu n capu U) (hV : Row B w gw m capw V) (hB : B ≤ w.heap.size) (hn : n ≤ 100) (hm : m ≤ 100) (su : Srt U 0 n) (sv : Srt V 0 m) (h0 : n = 0 ∨ m = 0) :
    Calls Tryd.prog 22 #[.slice (some ⟨gu, 0, none⟩) n capu, .slice (some ⟨gw, 0, none⟩) m capw] w fun e w' => Done B w U V e w' := by
  have HH : Hid (Row B w gu n capu U ∧ Row B w gw m capw V ∧ Srt U 0 n ∧ Srt V 0 m) := ⟨hU, hV, su, sv⟩
  clear hU hV su sv
  by_cases hn0 : n = 0
  · have z1 : ((n : Int) == 0) = true := by simp [hn0]
    have HN := Lib.hid hn0
    clear hn0 h0
    go_enter Tryd.func22, Tryd.ntmps22
    go_wp2_with fail
    go_ret
    have hu : U = [] := List.eq_nil_of_length_eq_zero (by rw [HH.out.1.len, HN.out])
    exact ⟨gw, m, capw, V, rfl, HH.out.2.1, by rw [hu]; exact .refl _, up_of_srt HH.out.2.1.len HH.out.2.2.2, Below.refl _ _⟩
  · have z1 : ((n : Int) == 0) = false := by simp; omega
    have z2 : ((m : Int) == 0) = true := by simp; omega
    have HN : Hid (m = 0) := by
      rcases h0 with h | h
      · exact absurd h hn0
      · exact h
    clear hn0 h0
    go_enter Tryd.func22, Tryd.ntmps22
    go_wp2_with fail
    go_ret
    have hv : V = [] := List.eq_nil_of_length_eq_zero (by rw [HH.out.2.1.len, HN.out])
    exact ⟨gu, n, capu, U, rfl, HH.out.1, by rw [hv, List.append_nil], up_of_srt HH.out.1.len HH.out.2.2.1, Below.refl _ _⟩

set_option maxRecDepth 1000000 in
set_option maxHeartbeats 4000000 in
theorem sym_far {w : World} {B gu n capu gw m capw : Nat} {U V : List Item} (hU : Row B w gu n capu U) (hV : Row B w gw m capw V) (hB : B ≤ w.heap.size) (hn : n ≤ 100) (hm : m ≤ 100) (su : Srt U 0 n) (sv : Srt V 0 m) (h0 : 0 < n) (hd : n + 2 ≤ m) :
    Calls Tryd.prog 22 #[.slice (some ⟨gu, 0, none⟩) n capu, .slice (some ⟨gw, 0, none⟩) m capw] w fun e w' => Done B w U V e w' := by
  obtain ⟨i0, hi, hz0, hz1, hz2⟩ := info_at infoM
  have HI : Hid (Tryd.prog.info? 59 = some i0 ∧ i0.zero = some .nilIface ∧ i0.size = 1 ∧ i0.bytes = 16) := ⟨hi, hz0, hz1, hz2⟩
  clear hi hz0 hz1 hz2
  have hfar : far ((n : Int) - (m : Int)) = true := by rw [far_eq (by omega) (by omega)]; simp; omega
  unfold far at hfar
  have hw : IntKind.i64.wrap ((n : Int) - (m : Int)) = (n : Int) - (m : Int) := by rw [IntKind.wrap_i64]; omega
  have z1 : ((n : Int) == 0) = false := by simp; omega
  have z2 : ((m : Int) == 0) = false := by simp; omega
  have HH : Hid (Row B w gu n capu U ∧ Row B w gw m capw V ∧ Srt U 0 n ∧ Srt V 0 m) := ⟨hU, hV, su, sv⟩
  have hgS := hU.lt
  have hgL := hV.lt
  clear hU hV su sv
  go_enter Tryd.func22, Tryd.ntmps22
  go_wp2_with fail
  refine (abs_any _ _).mono ?_
  rintro e w' ⟨rfl, rfl⟩
  go_wp2_with fail
  refine (prepare_any HH.out.1 HH.out.2.1 (by omega) hd HH.out.2.2.1 HH.out.2.2.2).mono ?_
  rintro e w1 ⟨i, d, k, g1, g2, hdi, hki, hi, hk0, hkm, hcl, hy, hno, rfl, r1, r2, hne, rd1, rd2, hb1⟩
  obtain ⟨A1, hA1⟩ : ∃ A, A = (V.take k).map mit := ⟨_, rfl⟩
  obtain ⟨A2, hA2⟩ : ∃ A, A = (V.drop k).map mit := ⟨_, rfl⟩
  have lA1 : A1.length = k := by rw [hA1, List.length_map, rd1.1]
  have lA2 : A2.length = m - k := by rw [hA2, List.length_map, rd2.1]
  have HK : Hid (k + i = (m - n) / 2 + n ∧ (∀ a, a < i → ky U a ≤ ky V (k + (i - 1 - a))) ∧ (∀ a, i ≤ a → a < n → ky V (k + i - 1 - a) < ky U a)) := ⟨hki, hy, hno⟩
  have H1 : Hid (Row w.heap.size w1 g1 i i (U.take i) ∧ Row w.heap.size w1 g2 d d (U.drop i) ∧ Reads w1 gw 0 k (V.take k) ∧ Reads w1 gw k (m - k) (V.drop k) ∧ Below w.heap.size w w1) := ⟨r1, r2, rd1, rd2, hb1⟩
  have HA : Hid (A1 = (V.take k).map mit ∧ A2 = (V.drop k).map mit ∧ A1.length = k * 1 ∧ A2.length = (m - k) * 1 ∧ (∀ u ∈ A1, u.oneCell' = true) ∧ (∀ u ∈ A2, u.oneCell' = true)) := ⟨hA1, hA2, by omega, by omega, by rw [hA1]; exact one_all _, by rw [hA2]; exact one_all _⟩
  have k1 := r1.lt
  have k2 := r2.lt
  have s1 := hb1.size
  have hkk : k ≤ 100 := by omega
  have HD : Hid (d + i = n ∧ i ≤ n) := ⟨hdi, hi⟩
  have hd1 : d ≤ 100 := by omega
  have hi1 : i ≤ 100 := by omega
  obtain ⟨mk, hmk⟩ : ∃ mk, mk = m - k := ⟨_, rfl⟩
  have hmk1 : 0 < mk := by omega
  have hmk2 : mk ≤ 100 := by omega
  have HMK := Lib.hid hmk
  rw [← hmk] at HA H1 ⊢
  clear hA1 hA2 lA1 lA2 hy hno hki r1 r2 rd1 rd2 hb1 hdi hi hmk
  have c1 : Hid (∀ j u, A1[j]? = some u → w1.cell? ((⟨gw, 0, none⟩ : Addr).add j) = some u) := by rw [HA.out.1]; exact H1.out.2.2.1.cells
  go_wp2_with (at_builtin; go_must (refine wpList_append_own_at _ rfl (.tmp 43) (.tmp 44) 55 rfl (w.heap.size) 59 i0 .nilIface 1 16 Tryd.underlying55 HI.out.1 HI.out.2.1 HI.out.2.2.1 HI.out.2.2.2 rfl (by decide) (.slice (some ⟨g1, 0, none⟩) i i) (i) _ rfl H1.out.1 ⟨gw, 0, none⟩ (k) _ A1 rfl HA.out.2.2.1 c1.out HA.out.2.2.2.2.1 ?c3 ?c4 ?c5 ?_))
  case c3 => unfold maxLen; omega
  case c4 => omega
  case c5 => exact s1
  intro v2 w2 hown hgrow _ hat
  rw [HA.out.1] at hown
  obtain ⟨ga, ca, rfl, hrow, hgg, ho⟩ := grew H1.out.1 H1.out.2.2.1.1 (by omega) (by simpa only [List.map_take, List.map_drop] using hown) hgrow hat
  obtain ⟨n1, hn1⟩ : ∃ n1, n1 = i + k := ⟨_, rfl⟩
  rw [← hn1] at hrow ⊢
  have HN1 := Lib.hid hn1
  have hn11 : n1 ≤ 200 := by omega
  have hn12 : i ≤ n1 := by omega
  have hn13 : 0 < n1 := by omega
  clear hn1
  have H2 : Hid (Row w.heap.size w2 ga n1 ca (U.take i ++ V.take k) ∧ Row w.heap.size w2 g2 d d (U.drop i) ∧ Reads w2 gw k mk (V.drop k) ∧ Below w.heap.size w w2) :=
    ⟨hrow, H1.out.2.1.other (B' := 0) ho (fun e => hne e.symm), H1.out.2.2.2.1.only ho (by omega), H1.out.2.2.2.2.trans (ho.below s1 (fun k hk => by simp at hk; omega))⟩
  have k3 := hrow.lt
  have s2 := ho.size
  have hag : ga ≠ g2 := by omega
  clear hown hgrow hat hrow ho
  have c2 : Hid (∀ j u, A2[j]? = some u → w2.cell? ((⟨gw, k, none⟩ : Addr).add j) = some u) := by rw [HA.out.2.1]; exact H2.out.2.2.1.cells
  go_wp2_with (at_builtin; go_must (refine wpList_append_own_at _ rfl (.tmp 46) (.tmp 47) 55 rfl (w.heap.size) 59 i0 .nilIface 1 16 Tryd.underlying55 HI.out.1 HI.out.2.1 HI.out.2.2.1 HI.out.2.2.2 rfl (by decide) (.slice (some ⟨g2, 0, none⟩) d d) (d) _ rfl H2.out.2.1 ⟨gw, k, none⟩ (mk) _ A2 rfl HA.out.2.2.2.1 c2.out HA.out.2.2.2.2.2 ?c3 ?c4 ?c5 ?_))
  case c3 => unfold maxLen; omega
  case c4 => omega
  case c5 => omega
  intro v3 w3 hown hgrow _ hat
  rw [HA.out.2.1] at hown
  obtain ⟨gb, cb, rfl, hrow, hgg2, ho⟩ := grew H2.out.2.1 H2.out.2.2.1.1 (by omega) (by simpa only [List.map_take, List.map_drop] using hown) hgrow hat
  obtain ⟨n2, hn2⟩ : ∃ n2, n2 = d + mk := ⟨_, rfl⟩
  rw [← hn2] at hrow ⊢
  have HN2 := Lib.hid hn2
  have hn21 : n2 ≤ 200 := by omega
  have hn22 : d ≤ n2 := by omega
  clear hn2
  have H3 : Hid (Row w.heap.size w3 ga n1 ca (U.take i ++ V.take k) ∧ Row w.heap.size w3 gb n2 cb (U.drop i ++ V.drop k) ∧ Below w.heap.size w w3) :=
    ⟨H2.out.1.other (B' := 0) ho hag, hrow, H2.out.2.2.2.trans (ho.below (by omega) (fun k hk => by simp at hk; omega))⟩
  have hab : ga ≠ gb := by omega
  have k4 := hrow.lt
  have s3 := ho.size
  clear hown hgrow hat hrow ho
  have sS : Hid (U.length = n ∧ V.length = m) := ⟨HH.out.1.len, HH.out.2.1.len⟩
  go_wp2_with fail
  refine (merge_any w.heap.size ga n1 ca (by omega) n1 w3 0 i n1 _ (by omega) H3.out.1 (Nat.zero_le _) (by omega) (Nat.le_refl _) (srt_left (by rw [List.length_take, sS.out.1]; have := HD.out; omega) (srt_take HH.out.2.2.1 HD.out.2)) (by rw [HN1.out]; exact srt_right (by rw [List.length_take, sS.out.1]; have := HD.out; omega) (by rw [List.length_take, sS.out.2]; omega) (srt_take HH.out.2.2.2 (by omega)))).mono ?_
  rintro e w4 ⟨rfl, L1, hmer, hrow, ho⟩
  have H4 : Hid (Row w.heap.size w4 ga n1 ca L1 ∧ Row w.heap.size w4 gb n2 cb (U.drop i ++ V.drop k) ∧ L1.Perm (U.take i ++ V.take k) ∧ Up L1 ∧ Below w.heap.size w w4) :=
    ⟨hrow, H3.out.2.1.other (B' := 0) ho (fun e => hab e.symm), hmer.perm, up_of_srt hrow.len hmer.srt, H3.out.2.2.trans (ho.below (by omega) (fun k hk => by simp at hk; omega))⟩
  have s4 := ho.size
  clear hmer hrow ho
  go_wp2_with fail
  refine (merge_any w.heap.size gb n2 cb (by omega) n2 w4 0 d n2 _ (by omega) H4.out.2.1 (Nat.zero_le _) (by omega) (Nat.le_refl _) (srt_left (by rw [List.length_drop, sS.out.1]; have := HD.out; omega) (by have h := srt_drop HH.out.2.2.1 HD.out.2; rw [show n - i = d by have := HD.out; omega] at h; exact h)) (by rw [HN2.out]; exact srt_right (by rw [List.length_drop, sS.out.1]; have := HD.out; omega) (by rw [List.length_drop, sS.out.2, HMK.out]) (by have h := srt_drop HH.out.2.2.2 (Nat.le_of_lt hkm); rw [← HMK.out] at h; exact h))).mono ?_
  rintro e w5 ⟨rfl, L2, hmer, hrow, ho⟩
  have H5 : Hid (Row w.heap.size w5 ga n1 ca L1 ∧ Row w.heap.size w5 gb n2 cb L2 ∧ L2.Perm (U.drop i ++ V.drop k) ∧ Up L2 ∧ Below w.heap.size w w5) :=
    ⟨H4.out.1.other (B' := 0) ho hab, hrow, hmer.perm, up_of_srt hrow.len hmer.srt, H4.out.2.2.2.2.trans (ho.below (by omega) (fun k hk => by simp at hk; omega))⟩
  have s5 := ho.size
  obtain ⟨A3, hA3⟩ : ∃ A, A = L2.map mit := ⟨_, rfl⟩
  have HA3 : Hid (A3 = L2.map mit ∧ A3.length = n2 * 1 ∧ (∀ j u, A3[j]? = some u → w5.cell? ((⟨gb, 0, none⟩ : Addr).add j) = some u) ∧ (∀ u ∈ A3, u.oneCell' = true)) := by
    subst hA3
    exact ⟨rfl, by rw [List.length_map, hrow.len]; omega, hrow.cells, one_all _⟩
  clear hmer hrow ho hA3
  go_wp2_with (at_builtin; go_must (refine wpList_append_own_at _ rfl (.tmp 59) (.tmp 60) 55 rfl (w.heap.size) 59 i0 .nilIface 1 16 Tryd.underlying55 HI.out.1 HI.out.2.1 HI.out.2.2.1 HI.out.2.2.2 rfl (by decide) (.slice (some ⟨ga, 0, none⟩) n1 ca) (n1) _ rfl H5.out.1 ⟨gb, 0, none⟩ (n2) _ A3 rfl HA3.out.2.1 HA3.out.2.2.1 HA3.out.2.2.2 ?c3 ?c4 ?c5 ?_))
  case c3 => unfold maxLen; omega
  case c4 => omega
  case c5 => omega
  intro v6 w6 hown hgrow _ hat
  rw [HA3.out.1] at hown
  obtain ⟨gc, cc, rfl, hrow, hgg3, ho⟩ := grew H5.out.1 H5.out.2.1.len (by omega) (by simpa only [List.map_take, List.map_drop] using hown) hgrow hat
  have hbu := both_up sS.out.1 sS.out.2 HH.out.2.2.1 HH.out.2.2.2 HD.out.2 hk0 hkm HK.out.2.1 HK.out.2.2 H4.out.2.2.1 H5.out.2.2.1 H4.out.2.2.2.1 H5.out.2.2.2.1
  have H6 : Hid (Row B w6 gc (n1 + n2) cc (L1 ++ L2) ∧ (L1 ++ L2).Perm (U ++ V) ∧ Up (L1 ++ L2) ∧ Below B w w6) :=
    ⟨own_low' hrow hB, hbu.1, hbu.2, (H5.out.2.2.2.2.trans (ho.below (by omega) (fun k hk => by simp at hk; omega))).mono hB⟩
  clear hown hgrow hat hrow ho hbu
  go_wp2_with fail
  go_ret
  exact ⟨gc, _, cc, _, rfl, H6.out.1, H6.out.2.1, H6.out.2.2.1, H6.out.2.2.2⟩

set_option maxRecDepth 1000000 in
set_option maxHeartbeats 4000000 in
theorem sym_far2 {w : World} {B gu n capu gw m capw : Nat} {U V : List Item} (hU : Row B w gu n capu U) (hV : Row B w gw m capw V) (hB : B ≤ w.heap.size) (hn : n ≤ 100) (hm : m ≤ 100) (su : Srt U 0 n) (sv : Srt V 0 m) (h0 : 0 < m) (hd : m + 2 ≤ n) :
    Calls Tryd.prog 22 #[.slice (some ⟨gu, 0, none⟩) n capu, .slice (some ⟨gw, 0, none⟩) m capw] w fun e w' => Done B w U V e w' := by
  obtain ⟨i0, hi, hz0, hz1, hz2⟩ := info_at infoM
  have HI : Hid (Tryd.prog.info? 59 = some i0 ∧ i0.zero = some .nilIface ∧ i0.size = 1 ∧ i0.bytes = 16) := ⟨hi, hz0, hz1, hz2⟩
  clear hi hz0 hz1 hz2
  have hfar : far ((n : Int) - (m : Int)) = true := by rw [far_eq (by omega) (by omega)]; simp; omega
  unfold far at hfar
  have hw : IntKind.i64.wrap ((n : Int) - (m : Int)) = (n : Int) - (m : Int) := by rw [IntKind.wrap_i64]; omega
  have z1 : ((n : Int) == 0) = false := by simp; omega
  have z2 : ((m : Int) == 0) = false := by simp; omega
  have HH : Hid (Row B w gu n capu U ∧ Row B w gw m capw V ∧ Srt U 0 n ∧ Srt V 0 m) := ⟨hU, hV, su, sv⟩
  have hgS := hV.lt
  have hgL := hU.lt
  clear hU hV su sv
  go_enter Tryd.func22, Tryd.ntmps22
  go_wp2_with fail
  refine (abs_any _ _).mono ?_
  rintro e w' ⟨rfl, rfl⟩
  go_wp2_with fail
  refine (prepare_turned HH.out.2.1 HH.out.1 (by omega) hd HH.out.2.2.2 HH.out.2.2.1).mono ?_
  rintro e w1 ⟨i, d, k, g1, g2, hdi, hki, hi, hk0, hkm, hcl, hy, hno, rfl, r1, r2, hne, rd1, rd2, hb1⟩
  obtain ⟨A1, hA1⟩ : ∃ A, A = (U.take k).map mit := ⟨_, rfl⟩
  obtain ⟨A2, hA2⟩ : ∃ A, A = (U.drop k).map mit := ⟨_, rfl⟩
  have lA1 : A1.length = k := by rw [hA1, List.length_map, rd1.1]
  have lA2 : A2.length = n - k := by rw [hA2, List.length_map, rd2.1]
  have HK : Hid (k + i = (n - m) / 2 + m ∧ (∀ a, a < i → ky V a ≤ ky U (k + (i - 1 - a))) ∧ (∀ a, i ≤ a → a < m → ky U (k + i - 1 - a) < ky V a)) := ⟨hki, hy, hno⟩
  have H1 : Hid (Row w.heap.size w1 g1 i i (V.take i) ∧ Row w.heap.size w1 g2 d d (V.drop i) ∧ Reads w1 gu 0 k (U.take k) ∧ Reads w1 gu k (n - k) (U.drop k) ∧ Below w.heap.size w w1) := ⟨r1, r2, rd1, rd2, hb1⟩
  have HA : Hid (A1 = (U.take k).map mit ∧ A2 = (U.drop k).map mit ∧ A1.length = k * 1 ∧ A2.length = (n - k) * 1 ∧ (∀ u ∈ A1, u.oneCell' = true) ∧ (∀ u ∈ A2, u.oneCell' = true)) := ⟨hA1, hA2, by omega, by omega, by rw [hA1]; exact one_all _, by rw [hA2]; exact one_all _⟩
  have k1 := r1.lt
  have k2 := r2.lt
  have s1 := hb1.size
  have hkk : k ≤ 100 := by omega
  have HD : Hid (d + i = m ∧ i ≤ m) := ⟨hdi, hi⟩
  have hd1 : d ≤ 100 := by omega
  have hi1 : i ≤ 100 := by omega
  obtain ⟨mk, hmk⟩ : ∃ mk, mk = n - k := ⟨_, rfl⟩
  have hmk1 : 0 < mk := by omega
  have hmk2 : mk ≤ 100 := by omega
  have HMK := Lib.hid hmk
  rw [← hmk] at HA H1 ⊢
  clear hA1 hA2 lA1 lA2 hy hno hki r1 r2 rd1 rd2 hb1 hdi hi hmk
  have c1 : Hid (∀ j u, A1[j]? = some u → w1.cell? ((⟨gu, 0, none⟩ : Addr).add j) = some u) := by rw [HA.out.1]; exact H1.out.2.2.1.cells
  go_wp2_with (at_builtin; go_must (refine wpList_append_own_at _ rfl (.tmp 43) (.tmp 44) 55 rfl (w.heap.size) 59 i0 .nilIface 1 16 Tryd.underlying55 HI.out.1 HI.out.2.1 HI.out.2.2.1 HI.out.2.2.2 rfl (by decide) (.slice (some ⟨g1, 0, none⟩) i i) (i) _ rfl H1.out.1 ⟨gu, 0, none⟩ (k) _ A1 rfl HA.out.2.2.1 c1.out HA.out.2.2.2.2.1 ?c3 ?c4 ?c5 ?_))
  case c3 => unfold maxLen; omega
  case c4 => omega
  case c5 => exact s1
  intro v2 w2 hown hgrow _ hat
  rw [HA.out.1] at hown
  obtain ⟨ga, ca, rfl, hrow, hgg, ho⟩ := grew H1.out.1 H1.out.2.2.1.1 (by omega) (by simpa only [List.map_take, List.map_drop] using hown) hgrow hat
  obtain ⟨n1, hn1⟩ : ∃ n1, n1 = i + k := ⟨_, rfl⟩
  rw [← hn1] at hrow ⊢
  have HN1 := Lib.hid hn1
  have hn11 : n1 ≤ 200 := by omega
  have hn12 : i ≤ n1 := by omega
  have hn13 : 0 < n1 := by omega
  clear hn1
  have H2 : Hid (Row w.heap.size w2 ga n1 ca (V.take i ++ U.take k) ∧ Row w.heap.size w2 g2 d d (V.drop i) ∧ Reads w2 gu k mk (U.drop k) ∧ Below w.heap.size w w2) :=
    ⟨hrow, H1.out.2.1.other (B' := 0) ho (fun e => hne e.symm), H1.out.2.2.2.1.only ho (by omega), H1.out.2.2.2.2.trans (ho.below s1 (fun k hk => by simp at hk; omega))⟩
  have k3 := hrow.lt
  have s2 := ho.size
  have hag : ga ≠ g2 := by omega
  clear hown hgrow hat hrow ho
  have c2 : Hid (∀ j u, A2[j]? = some u → w2.cell? ((⟨gu, k, none⟩ : Addr).add j) = some u) := by rw [HA.out.2.1]; exact H2.out.2.2.1.cells
  go_wp2_with (at_builtin; go_must (refine wpList_append_own_at _ rfl (.tmp 46) (.tmp 47) 55 rfl (w.heap.size) 59 i0 .nilIface 1 16 Tryd.underlying55 HI.out.1 HI.out.2.1 HI.out.2.2.1 HI.out.2.2.2 rfl (by decide) (.slice (some ⟨g2, 0, none⟩) d d) (d) _ rfl H2.out.2.1 ⟨gu, k, none⟩ (mk) _ A2 rfl HA.out.2.2.2.1 c2.out HA.out.2.2.2.2.2 ?c3 ?c4 ?c5 ?_))
  case c3 => unfold maxLen; omega
  case c4 => omega
  case c5 => omega
  intro v3 w3 hown hgrow _ hat
  rw [HA.out.2.1] at hown
  obtain ⟨gb, cb, rfl, hrow, hgg2, ho⟩ := grew H2.out.2.1 H2.out.2.2.1.1 (by omega) (by simpa only [List.map_take, List.map_drop] using hown) hgrow hat
  obtain ⟨n2, hn2⟩ : ∃ n2, n2 = d + mk := ⟨_, rfl⟩
  rw [← hn2] at hrow ⊢
  have HN2 := Lib.hid hn2
  have hn21 : n2 ≤ 200 := by omega
  have hn22 : d ≤ n2 := by omega
  clear hn2
  have H3 : Hid (Row w.heap.size w3 ga n1 ca (V.take i ++ U.take k) ∧ Row w.heap.size w3 gb n2 cb (V.drop i ++ U.drop k) ∧ Below w.heap.size w w3) :=
    ⟨H2.out.1.other (B' := 0) ho hag, hrow, H2.out.2.2.2.trans (ho.below (by omega) (fun k hk => by simp at hk; omega))⟩
  have hab : ga ≠ gb := by omega
  have k4 := hrow.lt
  have s3 := ho.size
  clear hown hgrow hat hrow ho
  have sS : Hid (V.length = m ∧ U.length = n) := ⟨HH.out.2.1.len, HH.out.1.len⟩
  go_wp2_with fail
  refine (merge_any w.heap.size ga n1 ca (by omega) n1 w3 0 i n1 _ (by omega) H3.out.1 (Nat.zero_le _) (by omega) (Nat.le_refl _) (srt_left (by rw [List.length_take, sS.out.1]; have := HD.out; omega) (srt_take HH.out.2.2.2 HD.out.2)) (by rw [HN1.out]; exact srt_right (by rw [List.length_take, sS.out.1]; have := HD.out; omega) (by rw [List.length_take, sS.out.2]; omega) (srt_take HH.out.2.2.1 (by omega)))).mono ?_
  rintro e w4 ⟨rfl, L1, hmer, hrow, ho⟩
  have H4 : Hid (Row w.heap.size w4 ga n1 ca L1 ∧ Row w.heap.size w4 gb n2 cb (V.drop i ++ U.drop k) ∧ L1.Perm (V.take i ++ U.take k) ∧ Up L1 ∧ Below w.heap.size w w4) :=
    ⟨hrow, H3.out.2.1.other (B' := 0) ho (fun e => hab e.symm), hmer.perm, up_of_srt hrow.len hmer.srt, H3.out.2.2.trans (ho.below (by omega) (fun k hk => by simp at hk; omega))⟩
  have s4 := ho.size
  clear hmer hrow ho
  go_wp2_with fail
  refine (merge_any w.heap.size gb n2 cb (by omega) n2 w4 0 d n2 _ (by omega) H4.out.2.1 (Nat.zero_le _) (by omega) (Nat.le_refl _) (srt_left (by rw [List.length_drop, sS.out.1]; have := HD.out; omega) (by have h := srt_drop HH.out.2.2.2 HD.out.2; rw [show m - i = d by have := HD.out; omega] at h; exact h)) (by rw [HN2.out]; exact srt_right (by rw [List.length_drop, sS.out.1]; have := HD.out; omega) (by rw [List.length_drop, sS.out.2, HMK.out]) (by have h := srt_drop HH.out.2.2.1 (Nat.le_of_lt hkm); rw [← HMK.out] at h; exact h))).mono ?_
  rintro e w5 ⟨rfl, L2, hmer, hrow, ho⟩
  have H5 : Hid (Row w.heap.size w5 ga n1 ca L1 ∧ Row w.heap.size w5 gb n2 cb L2 ∧ L2.Perm (V.drop i ++ U.drop k) ∧ Up L2 ∧ Below w.heap.size w w5) :=
    ⟨H4.out.1.other (B' := 0) ho hab, hrow, hmer.perm, up_of_srt hrow.len hmer.srt, H4.out.2.2.2.2.trans (ho.below (by omega) (fun k hk => by simp at hk; omega))⟩
  have s5 := ho.size
  obtain ⟨A3, hA3⟩ : ∃ A, A = L2.map mit := ⟨_, rfl⟩
  have HA3 : Hid (A3 = L2.map mit ∧ A3.length = n2 * 1 ∧ (∀ j u, A3[j]? = some u → w5.cell? ((⟨gb, 0, none⟩ : Addr).add j) = some u) ∧ (∀ u ∈ A3, u.oneCell' = true)) := by
    subst hA3
    exact ⟨rfl, by rw [List.length_map, hrow.len]; omega, hrow.cells, one_all _⟩
  clear hmer hrow ho hA3
  go_wp2_with (at_builtin; go_must (refine wpList_append_own_at _ rfl (.tmp 59) (.tmp 60) 55 rfl (w.heap.size) 59 i0 .nilIface 1 16 Tryd.underlying55 HI.out.1 HI.out.2.1 HI.out.2.2.1 HI.out.2.2.2 rfl (by decide) (.slice (some ⟨ga, 0, none⟩) n1 ca) (n1) _ rfl H5.out.1 ⟨gb, 0, none⟩ (n2) _ A3 rfl HA3.out.2.1 HA3.out.2.2.1 HA3.out.2.2.2 ?c3 ?c4 ?c5 ?_))
  case c3 => unfold maxLen; omega
  case c4 => omega
  case c5 => omega
  intro v6 w6 hown hgrow _ hat
  rw [HA3.out.1] at hown
  obtain ⟨gc, cc, rfl, hrow, hgg3, ho⟩ := grew H5.out.1 H5.out.2.1.len (by omega) (by simpa only [List.map_take, List.map_drop] using hown) hgrow hat
  have hbu := both_up sS.out.1 sS.out.2 HH.out.2.2.2 HH.out.2.2.1 HD.out.2 hk0 hkm HK.out.2.1 HK.out.2.2 H4.out.2.2.1 H5.out.2.2.1 H4.out.2.2.2.1 H5.out.2.2.2.1
  have H6 : Hid (Row B w6 gc (n1 + n2) cc (L1 ++ L2) ∧ (L1 ++ L2).Perm (U ++ V) ∧ Up (L1 ++ L2) ∧ Below B w w6) :=
    ⟨own_low' hrow hB, hbu.1.trans List.perm_append_comm, hbu.2, (H5.out.2.2.2.2.trans (ho.below (by omega) (fun k hk => by simp at hk; omega))).mono hB⟩
  clear hown hgrow hat hrow ho hbu
  go_wp2_with fail
  go_ret
  exact ⟨gc, _, cc, _, rfl, H6.out.1, H6.out.2.1, H6.out.2.2.1, H6.out.2.2.2⟩

theorem sym_any {w : World} {B gu n capu gw m capw : Nat} {U V : List Item} (hU : Row B w gu n capu U) (hV : Row B w gw m capw V) (hB : B ≤ w.heap.size) (hn : n ≤ 100) (hm : m ≤ 100) (su : Srt U 0 n) (sv : Srt V 0 m) :
    Calls Tryd.prog 22 #[.slice (some ⟨gu, 0, none⟩) n capu, .slice (some ⟨gw, 0, none⟩) m capw] w fun e w' => Done B w U V e w' := by
  by_cases h0 : n = 0 ∨ m = 0
  · exact sym_none hU hV hB hn hm su sv h0
  · by_cases h1 : n + 2 ≤ m
    · exact sym_far hU hV hB hn hm su sv (by omega) h1
    · by_cases h2 : m + 2 ≤ n
      · exact sym_far2 hU hV hB hn hm su sv (by omega) h2
      · exact sym_near hU hV hB hn hm su sv (by omega) (by omega) (by omega)
end Go.Proofs.YtmkbgdgfbmfbdaaDoor.MG
