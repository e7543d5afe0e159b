/- FIRun: a map's answers to a list of steps. -/
import Derived.Test.YtiiobifljflkiaaF9
import Derived.Maps.AppendAt
namespace Go.Proofs.Ytiiobifljflkiaa
open Go.RowKit FI

/-- A step: what, the key, the value. -/
structure Stp where
  op : Nat
  key : Nat
  val : Nat
/-- A dictionary and how often something was counted. -/
structure St where
  D : Nat → Option Nat
  c : Nat
def nxt (s : St) (x : Stp) : St :=
  if x.op = 1 then ⟨setD s.D x.key x.val, s.c + 1⟩ else if x.op = 4 then ⟨gone s.D x.key, s.c - (s.D x.key).isSome.toNat⟩ else s
/-- What a step says, Cap aside. -/
def tell (s : St) (x : Stp) : Nat × Bool :=
  if x.op = 2 then (said (s.D x.key), (s.D x.key).isSome) else if x.op = 3 then (0, (s.D x.key).isSome) else if x.op = 5 then (s.c, false) else (0, false)
def st0 : St := ⟨fun _ => none, 0⟩
def stp0 : Stp := ⟨0, 0, 0⟩
def after (xs : List Stp) (i : Nat) : St := (xs.take i).foldl nxt st0
theorem after_succ {xs : List Stp} {i : Nat} (h : i < xs.length) : after xs (i + 1) = nxt (after xs i) (xs.getD i stp0) := by
  unfold after
  rw [List.take_succ_eq_append_getElem h, List.foldl_append]
  simp [h]
/-- A slice that reads as a list of steps. -/
def Stps (w : World) (sl : Value) (xs : List Stp) : Prop :=
  (sl = .slice none 0 0 ∧ xs = []) ∨ ∃ b o c, sl = .slice (some ⟨b, o, none⟩) xs.length c ∧ xs.length ≤ c ∧ ∀ i, i < xs.length →
    w.cell? ⟨b, o + i * 3, none⟩ = some (.int .i64 ((xs.getD i stp0).op : Nat)) ∧ w.cell? ⟨b, o + i * 3 + 1, none⟩ = some (.int .u64 ((xs.getD i stp0).key : Nat)) ∧ w.cell? ⟨b, o + i * 3 + 2, none⟩ = some (.int .u64 ((xs.getD i stp0).val : Nat))
def Okay (xs : List Stp) : Prop := ∀ i, i < xs.length → 1 ≤ (xs.getD i stp0).op ∧ (xs.getD i stp0).op ≤ 6 ∧ (xs.getD i stp0).key < 18446744073709551616 ∧ (xs.getD i stp0).val < 18446744073709551616 ∧ (after xs i).c < 304
def ans (L : List (Nat × Bool)) : List Value := L.flatMap fun y => [.int .u64 (y.1 : Nat), .bool y.2]
theorem cell_lt {w : World} {a : Addr} {v : Value} (h : w.cell? a = some v) : a.block < w.heap.size := by
  rcases Nat.lt_or_ge a.block w.heap.size with h' | h'
  · exact h'
  · simp [World.cell?, Array.getElem?_eq_none h'] at h
theorem own_keep {w w' : World} {base : Nat} {e : TypeId} {size : Nat} {v : Value} {n : Nat} {xs : List Value} (h : w.ownsRow base e size v n xs)
    (hs : ∀ k, v.ownBlock = some k → k < w.heap.size → w'.heap[k]? = w.heap[k]?) : w'.ownsRow base e size v n xs := by
  obtain ⟨h1, h | ⟨g, cap, cur, hv, hge, hh, r⟩⟩ := h
  · exact ⟨h1, Or.inl h⟩
  · have hlt : g < w.heap.size := Blk.lt (show Blk w g cur e from hh)
    exact ⟨h1, Or.inr ⟨g, cap, cur, hv, hge, (hs g (by rw [hv]; simp [Value.ownBlock]) hlt).trans hh, r⟩⟩
theorem own_lt {w : World} {base : Nat} {e : TypeId} {size : Nat} {v : Value} {n : Nat} {xs : List Value} (h : w.ownsRow base e size v n xs) {k : Nat} (hk : v.ownBlock = some k) : base ≤ k ∧ k < w.heap.size := by
  obtain ⟨h1, h | ⟨g, cap, cur, hv, hge, hh, r⟩⟩ := h
  · rw [h.1] at hk; simp [Value.ownBlock] at hk
  · have hlt : g < w.heap.size := Blk.lt (show Blk w g cur e from hh)
    rw [hv] at hk
    simp [Value.ownBlock] at hk
    subst hk
    exact ⟨hge, hlt⟩
structure Inv (w : World) (B p : Nat) (xs : List Stp) (k : Nat) (out : Value) (a : Nat) (L : List (Nat × Bool)) (wr : World) : Prop where
  d : Dc wr (fun x => B ≤ x ∧ out.ownBlock ≠ some x) p a (after xs k).c (after xs k).D
  a11 : a < 11
  c2 : (after xs k).c < 2 ^ a
  own : wr.ownsRow B 30 2 out L.length (ans L)
  len : L.length = k
  said : ∀ i, i < k → (xs.getD i stp0).op ≠ 6 → L.getD i (0, false) = tell (after xs i) (xs.getD i stp0)
  below : Below B w wr
/-- Blocks of the map, in a round. -/
def FM (B S : Nat) (out : Value) : Nat → Prop := fun x => B ≤ x ∧ out.ownBlock ≠ some x ∧ x ≠ S ∧ x ≠ S + 1
structure Mid (w : World) (B S p : Nat) (out : Value) (L : List (Nat × Bool)) (a c : Nat) (D : Nat → Option Nat) (n : Nat) (y : Bool) (W : World) : Prop where
  d : Dc W (FM B S out) p a c D
  a11 : a < 11
  c2 : c < 2 ^ a
  own : W.ownsRow B 30 2 out L.length (ans L)
  s : Blk W (S + 1) #[.int .u64 n, .bool y] 30
  lo : B ≤ S
  out : ∀ x, out.ownBlock = some x → x < S
  below : Below B w W
theorem Inv.mid {w wr : World} {B p k a : Nat} {xs : List Stp} {out : Value} {L : List (Nat × Bool)} (h : Inv w B p xs k out a L wr) (hB : B ≤ w.heap.size) (o : Obj) :
    Mid w B wr.heap.size p out L a (after xs k).c (after xs k).D 0 false ((wr.alloc o).alloc (.cells #[.int .u64 0, .bool false] 30)) := by
  have hs : B ≤ wr.heap.size := Nat.le_trans hB h.below.size
  have hx : Below wr.heap.size wr ((wr.alloc o).alloc (.cells #[.int .u64 0, .bool false] 30)) := ((Below.refl _ _).alloc (Nat.le_refl _) _).alloc (by simp) _
  refine ⟨h.d.move (fun k hk _ => hx.block k hk) (fun k hk hf => ⟨hf.1, hf.2, by omega, by omega⟩), h.a11, h.c2, own_keep h.own (fun k _ hk => hx.block k hk), ?_, hs, fun x hx => (own_lt h.own hx).2, h.below.trans (hx.mono hs)⟩
  have := Blk.new (wr.alloc o) #[.int .u64 0, .bool false] 30
  simp at this
  exact this
section
variable {w W W' : World} {B S p a c n : Nat} {out : Value} {L : List (Nat × Bool)} {D : Nat → Option Nat} {y : Bool}
theorem Mid.free (h : Mid w B S p out L a c D n y W) (x : Nat) (hx : W.heap.size ≤ x) : FM B S out x := by
  have h1 := h.s.lt
  have h2 := h.lo
  exact ⟨by omega, fun e => by have := h.out x e; omega, by omega, by omega⟩
theorem Mid.kept {a' c' : Nat} {D' : Nat → Option Nat} (h : Mid w B S p out L a c D n y W) (hk : Kept (FM B S out) W W') (hd : Dc W' (FM B S out) p a' c' D') (ha : a' < 11) (hc : c' < 2 ^ a') : Mid w B S p out L a' c' D' n y W' :=
  ⟨hd, ha, hc, own_keep h.own (fun k hk' hlt => hk.block k hlt (fun hf => hf.2.1 hk')), h.s.kept hk (fun hf => hf.2.2.2 rfl), h.lo, h.out, h.below.trans (hk.below (by have := h.s.lt; have := h.lo; omega) (fun k hf => hf.1))⟩
theorem Mid.set0 (h : Mid w B S p out L a c D n y W) (m : Nat) : Mid w B S p out L a c D m y (W.setCell ⟨S + 1, 0, none⟩ (.int .u64 m)) := by
  have hs := fun k (hk : k ≠ S + 1) => Below.heap_setCell W ⟨S + 1, 0, none⟩ (.int .u64 m) k hk
  exact ⟨h.d.move (fun k _ hf => hs k hf.2.2.2) (fun _ _ hf => hf), h.a11, h.c2, own_keep h.own (fun k hk _ => hs k (by have := h.out k hk; omega)), h.s.set 0 _, h.lo, h.out, h.below.setCell (by have := h.lo; show B ≤ S + 1; omega) _⟩
theorem Mid.set1 (h : Mid w B S p out L a c D n y W) (m : Bool) : Mid w B S p out L a c D n m (W.setCell ⟨S + 1, 1, none⟩ (.bool m)) := by
  have hs := fun k (hk : k ≠ S + 1) => Below.heap_setCell W ⟨S + 1, 1, none⟩ (.bool m) k hk
  exact ⟨h.d.move (fun k _ hf => hs k hf.2.2.2) (fun _ _ hf => hf), h.a11, h.c2, own_keep h.own (fun k hk _ => hs k (by have := h.out k hk; omega)), h.s.set 1 _, h.lo, h.out, h.below.setCell (by have := h.lo; show B ≤ S + 1; omega) _⟩
theorem Mid.next {W3 : World} {xs : List Stp} {k m : Nat} {v' : Value} {o : Obj} (h : Mid w B S p out L a c D n y W) (hx : after xs (k + 1) = ⟨D, c⟩) (hl : L.length = k)
    (hs : ∀ i, i < k → (xs.getD i stp0).op ≠ 6 → L.getD i (0, false) = tell (after xs i) (xs.getD i stp0)) (hk : (xs.getD k stp0).op ≠ 6 → (n, y) = tell (after xs k) (xs.getD k stp0))
    (hown : W3.ownsRow B 30 2 v' (k + 1) (ans L ++ [.int .u64 (n : Nat), .bool y])) (hg : (W.alloc o).grownBy W3 out.ownBlock) (hb : v'.ownBlock = out.ownBlock ∨ v'.ownBlock = some m) (hm : W.heap.size + 1 = m) :
    Inv w B p xs (k + 1) v' a (L ++ [(n, y)]) W3 := by
  have hS := h.s.lt
  have hL := h.lo
  refine ⟨?_, h.a11, by rw [hx]; exact h.c2, ?_, by simp [hl], fun i hi h6 => ?_, h.below.trans (own_grown h.own hg (by omega))⟩
  · rw [hx]
    refine h.d.move (fun x hx hf => ?_) (fun x hx hf => ⟨hf.1, fun e => ?_⟩)
    · rw [hg.block x (by simp; omega) (fun e => hf.2.1 e.symm)]
      exact Below.heap_alloc _ _ _ hx
    · rcases hb with hb | hb
      · exact hf.2.1 (hb.symm.trans e)
      · rw [hb] at e; simp at e; omega
  · rw [← hl] at hown; simpa [ans] using hown
  · rw [List.getD_eq_getElem?_getD]
    rcases Nat.lt_or_ge i k with h1 | h1
    · rw [List.getElem?_append_left (by omega), ← List.getD_eq_getElem?_getD]; exact hs i h1 h6
    · have : i = k := by omega
      subst this
      rw [List.getElem?_append_right (by omega), hl, Nat.sub_self]
      exact hk h6
end
theorem pair_new (W : World) (u v : Value) (t : TypeId) (ad : Nat) (had : ad = W.heap.size) : ∀ j x, [u, v][j]? = some x → (W.alloc (.cells #[u, v] t)).cell? ((⟨ad, 0, none⟩ : Addr).add j) = some x := by
  subst had
  have hb := Blk.new W #[u, v] t
  intro j x hj
  match j, hj with
  | 0, hj => simp at hj; subst hj; exact hb.cell rfl
  | 1, hj => simp at hj; subst hj; exact hb.cell rfl
theorem info30 : (Try.prog.info? 30).map (fun i => (i.zero, i.size, i.bytes)) = some (some (.agg #[.int .u64 0, .bool false]), 2, 16) := by kernel_rfl
theorem info_parts2 {P : Program} {t : TypeId} {z : Value} {s b : Nat} (h : (P.info? t).map (fun i => (i.zero, i.size, i.bytes)) = some (some z, s, b)) : ∃ i, P.info? t = some i ∧ i.zero = some z ∧ i.size = s ∧ i.bytes = b := by
  cases hi : P.info? t with
  | none => rw [hi] at h; simp at h
  | some i => rw [hi] at h; simp at h; exact ⟨i, rfl, h.1, h.2.1, h.2.2⟩

set_option maxRecDepth 100000 in
set_option maxHeartbeats 2000000 in
theorem Run_any {w : World} {sl : Value} {xs : List Stp} {h : Nat} (hh : h < 601) (hS : Stps w sl xs) (hO : Okay xs) (hn : xs.length ≤ 100000) :
    Calls Try.prog 5 #[.int .u64 h, sl] w fun e w' => ∃ (v : Value) (L : List (Nat × Bool)), e = .returned v ∧ w'.ownsRow w.heap.size 30 2 v L.length (ans L) ∧
      L.length = xs.length ∧ (∀ i, i < xs.length → (xs.getD i stp0).op ≠ 6 → L.getD i (0, false) = tell (after xs i) (xs.getD i stp0)) ∧ Below w.heap.size w w' := by
  obtain ⟨i0, hi, hz0, hz1, hz2⟩ := info_parts2 info30
  have HI : Hid (Try.prog.info? 30 = some i0 ∧ i0.zero = some (.agg #[.int .u64 0, .bool false]) ∧ i0.size = 2 ∧ i0.bytes = 16) := ⟨hi, hz0, hz1, hz2⟩
  clear hi hz0 hz1 hz2
  have HS := Lib.hid hS
  have HO := Lib.hid hO
  obtain ⟨so, cp, hsl⟩ : ∃ so cp, sl = .slice so xs.length cp := by
    rcases hS with ⟨h1, h2⟩ | ⟨b, o, c, h1, _⟩
    · exact ⟨none, 0, by rw [h1, h2]; rfl⟩
    · exact ⟨_, _, h1⟩
  subst hsl
  clear hS hO
  go_enter Try.func5, Try.ntmps5
  go_wp2_with fail
  refine (New_any _ (fun x => w.heap.size ≤ x) (fun x hx => hx) h hh).mono ?_
  rintro e w1 ⟨p, rfl, hD, hb⟩
  have HW : Hid (Dc w1 (fun x => w.heap.size ≤ x) p (lgh h) 0 (fun _ => none) ∧ Below w.heap.size w w1) := ⟨hD, hb⟩
  clear hD hb
  go_wp2_with fail
  go_loopw [6, 14] (fun out kv wr => ∃ (k a : Nat) (L : List (Nat × Bool)), k ≤ xs.length ∧ kv = .int .i64 k ∧ Hid (Inv w w.heap.size p xs k out a L wr)) (fun _ kv _ => xs.length - (intOf kv).toNat)
  case atStart => exact ⟨0, lgh h, [], by omega, rfl, ⟨HW.out.1.move (fun _ _ _ => rfl) (fun _ _ h => ⟨h, by simp [Value.ownBlock]⟩), (rup_lgh h hh).2, Nat.pow_pos (by decide), World.ownsRow_nil _ _ _ _, rfl, fun i hi => absurd hi (Nat.not_lt_zero _), HW.out.2⟩⟩
  case round =>
    obtain ⟨k, a, L, hk, rfl, hR⟩ := hrel
    have HR : Hid (Inv w w.heap.size p xs k _ a L wr) := hR
    clear hR
    by_cases hkl : k < xs.length
    · rcases HS.out with ⟨h1, h2⟩ | ⟨b, o, c, h1, h2, h3⟩
      · rw [h2] at hkl; exact absurd hkl (by simp)
      · simp only [Value.slice.injEq] at h1
        obtain ⟨rfl, _, rfl⟩ := h1
        obtain ⟨g0, g1, g2⟩ := h3 k hkl
        have hlt := cell_lt g0
        have hb := HR.out.below
        have c0 := (hb.cell hlt).trans g0
        have c1 := (hb.cell (cell_lt g1)).trans g1
        have c2 := (hb.cell (cell_lt g2)).trans g2
        obtain ⟨x, hx⟩ : ∃ x, x = xs.getD k stp0 := ⟨_, rfl⟩
        rw [← hx] at c0 c1 c2
        have HX := Lib.hid hx
        clear hx h3 hb g0 g1 g2 h2
        have hox := HO.out k hkl
        rw [← HX.out] at hox
        obtain ⟨ho1, ho6, hkey, hval, hc304⟩ := hox
        have HA := Lib.hid (after_succ hkl)
        have hl1 := HR.out.len
        have hop : x.op = 1 ∨ x.op = 2 ∨ x.op = 3 ∨ x.op = 4 ∨ x.op = 5 ∨ x.op = 6 := by omega
        have HC := Lib.hid hc304
        clear ho1 ho6 hc304
        rcases hop with ho | ho | ho | ho | ho | ho
        · have c3 : wr.cell? ⟨b, o + k * 3, none⟩ = some (.int .i64 1) := by rw [c0, ho]; rfl
          have HM := Lib.hid (HR.out.mid (Nat.le_refl _) (.cells #[.int .i64 1, .int .u64 x.key, .int .u64 x.val] 26))
          have HOP := Lib.hid ho
          clear c0 ho
          go_wp2_with fail
          refine (Set_any HM.out.d HM.out.free HM.out.a11 HM.out.c2 HC.out x.key x.val hkey hval).mono ?_
          rintro e w2 ⟨rfl, a', h1, h2, h3, h4⟩
          have HN := Lib.hid (HM.out.kept h4 h3 h1 h2)
          clear h1 h2 h3 h4
          clear c1 c2 c3
          have e0 : w2.cell? ⟨wr.heap.size + 1, 0, none⟩ = some (.int .u64 (0 : Nat)) := HN.out.s.cell rfl
          have e1 : w2.cell? ⟨wr.heap.size + 1, 1, none⟩ = some (.bool false) := HN.out.s.cell rfl
          have hsz := HN.out.s.lt
          have hlo := HN.out.lo
          have HW4 : Hid (∃ W4, W4 = w2) := ⟨_, rfl⟩
          go_wp2_with (at_builtin; go_must (refine wpList_append_own_at _ rfl _ _ 27 rfl w.heap.size 30 i0 (.agg #[.int .u64 0, .bool false]) 2 16 Try.underlying27 HI.out.1 HI.out.2.1 HI.out.2.2.1 HI.out.2.2.2 rfl (by decide) _ _ _ rfl (HN.out.own.alloc _) ⟨w2.heap.size, 0, none⟩ 1 1 [.int .u64 ((0 : Nat) : Nat), .bool false] rfl rfl ?c1 ?c2 ?c3 ?c4 ?c5 ?_))
          case c1 => exact pair_new _ _ _ _ _ (by simp)
          case c2 => intro u hu; simp at hu; rcases hu with rfl | rfl <;> rfl
          case c3 => unfold maxLen; omega
          case c4 => omega
          case c5 => simp at hsz ⊢; omega
          intro v' w3 hown' hgrow _ hblk
          have hx1 : after xs (k + 1) = ⟨setD (after xs k).D x.key x.val, (after xs k).c + 1⟩ := by rw [HA.out, ← HX.out, nxt, if_pos HOP.out]
          have hx2 : (xs.getD k stp0).op ≠ 6 → ((0 : Nat), false) = tell (after xs k) (xs.getD k stp0) := fun _ => by rw [← HX.out]; unfold tell; rw [HOP.out]; rfl
          have HQ := Lib.hid (HN.out.next (k := k) (xs := xs) hx1 hl1 HR.out.said hx2 hown' hgrow hblk (by simp))
          obtain ⟨so, cq, rfl⟩ := own_shape hown'
          clear hx1 hx2 hown' hgrow hblk e0 e1 hsz hlo HW4
          go_wp2_with fail
          go_roundw
          case rel => exact ⟨k + 1, _, _, by omega, by go_num, HQ⟩
          case measure => simp [intOf]; omega
        · have c3 : wr.cell? ⟨b, o + k * 3, none⟩ = some (.int .i64 2) := by rw [c0, ho]; rfl
          have HM := Lib.hid (HR.out.mid (Nat.le_refl _) (.cells #[.int .i64 2, .int .u64 x.key, .int .u64 x.val] 26))
          have HOP := Lib.hid ho
          clear c0 ho
          go_wp2_with fail
          refine (Get_any HM.out.d (by have := HM.out.a11; omega) HM.out.c2 x.key hkey).mono ?_
          rintro e w2 ⟨rfl, rfl⟩
          obtain ⟨w2, hW2⟩ : ∃ w2, w2 = ((wr.alloc (Obj.cells #[Value.int IntKind.i64 2, Value.int IntKind.u64 x.key, Value.int IntKind.u64 x.val] 26)).alloc (Obj.cells #[Value.int IntKind.u64 0, Value.bool false] 30)) := ⟨_, rfl⟩
          rw [← hW2] at HM ⊢
          clear hW2 c1 c2 c3
          have f0 := HM.out.s.free 0
          have f1 := HM.out.s.free 1
          have d0 : w2.cell? ⟨wr.heap.size + 1, 0, none⟩ = some (.int .u64 (0 : Nat)) := HM.out.s.cell rfl
          have d1 : w2.cell? ⟨wr.heap.size + 1, 1, none⟩ = some (.bool false) := HM.out.s.cell rfl
          have HN := Lib.hid ((HM.out.set0 (said ((after xs k).D x.key))).set1 ((after xs k).D x.key).isSome)
          have e0 : ((w2.setCell ⟨wr.heap.size + 1, 0, none⟩ (.int .u64 ((said ((after xs k).D x.key)) : Nat))).setCell ⟨wr.heap.size + 1, 1, none⟩ (.bool ((after xs k).D x.key).isSome)).cell? ⟨wr.heap.size + 1, 0, none⟩ = some (.int .u64 (said ((after xs k).D x.key))) := HN.out.s.cell rfl
          have e1 : ((w2.setCell ⟨wr.heap.size + 1, 0, none⟩ (.int .u64 ((said ((after xs k).D x.key)) : Nat))).setCell ⟨wr.heap.size + 1, 1, none⟩ (.bool ((after xs k).D x.key).isSome)).cell? ⟨wr.heap.size + 1, 1, none⟩ = some (.bool ((after xs k).D x.key).isSome) := HN.out.s.cell rfl
          have hsz := HN.out.s.lt
          have hlo := HN.out.lo
          have HW4 : Hid (∃ W4, W4 = ((w2.setCell ⟨wr.heap.size + 1, 0, none⟩ (.int .u64 ((said ((after xs k).D x.key)) : Nat))).setCell ⟨wr.heap.size + 1, 1, none⟩ (.bool ((after xs k).D x.key).isSome))) := ⟨_, rfl⟩
          go_wp2_with (at_builtin; go_must (refine wpList_append_own_at _ rfl _ _ 27 rfl w.heap.size 30 i0 (.agg #[.int .u64 0, .bool false]) 2 16 Try.underlying27 HI.out.1 HI.out.2.1 HI.out.2.2.1 HI.out.2.2.2 rfl (by decide) _ _ _ rfl (HN.out.own.alloc _) ⟨w2.heap.size, 0, none⟩ 1 1 [.int .u64 ((said ((after xs k).D x.key)) : Nat), .bool ((after xs k).D x.key).isSome] rfl rfl ?c1 ?c2 ?c3 ?c4 ?c5 ?_))
          case c1 => exact pair_new _ _ _ _ _ (by simp)
          case c2 => intro u hu; simp at hu; rcases hu with rfl | rfl <;> rfl
          case c3 => unfold maxLen; omega
          case c4 => omega
          case c5 => simp at hsz ⊢; omega
          intro v' w3 hown' hgrow _ hblk
          have hx1 : after xs (k + 1) = ⟨(after xs k).D, (after xs k).c⟩ := by rw [HA.out, ← HX.out, nxt, if_neg (by rw [HOP.out]; decide), if_neg (by rw [HOP.out]; decide)]
          have hx2 : (xs.getD k stp0).op ≠ 6 → ((said ((after xs k).D x.key)), ((after xs k).D x.key).isSome) = tell (after xs k) (xs.getD k stp0) := fun _ => by rw [← HX.out]; unfold tell; rw [HOP.out]; rfl
          have HQ := Lib.hid (HN.out.next (k := k) (xs := xs) hx1 hl1 HR.out.said hx2 hown' hgrow hblk (by simp))
          obtain ⟨so, cq, rfl⟩ := own_shape hown'
          clear hx1 hx2 hown' hgrow hblk e0 e1 hsz hlo HW4 d0 d1 f0 f1
          go_wp2_with fail
          go_roundw
          case rel => exact ⟨k + 1, _, _, by omega, by go_num, HQ⟩
          case measure => simp [intOf]; omega
        · have c3 : wr.cell? ⟨b, o + k * 3, none⟩ = some (.int .i64 3) := by rw [c0, ho]; rfl
          have HM := Lib.hid (HR.out.mid (Nat.le_refl _) (.cells #[.int .i64 3, .int .u64 x.key, .int .u64 x.val] 26))
          have HOP := Lib.hid ho
          clear c0 ho
          go_wp2_with fail
          refine (Exists_any HM.out.d (by have := HM.out.a11; omega) HM.out.c2 x.key hkey).mono ?_
          rintro e w2 ⟨rfl, rfl⟩
          obtain ⟨w2, hW2⟩ : ∃ w2, w2 = ((wr.alloc (Obj.cells #[Value.int IntKind.i64 3, Value.int IntKind.u64 x.key, Value.int IntKind.u64 x.val] 26)).alloc (Obj.cells #[Value.int IntKind.u64 0, Value.bool false] 30)) := ⟨_, rfl⟩
          rw [← hW2] at HM ⊢
          clear hW2 c1 c2 c3
          have f0 := HM.out.s.free 0
          have f1 := HM.out.s.free 1
          have d0 : w2.cell? ⟨wr.heap.size + 1, 0, none⟩ = some (.int .u64 (0 : Nat)) := HM.out.s.cell rfl
          have d1 : w2.cell? ⟨wr.heap.size + 1, 1, none⟩ = some (.bool false) := HM.out.s.cell rfl
          have HN := Lib.hid (HM.out.set1 ((after xs k).D x.key).isSome)
          have e0 : (w2.setCell ⟨wr.heap.size + 1, 1, none⟩ (.bool ((after xs k).D x.key).isSome)).cell? ⟨wr.heap.size + 1, 0, none⟩ = some (.int .u64 (0 : Nat)) := HN.out.s.cell rfl
          have e1 : (w2.setCell ⟨wr.heap.size + 1, 1, none⟩ (.bool ((after xs k).D x.key).isSome)).cell? ⟨wr.heap.size + 1, 1, none⟩ = some (.bool ((after xs k).D x.key).isSome) := HN.out.s.cell rfl
          have hsz := HN.out.s.lt
          have hlo := HN.out.lo
          have HW4 : Hid (∃ W4, W4 = (w2.setCell ⟨wr.heap.size + 1, 1, none⟩ (.bool ((after xs k).D x.key).isSome))) := ⟨_, rfl⟩
          go_wp2_with (at_builtin; go_must (refine wpList_append_own_at _ rfl _ _ 27 rfl w.heap.size 30 i0 (.agg #[.int .u64 0, .bool false]) 2 16 Try.underlying27 HI.out.1 HI.out.2.1 HI.out.2.2.1 HI.out.2.2.2 rfl (by decide) _ _ _ rfl (HN.out.own.alloc _) ⟨w2.heap.size, 0, none⟩ 1 1 [.int .u64 ((0 : Nat) : Nat), .bool ((after xs k).D x.key).isSome] rfl rfl ?c1 ?c2 ?c3 ?c4 ?c5 ?_))
          case c1 => exact pair_new _ _ _ _ _ (by simp)
          case c2 => intro u hu; simp at hu; rcases hu with rfl | rfl <;> rfl
          case c3 => unfold maxLen; omega
          case c4 => omega
          case c5 => simp at hsz ⊢; omega
          intro v' w3 hown' hgrow _ hblk
          have hx1 : after xs (k + 1) = ⟨(after xs k).D, (after xs k).c⟩ := by rw [HA.out, ← HX.out, nxt, if_neg (by rw [HOP.out]; decide), if_neg (by rw [HOP.out]; decide)]
          have hx2 : (xs.getD k stp0).op ≠ 6 → ((0 : Nat), ((after xs k).D x.key).isSome) = tell (after xs k) (xs.getD k stp0) := fun _ => by rw [← HX.out]; unfold tell; rw [HOP.out]; rfl
          have HQ := Lib.hid (HN.out.next (k := k) (xs := xs) hx1 hl1 HR.out.said hx2 hown' hgrow hblk (by simp))
          obtain ⟨so, cq, rfl⟩ := own_shape hown'
          clear hx1 hx2 hown' hgrow hblk e0 e1 hsz hlo HW4 d0 d1 f0 f1
          go_wp2_with fail
          go_roundw
          case rel => exact ⟨k + 1, _, _, by omega, by go_num, HQ⟩
          case measure => simp [intOf]; omega
        · have c3 : wr.cell? ⟨b, o + k * 3, none⟩ = some (.int .i64 4) := by rw [c0, ho]; rfl
          have HM := Lib.hid (HR.out.mid (Nat.le_refl _) (.cells #[.int .i64 4, .int .u64 x.key, .int .u64 x.val] 26))
          have HOP := Lib.hid ho
          clear c0 ho
          go_wp2_with fail
          refine (Delete_any HM.out.d (by have := HM.out.a11; omega) HM.out.c2 x.key hkey).mono ?_
          rintro e w2 ⟨rfl, h3, h4⟩
          have HN := Lib.hid (HM.out.kept h4 h3 HM.out.a11 (by have := HM.out.c2; omega))
          clear h3 h4
          clear c1 c2 c3
          have e0 : w2.cell? ⟨wr.heap.size + 1, 0, none⟩ = some (.int .u64 (0 : Nat)) := HN.out.s.cell rfl
          have e1 : w2.cell? ⟨wr.heap.size + 1, 1, none⟩ = some (.bool false) := HN.out.s.cell rfl
          have hsz := HN.out.s.lt
          have hlo := HN.out.lo
          have HW4 : Hid (∃ W4, W4 = w2) := ⟨_, rfl⟩
          go_wp2_with (at_builtin; go_must (refine wpList_append_own_at _ rfl _ _ 27 rfl w.heap.size 30 i0 (.agg #[.int .u64 0, .bool false]) 2 16 Try.underlying27 HI.out.1 HI.out.2.1 HI.out.2.2.1 HI.out.2.2.2 rfl (by decide) _ _ _ rfl (HN.out.own.alloc _) ⟨w2.heap.size, 0, none⟩ 1 1 [.int .u64 ((0 : Nat) : Nat), .bool false] rfl rfl ?c1 ?c2 ?c3 ?c4 ?c5 ?_))
          case c1 => exact pair_new _ _ _ _ _ (by simp)
          case c2 => intro u hu; simp at hu; rcases hu with rfl | rfl <;> rfl
          case c3 => unfold maxLen; omega
          case c4 => omega
          case c5 => simp at hsz ⊢; omega
          intro v' w3 hown' hgrow _ hblk
          have hx1 : after xs (k + 1) = ⟨gone (after xs k).D x.key, (after xs k).c - ((after xs k).D x.key).isSome.toNat⟩ := by rw [HA.out, ← HX.out, nxt, if_neg (by rw [HOP.out]; decide), if_pos HOP.out]
          have hx2 : (xs.getD k stp0).op ≠ 6 → ((0 : Nat), false) = tell (after xs k) (xs.getD k stp0) := fun _ => by rw [← HX.out]; unfold tell; rw [HOP.out]; rfl
          have HQ := Lib.hid (HN.out.next (k := k) (xs := xs) hx1 hl1 HR.out.said hx2 hown' hgrow hblk (by simp))
          obtain ⟨so, cq, rfl⟩ := own_shape hown'
          clear hx1 hx2 hown' hgrow hblk e0 e1 hsz hlo HW4
          go_wp2_with fail
          go_roundw
          case rel => exact ⟨k + 1, _, _, by omega, by go_num, HQ⟩
          case measure => simp [intOf]; omega
        · have c3 : wr.cell? ⟨b, o + k * 3, none⟩ = some (.int .i64 5) := by rw [c0, ho]; rfl
          have HM := Lib.hid (HR.out.mid (Nat.le_refl _) (.cells #[.int .i64 5, .int .u64 x.key, .int .u64 x.val] 26))
          have HOP := Lib.hid ho
          clear c0 ho
          go_wp2_with fail
          refine (Len_any HM.out.d).mono ?_
          rintro e w2 ⟨rfl, rfl⟩
          obtain ⟨w2, hW2⟩ : ∃ w2, w2 = ((wr.alloc (Obj.cells #[Value.int IntKind.i64 5, Value.int IntKind.u64 x.key, Value.int IntKind.u64 x.val] 26)).alloc (Obj.cells #[Value.int IntKind.u64 0, Value.bool false] 30)) := ⟨_, rfl⟩
          rw [← hW2] at HM ⊢
          clear hW2 c1 c2 c3
          have f0 := HM.out.s.free 0
          have f1 := HM.out.s.free 1
          have d0 : w2.cell? ⟨wr.heap.size + 1, 0, none⟩ = some (.int .u64 (0 : Nat)) := HM.out.s.cell rfl
          have d1 : w2.cell? ⟨wr.heap.size + 1, 1, none⟩ = some (.bool false) := HM.out.s.cell rfl
          have HN := Lib.hid (HM.out.set0 (after xs k).c)
          have e0 : (w2.setCell ⟨wr.heap.size + 1, 0, none⟩ (.int .u64 ((after xs k).c : Nat))).cell? ⟨wr.heap.size + 1, 0, none⟩ = some (.int .u64 (after xs k).c) := HN.out.s.cell rfl
          have e1 : (w2.setCell ⟨wr.heap.size + 1, 0, none⟩ (.int .u64 ((after xs k).c : Nat))).cell? ⟨wr.heap.size + 1, 1, none⟩ = some (.bool false) := HN.out.s.cell rfl
          have hsz := HN.out.s.lt
          have hlo := HN.out.lo
          have HW4 : Hid (∃ W4, W4 = (w2.setCell ⟨wr.heap.size + 1, 0, none⟩ (.int .u64 ((after xs k).c : Nat)))) := ⟨_, rfl⟩
          go_wp2_with (at_builtin; go_must (refine wpList_append_own_at _ rfl _ _ 27 rfl w.heap.size 30 i0 (.agg #[.int .u64 0, .bool false]) 2 16 Try.underlying27 HI.out.1 HI.out.2.1 HI.out.2.2.1 HI.out.2.2.2 rfl (by decide) _ _ _ rfl (HN.out.own.alloc _) ⟨w2.heap.size, 0, none⟩ 1 1 [.int .u64 ((after xs k).c : Nat), .bool false] rfl rfl ?c1 ?c2 ?c3 ?c4 ?c5 ?_))
          case c1 => exact pair_new _ _ _ _ _ (by simp)
          case c2 => intro u hu; simp at hu; rcases hu with rfl | rfl <;> rfl
          case c3 => unfold maxLen; omega
          case c4 => omega
          case c5 => simp at hsz ⊢; omega
          intro v' w3 hown' hgrow _ hblk
          have hx1 : after xs (k + 1) = ⟨(after xs k).D, (after xs k).c⟩ := by rw [HA.out, ← HX.out, nxt, if_neg (by rw [HOP.out]; decide), if_neg (by rw [HOP.out]; decide)]
          have hx2 : (xs.getD k stp0).op ≠ 6 → ((after xs k).c, false) = tell (after xs k) (xs.getD k stp0) := fun _ => by rw [← HX.out]; unfold tell; rw [HOP.out]; rfl
          have HQ := Lib.hid (HN.out.next (k := k) (xs := xs) hx1 hl1 HR.out.said hx2 hown' hgrow hblk (by simp))
          obtain ⟨so, cq, rfl⟩ := own_shape hown'
          clear hx1 hx2 hown' hgrow hblk e0 e1 hsz hlo HW4 d0 d1 f0 f1
          go_wp2_with fail
          go_roundw
          case rel => exact ⟨k + 1, _, _, by omega, by go_num, HQ⟩
          case measure => simp [intOf]; omega
        · have c3 : wr.cell? ⟨b, o + k * 3, none⟩ = some (.int .i64 6) := by rw [c0, ho]; rfl
          have HM := Lib.hid (HR.out.mid (Nat.le_refl _) (.cells #[.int .i64 6, .int .u64 x.key, .int .u64 x.val] 26))
          have HOP := Lib.hid ho
          clear c0 ho
          go_wp2_with fail
          refine (Cap_any HM.out.d (by have := HM.out.a11; omega)).mono ?_
          rintro e w2 ⟨rfl, rfl⟩
          obtain ⟨w2, hW2⟩ : ∃ w2, w2 = ((wr.alloc (Obj.cells #[Value.int IntKind.i64 6, Value.int IntKind.u64 x.key, Value.int IntKind.u64 x.val] 26)).alloc (Obj.cells #[Value.int IntKind.u64 0, Value.bool false] 30)) := ⟨_, rfl⟩
          rw [← hW2] at HM ⊢
          clear hW2 c1 c2 c3
          have f0 := HM.out.s.free 0
          have f1 := HM.out.s.free 1
          have d0 : w2.cell? ⟨wr.heap.size + 1, 0, none⟩ = some (.int .u64 (0 : Nat)) := HM.out.s.cell rfl
          have d1 : w2.cell? ⟨wr.heap.size + 1, 1, none⟩ = some (.bool false) := HM.out.s.cell rfl
          have HN := Lib.hid (HM.out.set0 (2 ^ a))
          have e0 : (w2.setCell ⟨wr.heap.size + 1, 0, none⟩ (.int .u64 ((2 ^ a) : Nat))).cell? ⟨wr.heap.size + 1, 0, none⟩ = some (.int .u64 (2 ^ a)) := HN.out.s.cell rfl
          have e1 : (w2.setCell ⟨wr.heap.size + 1, 0, none⟩ (.int .u64 ((2 ^ a) : Nat))).cell? ⟨wr.heap.size + 1, 1, none⟩ = some (.bool false) := HN.out.s.cell rfl
          have hsz := HN.out.s.lt
          have hlo := HN.out.lo
          have HW4 : Hid (∃ W4, W4 = (w2.setCell ⟨wr.heap.size + 1, 0, none⟩ (.int .u64 ((2 ^ a) : Nat)))) := ⟨_, rfl⟩
          go_wp2_with (at_builtin; go_must (refine wpList_append_own_at _ rfl _ _ 27 rfl w.heap.size 30 i0 (.agg #[.int .u64 0, .bool false]) 2 16 Try.underlying27 HI.out.1 HI.out.2.1 HI.out.2.2.1 HI.out.2.2.2 rfl (by decide) _ _ _ rfl (HN.out.own.alloc _) ⟨w2.heap.size, 0, none⟩ 1 1 [.int .u64 ((2 ^ a) : Nat), .bool false] rfl rfl ?c1 ?c2 ?c3 ?c4 ?c5 ?_))
          case c1 => exact pair_new _ _ _ _ _ (by simp)
          case c2 => intro u hu; simp at hu; rcases hu with rfl | rfl <;> rfl
          case c3 => unfold maxLen; omega
          case c4 => omega
          case c5 => simp at hsz ⊢; omega
          intro v' w3 hown' hgrow _ hblk
          have hx1 : after xs (k + 1) = ⟨(after xs k).D, (after xs k).c⟩ := by rw [HA.out, ← HX.out, nxt, if_neg (by rw [HOP.out]; decide), if_neg (by rw [HOP.out]; decide)]
          have hx2 : (xs.getD k stp0).op ≠ 6 → ((2 ^ a), false) = tell (after xs k) (xs.getD k stp0) := fun h => absurd (by rw [← HX.out]; exact HOP.out) h
          have HQ := Lib.hid (HN.out.next (k := k) (xs := xs) hx1 hl1 HR.out.said hx2 hown' hgrow hblk (by simp))
          obtain ⟨so, cq, rfl⟩ := own_shape hown'
          clear hx1 hx2 hown' hgrow hblk e0 e1 hsz hlo HW4 d0 d1 f0 f1
          go_wp2_with fail
          go_roundw
          case rel => exact ⟨k + 1, _, _, by omega, by go_num, HQ⟩
          case measure => simp [intOf]; omega
    · have hkx : k = xs.length := by omega
      have HK := Lib.hid hkx
      clear hkx
      go_wp2_with fail
      go_ret
      exact ⟨_, L, rfl, HR.out.own, by rw [HR.out.len, HK.out], fun i hi => HR.out.said i (by rw [HK.out]; exact hi), HR.out.below⟩
end Go.Proofs.Ytiiobifljflkiaa
