/- math.Abs of a small difference; an append of what stands there already; symSearch; decomposeForSymMerge. -/
import Derived.Test.YtmkbgdgfbmfbdaaDoorM4
import Derived.Laws.Cover2
namespace Go.Proofs.YtmkbgdgfbmfbdaaDoor.MG
open Go.RowKit

def absb (b : Nat) : Nat := (bits BinOp.andNot IntKind.u64 (b : Int) 9223372036854775808).toNat
set_option maxRecDepth 1000000 in
set_option maxHeartbeats 4000000 in
theorem abs_any (b : Nat) (w : World) :
    Calls Tryd.prog 26 #[.float .f64 b] w fun e_ w' => e_ = .returned (.float .f64 (absb b)) ∧ w = w' := by
  have h1 : ∀ w : World, (callFunc 38 #[.float .f64 b]).run Tryd.prog w = .ok (.value (.int .u64 b)) w := fun _ => by kernel_rfl
  have h2 : ∀ (n : Int) (w : World), (callFunc 37 #[.int .u64 n]).run Tryd.prog w = .ok (.value (.float .f64 n.toNat)) w := fun _ _ => by kernel_rfl
  go_enter Tryd.func26, Tryd.ntmps26
  go_wp2_with fail
  go_ret
  exact ⟨rfl, rfl⟩
/-- Whether the difference is more than one. -/
def far (d : Int) : Bool := FloatKind.f64.format.order (absb (floatOfInt FloatKind.f64 d)) 4607182418800017408 == some .gt
theorem far_all : (List.range 201).all (fun i => far ((i : Int) - 100) == decide (1 < (i : Int) - 100 ∨ (i : Int) - 100 < -1)) = true := by kernel_rfl
theorem far_eq {d : Int} (h1 : -100 ≤ d) (h2 : d ≤ 100) : far d = decide (1 < d ∨ d < -1) := by
  have h := List.all_eq_true.1 far_all (d + 100).toNat (by rw [List.mem_range]; omega)
  have e : (((d + 100).toNat : Nat) : Int) - 100 = d := by omega
  rw [e] at h
  simpa using h

theorem run_append_same {P : Program} {w : World} (t ty e : TypeId) (i : TypeInfo) (ht : P.underlying t = some (.slice e)) (hi : P.info? e = some i) (hsz : i.size = 1)
    (g o n cap : Nat) (cur : List Value) (hg : Blk w g cur.toArray e) (a : Addr) (m c : Nat) (news : List Value) (hl : news.length = m) (hnews : ∀ j u, news[j]? = some u → w.cell? (a.add j) = some u) (h1 : ∀ u ∈ news, u.oneCell' = true)
    (hroom : n + m ≤ cap) (hfit : o + n + m ≤ cur.length) (hsame : (cur.drop (o + n)).take m = news) :
    (Builtin.append_ #[t, t] ty #[.slice (some ⟨g, o, none⟩) n cap, .slice (some a) m c]).run P w = .ok (.slice (some ⟨g, o, none⟩) (n + m) cap) w := by
  have hf := run_firstCells_some (P := P) w i.size m a m c news (by rw [hsz]; omega) hnews
  have hst := run_storeCells_at P g (o + n) e news 0 cur.toArray w hg (by rw [List.size_toArray]; omega) h1
  simp only [Nat.add_zero] at hst
  have hs : (cur.take (o + n) ++ news ++ cur.drop (o + n + news.length)) = cur := by
    have e1 : cur.drop (o + n) = news ++ cur.drop (o + n + news.length) := by
      have h := List.take_append_drop m (cur.drop (o + n))
      rw [hsame, List.drop_drop] at h
      rw [← hl] at h
      exact h.symm
    rw [List.append_assoc, ← e1, List.take_append_drop]
  rw [hs, setRow_self w g cur.toArray e (0, 0) hg] at hst
  have hadd : (⟨g, o, none⟩ : Addr).add n = ⟨g, o + n, none⟩ := by cases n <;> simp [Addr.add]
  have hst' : (storeCells ((⟨g, o, none⟩ : Addr).add n) news).run P w = .ok () w := by rw [hadd]; exact hst
  simp [Builtin.append_, run_underlying ht, sizeOf, typeInfo, hi, hsz, Builtin.lenOf, hroom]
  rw [hsz] at hf
  simp [hf, hst']
theorem wpList_append_same {P : Program} {w : World} {ops : Array Oper} {rest : List Oper} {o_ : Oper} {a_ : Act} {Q : Exit → Act → World → Prop} (hgd : o_.guard = none) (s x : Operand) (t : TypeId)
    (ho : o_.op = .call { callee := .builtin .append, args := #[s, x], argTypes := #[t, t] }) (e : TypeId) (i : TypeInfo) (ht : P.underlying t = some (.slice e)) (hi : P.info? e = some i) (hsz : i.size = 1)
    (g o n cap : Nat) (cur : List Value) (hg : Blk w g cur.toArray e) (a : Addr) (m c : Nat) (hs : a_.eval s = .slice (some ⟨g, o, none⟩) n cap) (hx : a_.eval x = .slice (some a) m c)
    (news : List Value) (hl : news.length = m) (hnews : ∀ j u, news[j]? = some u → w.cell? (a.add j) = some u) (h1 : ∀ u ∈ news, u.oneCell' = true)
    (hroom : n + m ≤ cap) (hfit : o + n + m ≤ cur.length) (hsame : (cur.drop (o + n)).take m = news)
    (h : wpList P ops Q rest (a_.put o_.dst (.slice (some ⟨g, o, none⟩) (n + m) cap)) w) : wpList P ops Q (o_ :: rest) a_ w := by
  refine wpList_plain hgd fun K hK => ?_
  have hr := run_append_same (P := P) (w := w) t o_.type e i ht hi hsz g o n cap cur hg a m c news hl hnews h1 hroom hfit hsame
  unfold Oper.wp execOp
  simp only [ho, resolve, invoke, builtin, Sem.run_bind, Sem.run_pure, Result.andThen_ok, List.map_toArray, List.map_cons, List.map_nil, hs, hx, hr]
  exact hK _ _ h

/-- A part of a row of elements, as a slice reads it. -/
def Reads (w : World) (g o n : Nat) (L : List Item) : Prop := L.length = n ∧ ∀ k, k < n → w.cell? ⟨g, o + k, none⟩ = some (mit (gt_ L k))
theorem Reads.same {w w' : World} {g o n : Nat} {L : List Item} (h : Reads w g o n L) (hb : Below w.heap.size w w') : Reads w' g o n L :=
  ⟨h.1, fun k hk => (hb.cell (by have := cell_lt' (h.2 k hk); exact this)).trans (h.2 k hk)⟩
/-- What the search over two lists has found. -/
structure Split (U V : List Item) (n s : Nat) : Prop where
  high : s ≤ n
  yes : ∀ m, m < s → ky U m ≤ ky V (n - 1 - m)
  no : ∀ m, s ≤ m → m < n → ky V (n - 1 - m) < ky U m

set_option maxRecDepth 1000000 in
set_option maxHeartbeats 4000000 in
theorem symSearch_any {w : World} {g o n cap g' o' cap' : Nat} {U V : List Item} (hU : Reads w g o n U) (hV : Reads w g' o' n V) (hn : n ≤ 1000) (hu : Srt U 0 n) (hv : Srt V 0 n) :
    Calls Tryd.prog 41 #[.slice (some ⟨g, o, none⟩) n cap, .slice (some ⟨g', o', none⟩) n cap'] w fun e_ w' => (∃ s : Nat, e_ = .returned (.int .i64 s) ∧ Split U V n s) ∧ Below w.heap.size w w' := by
  have HH := Lib.hid (And.intro hU hV)
  have HS := Lib.hid (And.intro hu hv)
  clear hU hV hu hv
  have hm : ∀ (l1 l2 : Int) (w : World), (method 226 61 (.agg #[.int .i64 l1, .int .i64 l2]) "Compare").run Tryd.prog w = .ok (65, .agg #[.int .i64 l1, .int .i64 l2]) w := fun _ _ _ => by kernel_rfl
  have hm' : ∀ (l1 l2 : Int) (w : World), (method 287 61 (.agg #[.int .i64 l1, .int .i64 l2]) "Compare").run Tryd.prog w = .ok (65, .agg #[.int .i64 l1, .int .i64 l2]) w := fun _ _ _ => by kernel_rfl
  have vp : IntKind.i64.wrap ((n : Int) - 1) = (n : Int) - 1 := by rw [IntKind.wrap_i64]; omega
  go_enter Tryd.func41, Tryd.ntmps41
  go_wp2_with fail
  go_loopw [5, 6, 8] (fun sv ev _ wr => ∃ (s e : Nat), sv = .int .i64 (s : Nat) ∧ ev = .int .i64 (e : Nat) ∧ s ≤ e ∧ e ≤ n ∧ Hid ((∀ m, m < s → ky U m ≤ ky V (n - 1 - m)) ∧ (∀ m, e ≤ m → m < n → ky V (n - 1 - m) < ky U m) ∧ Below w.heap.size w wr)) (fun sv ev _ _ => (intOf ev).toNat - (intOf sv).toNat)
  case atStart => exact ⟨0, n, rfl, rfl, Nat.zero_le _, Nat.le_refl _, fun m h1 => by omega, fun m h1 h2 => by omega, Below.refl _ _⟩
  case round =>
    obtain ⟨s, e, rfl, rfl, hs2, he, hR⟩ := hrel
    have HR : Hid ((∀ m, m < s → ky U m ≤ ky V (n - 1 - m)) ∧ (∀ m, e ≤ m → m < n → ky V (n - 1 - m) < ky U m) ∧ Below w.heap.size w wr) := hR
    clear hR
    by_cases hlt : s < e
    · have z0 : (s : Int) < (e : Int) := by omega
      obtain ⟨m, hm0⟩ : ∃ m, m = (s + e) / 2 := ⟨_, rfl⟩
      have hms : s ≤ m := by omega
      have hme : m < e := by omega
      obtain ⟨j, hj⟩ : ∃ j, j = n - 1 - m := ⟨_, rfl⟩
      have v1 : IntKind.i64.wrap ((s : Int) + (e : Int)) = (s : Int) + (e : Int) := by rw [IntKind.wrap_i64]; omega
      have v2' : Int.tdiv ((s : Int) + (e : Int)) 2 = (m : Int) := by rw [Int.tdiv_eq_ediv_of_nonneg (by omega)]; omega
      have v2'' : ((s : Int) + (e : Int)) / 2 = (m : Int) := by omega
      have v2 : IntKind.i64.wrap (m : Int) = (m : Int) := by rw [IntKind.wrap_i64]; omega
      have v3 : IntKind.i64.wrap ((n : Int) - 1 - (m : Int)) = (j : Int) := by rw [IntKind.wrap_i64]; omega
      have hjn : j < n := by omega
      have hmn : m < n := by omega
      have z1 : (m : Int) < (n : Int) := by omega
      have z2 : (j : Int) < (n : Int) := by omega
      have z3 : (0 : Int) ≤ (m : Int) := by omega
      have z4 : (0 : Int) ≤ (j : Int) := by omega
      have HJ := Lib.hid hj
      have HM0 := Lib.hid hm0
      clear hj hm0
      have d1 := (HH.out.1.same HR.out.2.2).2 m hmn
      have d2 := (HH.out.2.same HR.out.2.2).2 j hjn
      obtain ⟨x1, x2, hx⟩ : ∃ x1 x2, (x1, x2) = gt_ U m := ⟨_, _, rfl⟩
      obtain ⟨y1, y2, hy⟩ : ∃ y1 y2, (y1, y2) = gt_ V j := ⟨_, _, rfl⟩
      rw [← hx] at d1
      rw [← hy] at d2
      have c1 : wr.cell? ⟨g, o + m, none⟩ = some (.iface 61 (.agg #[.int .i64 x1, .int .i64 x2])) := d1
      have c2 : wr.cell? ⟨g', o' + j, none⟩ = some (.iface 61 (.agg #[.int .i64 y1, .int .i64 y2])) := d2
      have HXY : Hid (ky U m = x1 ∧ ky V (n - 1 - m) = y1) := ⟨by unfold ky; rw [← hx], by rw [← HJ.out]; unfold ky; rw [← hy]⟩
      clear d1 d2 hx hy
      have hcmp0 := fun w => compare_any (x1, x2) (y1, y2) w
      have hle := ord_le x1 y1
      obtain ⟨r, hr⟩ : ∃ r, r = ord x1 y1 := ⟨_, rfl⟩
      have hcmp : Hid (∀ w, Calls Tryd.prog 65 #[.agg #[.int .i64 x1, .int .i64 x2], .iface 61 (.agg #[.int .i64 y1, .int .i64 y2])] w fun e w' => e = .returned (.int .i64 r) ∧ Below w.heap.size w w') := by
        intro w
        rw [hr]
        exact hcmp0 w
      rw [← hr] at hle
      have HLE := Lib.hid hle
      clear hcmp0 hle hr
      go_wp2_with fail
      go_region_held3 (fun w' => w'.cell? ⟨g, o + m, none⟩ = some (.iface 61 (.agg #[.int .i64 x1, .int .i64 x2])) ∧ w'.cell? ⟨g', o' + j, none⟩ = some (.iface 61 (.agg #[.int .i64 y1, .int .i64 y2])))
        (first | exact ⟨c1, c2⟩ | exact ⟨(G5.out.cell (cell_lt' c1)).trans c1, (G5.out.cell (cell_lt' c2)).trans c2⟩)
        (first | (go_at_call 65; refine (hcmp.out _).mono ?_; rintro e w5 ⟨rfl, hb5⟩; have G5 : Hid (Below wr.heap.size wr w5) := Lib.hid (by first | exact (Below.refl _ _).drew.trans hb5 | exact (below_drewN (Below.refl _ _) _).trans hb5); clear hb5))
      have HB5 : Hid (Below w.heap.size w w5) := HR.out.2.2.trans (G5.out.mono HR.out.2.2.size)
      clear G5 c1 c2
      have hmono : ∀ a b, a ≤ b → b < n → ky U b ≤ ky V (n - 1 - b) → ky U a ≤ ky V (n - 1 - a) := fun a b h1 h2 h3 => by
        have b1 := HS.out.1 a b (Nat.zero_le _) h1 h2
        have b2 := HS.out.2 (n - 1 - b) (n - 1 - a) (Nat.zero_le _) (by omega) (by omega)
        omega
      have HM := Lib.hid hmono
      clear hmono
      by_cases hxy : x1 ≤ y1
      · have hr0 : r ≤ 0 := by have h := HLE.out; rw [decide_eq_true hxy] at h; simpa using h
        have HE : Hid ((∀ k, k < m + 1 → ky U k ≤ ky V (n - 1 - k)) ∧ (∀ m, e ≤ m → m < n → ky V (n - 1 - m) < ky U m) ∧ Below w.heap.size w w5) := by
          refine ⟨fun k h2 => HM.out k m (by omega) (by omega) ?_, HR.out.2.1, HB5.out⟩
          rw [HXY.out.1, HXY.out.2]; exact hxy
        clear HLE
        go_wp2_with fail
        go_roundw
        case rel => exact ⟨m + 1, e, by go_num, rfl, by omega, he, HE.out⟩
        case measure => simp [intOf]; omega
      · have hr0 : ¬ r ≤ 0 := by have h := HLE.out; rw [decide_eq_false hxy] at h; simpa using h
        have HE : Hid ((∀ k, k < s → ky U k ≤ ky V (n - 1 - k)) ∧ (∀ k, m ≤ k → k < n → ky V (n - 1 - k) < ky U k) ∧ Below w.heap.size w w5) := by
          refine ⟨HR.out.1, fun k h1 h2 => ?_, HB5.out⟩
          by_cases hk : ky U k ≤ ky V (n - 1 - k)
          · exact absurd (HM.out m k h1 h2 hk) (by rw [HXY.out.1, HXY.out.2]; exact hxy)
          · omega
        clear HLE
        go_wp2_with fail
        go_roundw
        case rel => exact ⟨s, m, rfl, by go_num, by omega, by omega, HE.out⟩
        case measure => simp [intOf]; omega
    · have z0 : ¬ (s : Int) < (e : Int) := by omega
      obtain rfl : s = e := by omega
      go_wp2_with fail
      go_ret
      exact ⟨⟨s, rfl, he, HR.out.1, HR.out.2.1⟩, HR.out.2.2⟩

set_option maxRecDepth 1000000 in
set_option maxHeartbeats 4000000 in
theorem decompose_any {w : World} {g n m cap : Nat} (hn : n ≤ 1000) (hnm : n + 2 ≤ m) (hm : m ≤ 1000) (hc : m ≤ cap) (oh : Nat) (ho : oh = (m - n) / 2) :
    Calls Tryd.prog 40 #[.int .i64 n, .slice (some ⟨g, 0, none⟩) m cap] w fun e_ w' => e_ = .returned (.tuple #[.slice (some ⟨g, 0, none⟩) oh cap, .slice (some ⟨g, oh, none⟩) n (cap - oh), .slice (some ⟨g, oh + n, none⟩) (m - (oh + n)) (cap - (oh + n))]) ∧ w = w' := by
  have z0 : ¬ (m : Int) ≤ (n : Int) := by omega
  have v1 : IntKind.i64.wrap ((m : Int) - (n : Int)) = (m : Int) - (n : Int) := by rw [IntKind.wrap_i64]; omega
  have v2' : Int.tdiv ((m : Int) - (n : Int)) 2 = (oh : Int) := by rw [Int.tdiv_eq_ediv_of_nonneg (by omega)]; omega
  have v2'' : ((m : Int) - (n : Int)) / 2 = (oh : Int) := by omega
  have v2 : IntKind.i64.wrap (oh : Int) = (oh : Int) := by rw [IntKind.wrap_i64]; omega
  have v3 : IntKind.i64.wrap ((oh : Int) + (n : Int)) = ((oh + n : Nat) : Int) := by rw [IntKind.wrap_i64]; omega
  have q1 : oh ≤ m := by omega
  have q2 : oh + n ≤ m := by omega
  have q3 : ¬ cap = oh := by omega
  have q4 : ¬ cap = oh + n := by omega
  have q5 : oh + n ≤ cap := by omega
  have q6 : oh ≤ cap := by omega
  have q7 : oh ≤ oh + n := by omega
  have p1 : (oh : Int) ≤ (m : Int) := by omega
  have p2 : (oh : Int) ≤ (cap : Int) := by omega
  have p3 : ((oh : Int) + (n : Int)) ≤ (m : Int) := by omega
  have p4 : ((oh : Int) + (n : Int)) ≤ (cap : Int) := by omega
  have p5 : (0 : Int) ≤ (oh : Int) + (n : Int) := by omega
  have q8 : oh + n - oh = n := by omega
  clear ho
  go_enter Tryd.func40, Tryd.ntmps40
  go_wp2_with fail
  go_ret3
  exact ⟨rfl, rfl⟩
end Go.Proofs.YtmkbgdgfbmfbdaaDoor.MG
