/- A step that enqueues. -/
import Derived.Test.YtalphojbkeleiaaH9
namespace Go.Proofs.Ytalphojbkeleiaa
namespace FH
open Go.RowKit

/-- The priorities of the entries that came, by their numbers. -/
def prs (m : Mem) (ea : List (Option Nat)) : List (Option Int) := ea.map fun x => x.map fun a => (m a).pr
/-- A heap with the entries' priorities. -/
def Abs (w : World) (B b : Nat) (M : List Nat) (cl : Bool) (es : List (Option Int)) : Prop :=
  ∃ q A m hm L v ea, Hp w B b q A m hm L v ea ∧ M = blks b q A v ∧ es = prs m ea ∧ (cl = true → ∀ y, (m y).mkd = false) ∧ (∀ y ∈ L, (m y).pr ≠ bot)
def StepTo (B b : Nat) (M : List Nat) (cl : Bool) (es : List (Option Int)) (E P : Int) (w : World) (e : Ending) (w' : World) : Prop :=
  ∃ M', e = .returned (.agg (said5 E P 0 false)) ∧ Abs w' B b M' cl es ∧ (∀ k ∈ M', k ∈ M ∨ w.heap.size ≤ k) ∧ Only M w w'
theorem enq_pr {m : Mem} {hm : Option Nat} {a : Nat} {p : Int} (y : Nat) : (enq m hm a p y).pr = if y = a then p else (m y).pr := by
  unfold enq
  rw [mgO_pr]
  by_cases h : y = a
  · subst h; rw [st_same, if_pos rfl]; rfl
  · rw [st_other _ _ h, if_neg h]
theorem enq_mk {m : Mem} {hm : Option Nat} {a : Nat} {p : Int} (y : Nat) : (enq m hm a p y).mkd = if y = a then false else (m y).mkd := by
  unfold enq
  rw [mgO_mkd]
  by_cases h : y = a
  · subst h; rw [st_same, if_pos rfl]; rfl
  · rw [st_other _ _ h, if_neg h]
theorem prs_congr {m m' : Mem} {ea : List (Option Nat)} (h : ∀ (i a : Nat), ea[i]? = some (some a) → (m' a).pr = (m a).pr) : prs m' ea = prs m ea := by
  unfold prs
  refine List.map_congr_left fun x hx => ?_
  obtain ⟨i, hi⟩ := List.getElem?_of_mem hx
  cases x with
  | none => rfl
  | some a => simp [h i a hi]
theorem mem_blks {b q : Nat} {A : List Nat} {v : Value} {k : Nat} : k ∈ blks b q A v ↔ k = b ∨ k = q ∨ k ∈ A ∨ v.ownBlock = some k := by
  simp only [blks, rowB, List.mem_append, List.mem_cons, Option.mem_toList]
  constructor
  · rintro ((h | h | h) | h)
    · exact Or.inl h
    · exact Or.inr (Or.inl h)
    · exact Or.inr (Or.inr (Or.inl h))
    · exact Or.inr (Or.inr (Or.inr h))
  · rintro (h | h | h | h)
    · exact Or.inl (Or.inl h)
    · exact Or.inl (Or.inr (Or.inl h))
    · exact Or.inl (Or.inr (Or.inr h))
    · exact Or.inr h
theorem Hp.added {w1 w2 w3 : World} {B b q a : Nat} {A L : List Nat} {m m' : Mem} {hm hm' : Option Nat} {v v' : Value} {ea : List (Option Nat)} {o : Obj} (h : Hp w1 B b q A m hm L v ea) (hB : B ≤ w1.heap.size) (ha : a = w1.heap.size)
    (hf : Fh w2 q (a :: A) m' hm' (a :: L)) (ho : Only (q :: A) w1 w2) (hown : w3.ownsRow B 40 1 v' (ea.length + 1) (FH.row ea ++ [optp (some a)])) (hgr : (w2.alloc o).grownBy w3 v.ownBlock)
    (hv' : v'.ownBlock = v.ownBlock ∨ v'.ownBlock = some (w2.heap.size + 1)) (hl : ea.length < 900) :
    Blk w3 b #[.pointer (some ⟨q, 0, none⟩), v] 49 ∧ Hp (w3.setCell ⟨b, 1, none⟩ v') B b q (a :: A) m' hm' (a :: L) v' (ea ++ [some a]) ∧ Only (blks b q A v) w1 (w3.setCell ⟨b, 1, none⟩ v') ∧ (∀ k ∈ blks b q (a :: A) v', k ∈ blks b q A v ∨ w1.heap.size ≤ k) := by
  have hlt : ∀ k ∈ blks b q A v, k < w1.heap.size := h.all_lt
  have hsz := ho.size
  have hO : Only (rowB v) w2 w3 := ((Only.refl _ _).alloc _).grown hgr (fun k hk => Or.inl (by simp [rowB, hk]))
  have hvb : ∀ k ∈ rowB v, k < w1.heap.size ∧ k ∉ b :: q :: A := fun k hk => ⟨hlt k (by simp [blks, hk]), h.sep k (by simpa [rowB] using hk)⟩
  have hbq : b ∉ q :: A := h.bA
  have hba : b ≠ a := by have := hlt b (mem_blks.2 (Or.inl rfl)); omega
  have hb3 : Blk w3 b #[.pointer (some ⟨q, 0, none⟩), v] 49 := (h.hb.only ho hbq).only hO (fun e => (hvb b e).2 (by simp))
  have hbA : b ∉ q :: a :: A := by
    simp only [List.mem_cons, not_or] at hbq ⊢
    exact ⟨hbq.1, hba, hbq.2⟩
  have hf3 : Fh w3 q (a :: A) m' hm' (a :: L) := hf.only hO (fun k hk e => by
    obtain ⟨h1, h2⟩ := hvb k e
    simp only [List.mem_cons, not_or] at hk h2
    rcases hk with hk | hk | hk
    · exact h2.2.1 hk
    · omega
    · exact h2.2.2 hk)
  have hv2 : ∀ k, v'.ownBlock = some k → k ∉ b :: q :: a :: A := fun k hk e => by
    rcases hv' with h1 | h1
    · rw [h1] at hk
      have h2 := hvb k (by simp [rowB, hk])
      simp only [List.mem_cons, not_or] at e h2
      rcases e with e | e | e | e
      · exact h2.2.1 e
      · exact h2.2.2.1 e
      · omega
      · exact h2.2.2.2 e
    · rw [h1] at hk
      obtain rfl := Option.some.inj hk
      simp only [List.mem_cons] at e
      have h3 := hf.all_lt
      rcases e with e | e
      · have := hlt b (mem_blks.2 (Or.inl rfl)); omega
      · have := h3 _ (List.mem_cons.2 (by rcases e with e | e; exact Or.inl e; exact Or.inr (List.mem_cons.2 e))); omega
  have hO4 : Only [b] w3 (w3.setCell ⟨b, 1, none⟩ v') := (Only.refl _ _).setCell (Or.inl (by simp)) _
  refine ⟨hb3, ⟨hf3.only hO4 (fun k hk e => by simp only [List.mem_singleton] at e; subst e; exact hbA hk), hb3.set 1 _, ?_, ?_, ?_, hv2, hbA, by simp; omega⟩, ?_, ?_⟩
  · have h1 := own_only hown hO4 (fun k hk e => by simp only [List.mem_singleton] at e; subst e; exact hv2 k hk (by simp))
    rw [List.length_append, FH.row, List.map_append]
    exact h1
  · rw [List.filterMap_append]
    have h1 : (a :: L).Perm (a :: ea.filterMap id) := h.live.cons a
    refine h1.trans ?_
    exact (List.perm_append_comm (l₁ := [a]) (l₂ := ea.filterMap id))
  · intro k hk
    simp only [List.mem_cons] at hk
    rcases hk with hk | hk | hk | hk
    · exact h.low k (by simp [hk])
    · exact h.low k (by simp [hk])
    · omega
    · exact h.low k (by simp [hk])
  · refine ((ho.mono (fun k _ hk => ?_)).trans (hO.mono (fun k _ hk => ?_))).trans (hO4.mono (fun k _ hk => ?_))
    · simp only [List.mem_cons] at hk; exact mem_blks.2 (Or.inr (hk.imp id Or.inl))
    · exact mem_blks.2 (Or.inr (Or.inr (Or.inr (by simpa [rowB] using hk))))
    · simp only [List.mem_singleton] at hk; exact mem_blks.2 (Or.inl hk)
  · intro k hk
    rcases mem_blks.1 hk with h1 | h1 | h1 | h1
    · exact Or.inl (mem_blks.2 (Or.inl h1))
    · exact Or.inl (mem_blks.2 (Or.inr (Or.inl h1)))
    · simp only [List.mem_cons] at h1
      rcases h1 with h1 | h1
      · exact Or.inr (by omega)
      · exact Or.inl (mem_blks.2 (Or.inr (Or.inr (Or.inl h1))))
    · rcases hv' with h2 | h2
      · rw [h2] at h1; exact Or.inl (mem_blks.2 (Or.inr (Or.inr (Or.inr h1))))
      · rw [h2] at h1
        obtain rfl := Option.some.inj h1
        exact Or.inr (by omega)
/-- What a step says is laid into its result. -/
def lay5 (w : World) (r : Nat) (e p s : Int) (b : Bool) : World := ((((w.setCell ⟨r, 0, none⟩ (.bool true)).setCell ⟨r, 1, none⟩ (.int .i64 e)).setCell ⟨r, 2, none⟩ (.int .i64 p)).setCell ⟨r, 3, none⟩ (.int .i64 s)).setCell ⟨r, 4, none⟩ (.bool b)
theorem lay5_blk {w : World} {r : Nat} {x0 x1 x2 x3 x4 : Value} (h : Blk w r #[x0, x1, x2, x3, x4] 39) (e p s : Int) (b : Bool) : Blk (lay5 w r e p s b) r (said5 e p s b) 39 ∧ Only [r] w (lay5 w r e p s b) := by
  have h1 : ∀ x : Nat, x = r → x ∈ [r] := fun x e => by simp [e]
  exact ⟨((((h.set 0 _).set 1 _).set 2 _).set 3 _).set 4 _, (((((Only.refl _ _).setCell (Or.inl (h1 r rfl)) _).setCell (Or.inl (h1 r rfl)) _).setCell (Or.inl (h1 r rfl)) _).setCell (Or.inl (h1 r rfl)) _).setCell (Or.inl (h1 r rfl)) _⟩
theorem zero_said : (Try.prog.info? 39).map (fun i => i.zero) = some (some (.agg #[.bool false, .int .i64 0, .int .i64 0, .int .i64 0, .bool false])) := by kernel_rfl
set_option maxRecDepth 100000 in
set_option maxHeartbeats 8000000 in
theorem step_put {w : World} {B b : Nat} {M : List Nat} {cl : Bool} {es : List (Option Int)} {N p : Int} {x : Value} (h : Abs w B b M cl es) (hB : B ≤ w.heap.size) (hp : -1000000 ≤ p ∧ p ≤ 1000000) (hl : es.length < 800) :
    Calls Try.prog 13 #[.pointer (some ⟨b, 0, none⟩), .agg #[.int .i64 1, .int .i64 N, .int .i64 p, x]] w (StepTo B b M cl (es ++ [some p]) es.length p w) := by
  obtain ⟨q, A, m, hm, L, v, ea, hh, hM, hes, hcl, hbt⟩ := h
  obtain ⟨i0, hi0, hz0, hs0, hb0⟩ := info_at infoE
  have HI : Hid (Try.prog.info? 40 = some i0 ∧ i0.zero = some (.pointer none) ∧ i0.size = 1 ∧ i0.bytes = 8) := ⟨hi0, hz0, hs0, hb0⟩
  have hpb : p ≠ bot := by unfold bot; omega
  have hfb : floatOfInt FloatKind.f64 p = fb p := by rw [fb, if_neg hpb]
  have HFB := Lib.hid hfb
  have HG : Hid (M = blks b q A v ∧ es = prs m ea ∧ (cl = true → ∀ y, (m y).mkd = false) ∧ (∀ y ∈ L, (m y).pr ≠ bot) ∧ B ≤ w.heap.size ∧ -1000000 ≤ p ∧ p ≤ 1000000 ∧ es.length < 800 ∧ p ≠ bot ∧ es.length = ea.length) := ⟨hM, hes, hcl, hbt, hB, hp.1, hp.2, hl, hpb, by rw [hes, prs, List.length_map]⟩
  obtain ⟨d, hd⟩ : ∃ d, d = w.heap.size := ⟨_, rfl⟩
  have hb0 := Blk.new w #[.int .i64 1, .int .i64 N, .int .i64 p, x] 30
  have hb1 := hb0.alloc (.cells #[.bool false, .int .i64 0, .int .i64 0, .int .i64 0, .bool false] 39)
  have hb2 := Blk.new (w.alloc (.cells #[.int .i64 1, .int .i64 N, .int .i64 p, x] 30)) #[.bool false, .int .i64 0, .int .i64 0, .int .i64 0, .bool false] 39
  have hbw : Below w.heap.size w ((w.alloc (.cells #[.int .i64 1, .int .i64 N, .int .i64 p, x] 30)).alloc (.cells #[.bool false, .int .i64 0, .int .i64 0, .int .i64 0, .bool false] 39)) := ((Below.refl _ _).alloc (Nat.le_refl _) _).alloc (by simp) _
  have H0 : Hid (Blk ((w.alloc (.cells #[.int .i64 1, .int .i64 N, .int .i64 p, x] 30)).alloc (.cells #[.bool false, .int .i64 0, .int .i64 0, .int .i64 0, .bool false] 39)) d #[.int .i64 1, .int .i64 N, .int .i64 p, x] 30 ∧ Blk ((w.alloc (.cells #[.int .i64 1, .int .i64 N, .int .i64 p, x] 30)).alloc (.cells #[.bool false, .int .i64 0, .int .i64 0, .int .i64 0, .bool false] 39)) (d + 1) #[.bool false, .int .i64 0, .int .i64 0, .int .i64 0, .bool false] 39 ∧ Hp ((w.alloc (.cells #[.int .i64 1, .int .i64 N, .int .i64 p, x] 30)).alloc (.cells #[.bool false, .int .i64 0, .int .i64 0, .int .i64 0, .bool false] 39)) B b q A m hm L v ea ∧ Below w.heap.size w ((w.alloc (.cells #[.int .i64 1, .int .i64 N, .int .i64 p, x] 30)).alloc (.cells #[.bool false, .int .i64 0, .int .i64 0, .int .i64 0, .bool false] 39))) := by
    rw [World.size_alloc] at hb2
    rw [hd]
    exact ⟨hb1, hb2, hh.under hbw, hbw⟩
  have HD : Hid (d = w.heap.size ∧ ∀ k ∈ blks b q A v, k < w.heap.size) := ⟨hd, hh.all_lt⟩
  clear hi0 hz0 hs0 hb0 hpb hfb hb1 hb2 hbw hM hes hcl hbt hB hp hl
  go_enter Try.func13, Try.ntmps13
  go_upto_region 1 with (fail)
  rw [← hd]
  generalize (w.alloc (.cells #[.int .i64 1, .int .i64 N, .int .i64 p, x] 30)).alloc (.cells #[.bool false, .int .i64 0, .int .i64 0, .int .i64 0, .bool false] 39) = w0 at H0 ⊢
  clear hd hh
  have a0 : w0.cell? ⟨d, 0, none⟩ = some (.int .i64 1) := H0.out.1.cell rfl
  have a2 : w0.cell? ⟨d, 2, none⟩ = some (.int .i64 p) := H0.out.1.cell rfl
  have b0 : w0.cell? ⟨b, 0, none⟩ = some (.pointer (some ⟨q, 0, none⟩)) := H0.out.2.2.1.hb.cell rfl
  have hcv : ∀ w : World, (convert 3 54 (.int .i64 p)).run Try.prog w = .ok (.float .f64 (fb p)) w := fun w => by
    rw [← HFB.out]
    exact run_convert_int_float w 3 54 .i64 .f64 p rfl Try.underlying54
  go_wp2_with fail
  go_still_tail 7, (by kernel_rfl)
  change wpList _ _ _ _ _ w0.drew
  have H1 : Hid (Blk w0.drew (d + 1) #[.bool false, .int .i64 0, .int .i64 0, .int .i64 0, .bool false] 39 ∧ Hp w0.drew B b q A m hm L v ea ∧ Only [] w w0.drew) := ⟨H0.out.2.1.drew, H0.out.2.2.1.only (M := []) (Only.drew (Only.refl _ _)) (by simp), (Only.of_below H0.out.2.2.2).drew⟩
  generalize w0.drew = w1 at H1 ⊢
  clear a0 a2 b0 hcv
  have HLL : Hid (L.length < 1000) := by
    have h1 := H1.out.2.1.live.length_eq
    have h2 := List.length_filterMap_le id ea
    have h3 := H1.out.2.1.len
    show _ < _
    omega
  go_wp2_with fail
  refine (enqueue_any H1.out.2.1.fh (Or.inr ⟨HG.out.2.2.2.2.2.1, HG.out.2.2.2.2.2.2.1⟩) HLL.out).mono ?_
  rintro e w2 ⟨rfl, hf, ho⟩
  obtain ⟨a, ha⟩ : ∃ a, a = w1.heap.size := ⟨_, rfl⟩
  rw [← ha] at hf ⊢
  have hbl : ∀ k ∈ b :: rowB v, k ∉ q :: A := fun k hk => by
    simp only [List.mem_cons] at hk
    rcases hk with rfl | hk
    · exact H1.out.2.1.bA
    · intro e
      exact H1.out.2.1.sep k (by simpa [rowB] using hk) (List.mem_cons_of_mem _ e)
  have hrow := own_only H1.out.2.1.row ho (fun k hk => hbl k (by simp [rowB, hk]))
  have hbb := H1.out.2.1.hb.only ho (hbl b (by simp))
  obtain ⟨so, cp, hv⟩ := own_shape hrow
  subst hv
  have b1 : w2.cell? ⟨b, 1, none⟩ = some (.slice so ea.length cp) := hbb.cell rfl
  have hdd : d + 1 ∉ q :: A := fun e => by
    have h1 := HD.out.2 (d + 1) (by simp only [List.mem_cons] at e; simp only [blks, List.mem_append, List.mem_cons]; rcases e with h | h <;> simp [h])
    have h2 := HD.out.1
    omega
  have H2 : Hid (Fh w2 q (a :: A) (enq m hm a p) (enqH m hm a p) (a :: L) ∧ w2.ownsRow B 40 1 (.slice so ea.length cp) ea.length (FH.row ea) ∧ Blk w2 b #[.pointer (some ⟨q, 0, none⟩), .slice so ea.length cp] 49 ∧ Blk w2 (d + 1) #[.bool false, .int .i64 0, .int .i64 0, .int .i64 0, .bool false] 39 ∧ Only (q :: A) w1 w2 ∧ a = w1.heap.size) := ⟨hf, hrow, hbb, H1.out.1.only ho hdd, ho, ha⟩
  have hlen : ea.length ≤ 900 := H1.out.2.1.len
  have hbs : B ≤ w2.heap.size := Nat.le_trans HG.out.2.2.2.2.1 (Nat.le_trans H1.out.2.2.size ho.size)
  obtain ⟨n, hn⟩ : ∃ n, n = ea.length := ⟨_, rfl⟩
  have HN := Lib.hid hn
  rw [← hn] at b1 hlen H2
  clear hf hrow hbb hdd hbl ho ha hn
  go_wp2_with (at_builtin; go_must (refine wpList_append_own_at _ rfl _ _ 47 rfl B 40 i0 (.pointer none) 1 8 Try.underlying47 HI.out.1 HI.out.2.1 HI.out.2.2.1 HI.out.2.2.2 rfl (by decide) _ _ _ rfl (H2.out.2.1.alloc _) ⟨w2.heap.size, 0, none⟩ 1 1 [optp (some a)] rfl rfl ?c1 ?c2 ?c3 ?c4 ?c5 ?_))
  case c1 => exact one_cell
  case c2 => intro u hu; simp at hu; subst hu; rfl
  case c3 => unfold maxLen; omega
  case c4 => omega
  case c5 => simp; omega
  intro v' w3 hown hgr _ hv'
  obtain ⟨s1, c1, rfl⟩ := own_shape hown
  obtain ⟨k1, k2, k3, k4⟩ := H1.out.2.1.added (Nat.le_trans HG.out.2.2.2.2.1 H1.out.2.2.size) H2.out.2.2.2.2.2 H2.out.1 H2.out.2.2.2.2.1 (by rw [← HN.out]; exact hown) (o := .cells #[.pointer (some ⟨a, 0, none⟩)] 40) (by rw [← HN.out]; exact hgr) (by rw [← HN.out]; simpa using hv') (by have := HG.out.2.2.2.2.2.2.2; omega)
  have f3 := k1.free
  have b3 : w3.cell? ⟨b, 1, none⟩ = some (.slice so ea.length cp) := k1.cell rfl
  have H4 : Hid (Hp (w3.setCell ⟨b, 1, none⟩ (.slice s1 (n + 1) c1)) B b q (a :: A) (enq m hm a p) (enqH m hm a p) (a :: L) (.slice s1 (n + 1) c1) (ea ++ [some a]) ∧ Only M w1 (w3.setCell ⟨b, 1, none⟩ (.slice s1 (n + 1) c1)) ∧ (∀ k ∈ blks b q (a :: A) (.slice s1 (n + 1) c1), k ∈ M ∨ w1.heap.size ≤ k)) := by
    rw [HG.out.1]; exact ⟨k2, k3, k4⟩
  clear hown hgr hv' k1 k2 k3 k4 b1
  go_upto_region 5 with (fail)
  generalize w3.setCell ⟨b, 1, none⟩ (.slice s1 (n + 1) c1) = w4 at H4 ⊢
  clear f3 b3
  have HSD : Hid (∀ W, He W B b q (a :: A) (enq m hm a p) (.slice s1 (n + 1) c1) (ea ++ [some a]) → Calls Try.prog 17 #[.pointer (some ⟨b, 0, none⟩), .pointer (some ⟨a, 0, none⟩), .nilIface] W fun e w' => e = .returned (.agg (said5 n p 0 false)) ∧ Below W.heap.size W w') := fun W hW => by
    have hin : (ea ++ [some a])[n]? = some (some a) := by rw [HN.out]; simp
    refine (said_any (x := some a) (e1 := n) (p1 := p) hW (fun c e => by cases e; exact ⟨by simp, by rw [enq_pr, if_pos rfl]; exact HG.out.2.2.2.2.2.2.2.2.1⟩) (fun i c h1 h2 => ?_)).mono ?_
    · cases h2
      exact ⟨by rw [at_once H4.out.1.nodup h1 hin], by rw [enq_pr, if_pos rfl]⟩
    · rintro e w' ⟨⟨f, hf, he⟩, hb⟩
      have hf1 : f = true := hf.2 ⟨n, a, hin, rfl⟩
      rw [hf1] at he
      exact ⟨he, hb⟩
  go_wp2_with fail
  refine (HSD.out _ H4.out.1.he).mono ?_
  rintro e w5 ⟨rfl, hb5⟩
  have hdM : d + 1 ∉ M := fun e => by
    rw [HG.out.1] at e
    have h1 := HD.out.2 (d + 1) e
    have h2 := HD.out.1
    omega
  have hd5 : Blk w5 (d + 1) #[.bool false, .int .i64 0, .int .i64 0, .int .i64 0, .bool false] 39 := by
    have h1 := H1.out.1.only H4.out.2.1 hdM
    exact h1.below hb5 h1.lt
  have HLB := Lib.hid (lay5_blk hd5 n p 0 false)
  have r0 : w5.cell? ⟨d + 1, 0, none⟩ = some (.bool false) := hd5.cell rfl
  have r1 : w5.cell? ⟨d + 1, 1, none⟩ = some (.int .i64 0) := hd5.cell rfl
  have r2 : w5.cell? ⟨d + 1, 2, none⟩ = some (.int .i64 0) := hd5.cell rfl
  have r3 : w5.cell? ⟨d + 1, 3, none⟩ = some (.int .i64 0) := hd5.cell rfl
  have r4 : w5.cell? ⟨d + 1, 4, none⟩ = some (.bool false) := hd5.cell rfl
  have fr := hd5.free
  have H5 : Hid (Below w4.heap.size w4 w5 ∧ d + 1 ∉ M ∧ d + 1 < w1.heap.size) := ⟨hb5, hdM, H1.out.1.lt⟩
  clear hb5 hdM hd5
  unfold lay5 at HLB
  rw [show said5 (n : Int) p 0 false = #[.bool true, .int .i64 n, .int .i64 p, .int .i64 0, .bool false] from rfl]
  go_wp2_with fail
  generalize (((((w5.setCell ⟨d + 1, 0, none⟩ (.bool true)).setCell ⟨d + 1, 1, none⟩ (.int .i64 n)).setCell ⟨d + 1, 2, none⟩ (.int .i64 p)).setCell ⟨d + 1, 3, none⟩ (.int .i64 0)).setCell ⟨d + 1, 4, none⟩ (.bool false)) = w9 at HLB ⊢
  clear r0 r1 r2 r3 r4 fr
  have q0 : w9.cell? ⟨d + 1, 0, none⟩ = some (.bool true) := HLB.out.1.cell rfl
  have q1 : w9.cell? ⟨d + 1, 1, none⟩ = some (.int .i64 n) := HLB.out.1.cell rfl
  have q2 : w9.cell? ⟨d + 1, 2, none⟩ = some (.int .i64 p) := HLB.out.1.cell rfl
  have q3 : w9.cell? ⟨d + 1, 3, none⟩ = some (.int .i64 0) := HLB.out.1.cell rfl
  have q4 : w9.cell? ⟨d + 1, 4, none⟩ = some (.bool false) := HLB.out.1.cell rfl
  refine bodyPost_ret (v := .agg (said5 n p 0 false)) (by simp [results, Try.results13, go_sem, q0, q1, q2, q3, q4, said5]) rfl ?_
  have hsz : w.heap.size ≤ w1.heap.size := H1.out.2.2.size
  have hM9 : ∀ k ∈ blks b q (a :: A) (.slice s1 (n + 1) c1), k ∈ M ∨ w.heap.size ≤ k := fun k hk => (H4.out.2.2 k hk).imp id (fun h => Nat.le_trans hsz h)
  refine ⟨blks b q (a :: A) (.slice s1 (n + 1) c1), by rw [HG.out.2.2.2.2.2.2.2.2.2, HN.out], ⟨q, a :: A, enq m hm a p, enqH m hm a p, a :: L, _, ea ++ [some a], ?_, rfl, ?_, ?_, ?_⟩, hM9, ?_⟩
  · refine (H4.out.1.under H5.out.1).only HLB.out.2 (fun k hk e => ?_)
    simp only [List.mem_singleton] at e
    subst e
    rcases H4.out.2.2 _ hk with h | h
    · exact H5.out.2.1 h
    · have := H5.out.2.2; omega
  · have e1 : prs (enq m hm a p) ea = prs m ea := prs_congr (fun i c hi => by
      rw [enq_pr, if_neg]
      rintro rfl
      have h1 := H1.out.2.1.fh.ms.lt (H1.out.2.1.he.sub i _ hi)
      have h2 := H2.out.2.2.2.2.2
      omega)
    rw [HG.out.2.1, ← e1]
    unfold prs
    rw [List.map_append]
    simp [enq_pr]
  · intro hc y
    rw [enq_mk]
    split
    · rfl
    · exact HG.out.2.2.1 hc y
  · intro y hy
    rw [enq_pr]
    split
    · exact HG.out.2.2.2.2.2.2.2.2.1
    · simp only [List.mem_cons] at hy
      rcases hy with hy | hy
      · contradiction
      · exact HG.out.2.2.2.1 y hy
  · have h1 : Only M w w1 := H1.out.2.2.mono (by simp)
    have h2 : Only M w w5 := (h1.trans H4.out.2.1).trans (Only.of_below H5.out.1)
    exact ochain h2 HLB.out.2 (fun k hk => by
      simp only [List.mem_singleton] at hk
      have := HD.out.1
      exact Or.inr (by omega))
end FH
end Go.Proofs.Ytalphojbkeleiaa
