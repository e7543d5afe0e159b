/- A heap of trees whose siblings form rings: its shape, and what taking the least node out, linking two roots, adding a node, and cutting one off keep of it. -/
import Derived.Test.YtalphojbkeleiaaHP
namespace Go.Proofs.Ytalphojbkeleiaa
namespace FH

/-- Nodes L, of them the roots R; K tells the children of each; rk falls from a node to its children. -/
structure Wf (m : Mem) (R : List Nat) (K : Nat → List Nat) (L : List Nat) (rk : Nat → Nat) : Prop where
  rnd : R.Nodup
  rL : ∀ b ∈ R, b ∈ L ∧ (m b).pa = none
  kL : ∀ a ∈ L, ∀ b ∈ K a, b ∈ L ∧ (m b).pa = some a ∧ (m a).pr ≤ (m b).pr ∧ rk b < rk a
  knd : ∀ a ∈ L, (K a).Nodup
  top : ∀ b ∈ L, (m b).pa = none → b ∈ R
  sub : ∀ b ∈ L, ∀ a, (m b).pa = some a → a ∈ L ∧ b ∈ K a
  rring : Rg m R
  kring : ∀ a ∈ L, Rg m (K a)
  kch : ∀ a ∈ L, (m a).ch = (K a).head?
  deg : ∀ a ∈ L, (m a).deg = (K a).length
theorem Wf.rot {m : Mem} {R R' : List Nat} {K : Nat → List Nat} {L : List Nat} {rk : Nat → Nat} (h : Wf m R K L rk) (hp : R'.Perm R) (hr : Rg m R') : Wf m R' K L rk :=
  ⟨hp.nodup_iff.2 h.rnd, fun b hb => h.rL b (hp.subset hb), h.kL, h.knd, fun b hb e => hp.symm.subset (h.top b hb e), h.sub, hr, h.kring, h.kch, h.deg⟩
/-- The least root is the least of all. -/
theorem Wf.least {m : Mem} {R : List Nat} {K : Nat → List Nat} {L : List Nat} {rk : Nat → Nat} (h : Wf m R K L rk) {x : Int} (hx : ∀ r ∈ R, x ≤ (m r).pr) : ∀ b ∈ L, x ≤ (m b).pr := by
  have hB : ∃ B, ∀ b ∈ L, rk b ≤ B := by
    clear h hx
    induction L with
    | nil => exact ⟨0, by simp⟩
    | cons a L ih =>
      obtain ⟨B, hB⟩ := ih
      refine ⟨max B (rk a), fun b hb => ?_⟩
      simp at hb
      rcases hb with rfl | hb
      · omega
      · have := hB b hb; omega
  obtain ⟨B, hB⟩ := hB
  have key : ∀ n, ∀ b ∈ L, B - rk b = n → x ≤ (m b).pr := by
    intro n
    induction n using Nat.strongRecOn with
    | _ n ih =>
      intro b hb hn
      cases hp : (m b).pa with
      | none => exact hx b (h.top b hb hp)
      | some a =>
        obtain ⟨ha, hba⟩ := h.sub b hb a hp
        obtain ⟨_, _, h3, h4⟩ := h.kL a ha b hba
        have h5 := hB a ha
        have := ih (B - rk a) (by omega) a ha rfl
        omega
  exact fun b hb => key _ b hb rfl
/-- A write that leaves links and shapes alone. -/
theorem Wf.same {m m' : Mem} {R : List Nat} {K : Nat → List Nat} {L : List Nat} {rk : Nat → Nat} (h : Wf m R K L rk)
    (h1 : ∀ b ∈ L, (m' b).nx = (m b).nx ∧ (m' b).pv = (m b).pv ∧ (m' b).pa = (m b).pa ∧ (m' b).ch = (m b).ch ∧ (m' b).deg = (m b).deg)
    (h2 : ∀ a ∈ L, ∀ b ∈ K a, (m' a).pr ≤ (m' b).pr) : Wf m' R K L rk where
  rnd := h.rnd
  rL b hb := ⟨(h.rL b hb).1, by rw [(h1 b (h.rL b hb).1).2.2.1]; exact (h.rL b hb).2⟩
  kL a ha b hb := ⟨(h.kL a ha b hb).1, by rw [(h1 b (h.kL a ha b hb).1).2.2.1]; exact (h.kL a ha b hb).2.1, h2 a ha b hb, (h.kL a ha b hb).2.2.2⟩
  knd := h.knd
  top b hb e := h.top b hb (by rw [← (h1 b hb).2.2.1]; exact e)
  sub b hb a e := h.sub b hb a (by rw [← (h1 b hb).2.2.1]; exact e)
  rring := h.rring.congr (fun x hx => (h1 x (h.rL x hx).1).1) (fun x hx => (h1 x (h.rL x hx).1).2.1)
  kring a ha := (h.kring a ha).congr (fun x hx => (h1 x (h.kL a ha x hx).1).1) (fun x hx => (h1 x (h.kL a ha x hx).1).2.1)
  kch a ha := by rw [(h1 a ha).2.2.2.1]; exact h.kch a ha
  deg a ha := by rw [(h1 a ha).2.2.2.2]; exact h.deg a ha
theorem Wf.kids_apart {m : Mem} {R : List Nat} {K : Nat → List Nat} {L : List Nat} {rk : Nat → Nat} (h : Wf m R K L rk) {a a' x : Nat} (ha : a ∈ L) (ha' : a' ∈ L) (hx : x ∈ K a) (hx' : x ∈ K a') : a = a' := by
  have h1 := (h.kL a ha x hx).2.1
  have h2 := (h.kL a' ha' x hx').2.1
  rw [h1] at h2
  exact Option.some.inj h2
theorem Wf.root_kid {m : Mem} {R : List Nat} {K : Nat → List Nat} {L : List Nat} {rk : Nat → Nat} (h : Wf m R K L rk) {a x : Nat} (ha : a ∈ L) (hx : x ∈ K a) : x ∉ R := fun hr => by
  have h1 := (h.kL a ha x hx).2.1
  rw [(h.rL x hr).2] at h1
  cases h1

/-- Merging what may be nothing. -/
def mgO (m : Mem) : Option Nat → Option Nat → Mem
  | some a, some b => mg m a b
  | _, _ => m
def mgOH (m : Mem) : Option Nat → Option Nat → Option Nat
  | some a, some b => some (mgH m a b)
  | some a, none => some a
  | none, b => b
@[simp] theorem mgO_deg (m : Mem) (a b : Option Nat) (x : Nat) : (mgO m a b x).deg = (m x).deg := by cases a <;> cases b <;> simp [mgO]
@[simp] theorem mgO_mkd (m : Mem) (a b : Option Nat) (x : Nat) : (mgO m a b x).mkd = (m x).mkd := by cases a <;> cases b <;> simp [mgO]
@[simp] theorem mgO_ch (m : Mem) (a b : Option Nat) (x : Nat) : (mgO m a b x).ch = (m x).ch := by cases a <;> cases b <;> simp [mgO]
@[simp] theorem mgO_pa (m : Mem) (a b : Option Nat) (x : Nat) : (mgO m a b x).pa = (m x).pa := by cases a <;> cases b <;> simp [mgO]
@[simp] theorem mgO_pr (m : Mem) (a b : Option Nat) (x : Nat) : (mgO m a b x).pr = (m x).pr := by cases a <;> cases b <;> simp [mgO]
/-- A ring, known by one of its nodes, or none. -/
def Rep (m : Mem) (S : List Nat) (h : Option Nat) : Prop := Rg m S ∧ ((S = [] ∧ h = none) ∨ ∃ x, h = some x ∧ x ∈ S)
theorem mg_out {m : Mem} {S T : List Nat} {a b : Nat} (hs : Rg m S) (ht : Rg m T) (ha : a ∈ S) (hb : b ∈ T) {y : Nat} (h1 : y ∉ S) (h2 : y ∉ T) : (mg m a b y).nx = (m y).nx ∧ (mg m a b y).pv = (m y).pv := by
  rw [mg_nx, mg_pv, if_neg, if_neg, if_neg, if_neg]
  · exact ⟨rfl, rfl⟩
  · rintro rfl; exact h2 (ht.next_mem hb)
  · rintro rfl; exact h1 (hs.next_mem ha)
  · rintro rfl; exact h1 ha
  · rintro rfl; exact h2 hb
theorem mgO_rep {m : Mem} {S T : List Nat} {a b : Option Nat} (hs : Rep m S a) (ht : Rep m T b) (hn : (S ++ T).Nodup) : ∃ U, U.Perm (S ++ T) ∧ Rep (mgO m a b) U (mgOH m a b) ∧ ∀ y, y ∉ S → y ∉ T → (mgO m a b y).nx = (m y).nx ∧ (mgO m a b y).pv = (m y).pv := by
  obtain ⟨hs1, ⟨rfl, rfl⟩ | ⟨x, rfl, hx⟩⟩ := hs
  · refine ⟨T, by simp, ?_, fun y _ _ => by simp [mgO]⟩
    simpa [mgO, mgOH] using ht
  · obtain ⟨ht1, ⟨rfl, rfl⟩ | ⟨y, rfl, hy⟩⟩ := ht
    · exact ⟨S, by simp, ⟨hs1, Or.inr ⟨x, rfl, hx⟩⟩, fun y _ _ => by simp [mgO]⟩
    · obtain ⟨s, hsp, hsr⟩ := hs1.from hx
      obtain ⟨t, htp, htr⟩ := ht1.from hy
      have hp : (x :: s ++ y :: t).Perm (S ++ T) := hsp.append htp
      refine ⟨x :: t ++ y :: s, ?_, ⟨mg_ring hsr htr (hp.nodup_iff.2 hn), Or.inr ⟨_, rfl, ?_⟩⟩, fun z h1 h2 => mg_out hs1 ht1 hx hy h1 h2⟩
      · refine List.Perm.trans ?_ hp
        have h1 : (t ++ y :: s).Perm (s ++ y :: t) := (List.perm_append_comm (l₁ := t) (l₂ := y :: s)).trans (by
          show (y :: (s ++ t)).Perm (s ++ y :: t)
          exact List.perm_middle.symm)
        exact h1.cons x
      · unfold mgH; split <;> simp

/-- Nodes told that they have no parent. -/
def clr (m : Mem) (l : List Nat) : Mem := fun b => if b ∈ l then { m b with pa := none } else m b
@[simp] theorem clr_deg (m : Mem) (l : List Nat) (x : Nat) : (clr m l x).deg = (m x).deg := by unfold clr; split <;> rfl
@[simp] theorem clr_mkd (m : Mem) (l : List Nat) (x : Nat) : (clr m l x).mkd = (m x).mkd := by unfold clr; split <;> rfl
@[simp] theorem clr_nx (m : Mem) (l : List Nat) (x : Nat) : (clr m l x).nx = (m x).nx := by unfold clr; split <;> rfl
@[simp] theorem clr_pv (m : Mem) (l : List Nat) (x : Nat) : (clr m l x).pv = (m x).pv := by unfold clr; split <;> rfl
@[simp] theorem clr_ch (m : Mem) (l : List Nat) (x : Nat) : (clr m l x).ch = (m x).ch := by unfold clr; split <;> rfl
@[simp] theorem clr_pr (m : Mem) (l : List Nat) (x : Nat) : (clr m l x).pr = (m x).pr := by unfold clr; split <;> rfl
@[simp] theorem clr_pa (m : Mem) (l : List Nat) (x : Nat) : (clr m l x).pa = if x ∈ l then none else (m x).pa := by unfold clr; split <;> rfl

/-- The least root taken out: first its ring is shut behind it. -/
def out1 (m : Mem) (h : Nat) : Mem := if (m h).nx = h then m else dl m h
def out1H (m : Mem) (h : Nat) : Option Nat := if (m h).nx = h then none else some (m h).nx
@[simp] theorem out1_deg (m : Mem) (a x : Nat) : (out1 m a x).deg = (m x).deg := by unfold out1; split <;> simp
@[simp] theorem out1_mkd (m : Mem) (a x : Nat) : (out1 m a x).mkd = (m x).mkd := by unfold out1; split <;> simp
@[simp] theorem out1_ch (m : Mem) (a x : Nat) : (out1 m a x).ch = (m x).ch := by unfold out1; split <;> simp
@[simp] theorem out1_pa (m : Mem) (a x : Nat) : (out1 m a x).pa = (m x).pa := by unfold out1; split <;> simp
@[simp] theorem out1_pr (m : Mem) (a x : Nat) : (out1 m a x).pr = (m x).pr := by unfold out1; split <;> simp
theorem out1_rep {m : Mem} {R : List Nat} {h : Nat} (hr : Rg m R) (hh : h ∈ R) (hn : R.Nodup) : Rep (out1 m h) (R.erase h) (out1H m h) ∧ ∀ y, y ∉ R → (out1 m h y).nx = (m y).nx ∧ (out1 m h y).pv = (m y).pv := by
  unfold out1 out1H
  by_cases e : (m h).nx = h
  · have := (hr.single hh hn).1 e
    subst this
    simp [e, Rep, Rg]
  · rw [if_neg e, if_neg e]
    obtain ⟨t, hp, ht⟩ := hr.from hh
    have hn' := hp.nodup_iff.2 hn
    refine ⟨⟨?_, Or.inr ⟨_, rfl, ?_⟩⟩, fun y hy => dl_out hr hh hy⟩
    · obtain ⟨p, q, rfl, he⟩ : ∃ p q, R = p ++ h :: q ∧ R.erase h = p ++ q := by
        obtain ⟨p, q, hp1, hp2, hp3⟩ := List.exists_erase_eq hh
        exact ⟨p, q, hp2, hp3⟩
      rw [he]
      have h1 : Rg (dl m h) (q ++ p) := dl_ring hr.rot (by
        have : (h :: (q ++ p)).Perm (p ++ h :: q) := List.perm_append_comm (l₁ := h :: q) (l₂ := p)
        exact this.nodup_iff.2 hn)
      cases p with
      | nil => simpa using h1
      | cons a p => simpa using h1.rot
    · exact (List.mem_erase_of_ne e).2 (hr.next_mem hh)
def out2 (m : Mem) (h : Nat) (k : List Nat) : Mem := clr (out1 m h) k
def out3 (m : Mem) (h : Nat) (k : List Nat) : Mem := mgO (out2 m h k) (out1H m h) (m h).ch
def out3H (m : Mem) (h : Nat) (k : List Nat) : Option Nat := mgOH (out2 m h k) (out1H m h) (m h).ch
theorem Wf.taken {m : Mem} {R : List Nat} {K : Nat → List Nat} {L : List Nat} {rk : Nat → Nat} (h : Wf m R K L rk) {x : Nat} (hx : x ∈ R) (hL : L.Nodup) :
    ∃ U, Wf (out3 m x (K x)) U K (L.erase x) rk ∧ Rep (out3 m x (K x)) U (out3H m x (K x)) ∧ U.Perm (R.erase x ++ K x) := by
  have hxL := (h.rL x hx).1
  obtain ⟨h1, h2⟩ := out1_rep h.rring hx h.rnd
  have hsub : ∀ y ∈ R.erase x, y ∈ R := fun y hy => List.mem_of_mem_erase hy
  have hK : Rep (out2 m x (K x)) (K x) (m x).ch := by
    refine ⟨((h.kring x hxL).congr (fun y hy => ?_) (fun y hy => ?_)), ?_⟩
    · rw [out2, clr_nx]; exact (h2 y (h.root_kid hxL hy)).1
    · rw [out2, clr_pv]; exact (h2 y (h.root_kid hxL hy)).2
    · rw [h.kch x hxL]
      cases hk : K x with
      | nil => exact Or.inl ⟨rfl, rfl⟩
      | cons a t => exact Or.inr ⟨a, rfl, by simp⟩
  have hR : Rep (out2 m x (K x)) (R.erase x) (out1H m x) := ⟨h1.1.congr (fun y _ => by rw [out2, clr_nx]) (fun y _ => by rw [out2, clr_pv]), h1.2⟩
  have hnd : (R.erase x ++ K x).Nodup := List.nodup_append.2 ⟨h.rnd.erase x, h.knd x hxL, fun a ha b hb e => h.root_kid hxL hb (e ▸ hsub a ha)⟩
  obtain ⟨U, hU, hRep, hout⟩ := mgO_rep hR hK hnd
  have hRep : Rep (out3 m x (K x)) U (out3H m x (K x)) := hRep
  have hmem : ∀ y, y ∈ U ↔ y ∈ R.erase x ∨ y ∈ K x := fun y => by rw [hU.mem_iff, List.mem_append]
  have hLe : ∀ y, y ∈ L.erase x ↔ y ≠ x ∧ y ∈ L := fun y => hL.mem_erase_iff
  have hRe : ∀ y, y ∈ R.erase x ↔ y ≠ x ∧ y ∈ R := fun y => h.rnd.mem_erase_iff
  have hxx : ∀ a ∈ L, x ∉ K a := fun a ha hk => h.root_kid ha hk hx
  have hpa : ∀ y, (out3 m x (K x) y).pa = if y ∈ K x then none else (m y).pa := fun y => by simp [out3, out2]
  have hpr : ∀ y, (out3 m x (K x) y).pr = (m y).pr := fun y => by simp [out3, out2]
  have hkeep : ∀ y, y ∉ R → y ∉ K x → (out3 m x (K x) y).nx = (m y).nx ∧ (out3 m x (K x) y).pv = (m y).pv := fun y hy hk => by
    have := hout y (fun e => hy (hsub y e)) hk
    rw [out3]
    rw [this.1, this.2, out2, clr_nx, clr_pv]
    exact h2 y hy
  refine ⟨U, ⟨hU.nodup_iff.2 hnd, ?_, ?_, fun a ha => h.knd a ((hLe a).1 ha).2, ?_, ?_, hRep.1, ?_, ?_, ?_⟩, hRep, hU⟩
  · intro b hb
    rw [hpa]
    rcases (hmem b).1 hb with hb | hb
    · obtain ⟨h3, h4⟩ := (hRe b).1 hb
      refine ⟨(hLe b).2 ⟨h3, (h.rL b h4).1⟩, ?_⟩
      split
      · rfl
      · exact (h.rL b h4).2
    · exact ⟨(hLe b).2 ⟨fun e => hxx x hxL (e ▸ hb), (h.kL x hxL b hb).1⟩, by rw [if_pos hb]⟩
  · intro a ha b hb
    obtain ⟨h3, h4⟩ := (hLe a).1 ha
    obtain ⟨h5, h6, h7, h8⟩ := h.kL a h4 b hb
    refine ⟨(hLe b).2 ⟨fun e => hxx a h4 (e ▸ hb), h5⟩, ?_, by rw [hpr, hpr]; exact h7, h8⟩
    rw [hpa, if_neg]
    · exact h6
    · intro hbx
      exact h3 (h.kids_apart h4 hxL hb hbx)
  · intro b hb e
    obtain ⟨h3, h4⟩ := (hLe b).1 hb
    rw [hpa] at e
    refine (hmem b).2 ?_
    by_cases hk : b ∈ K x
    · exact Or.inr hk
    · rw [if_neg hk] at e
      exact Or.inl ((hRe b).2 ⟨h3, h.top b h4 e⟩)
  · intro b hb a e
    obtain ⟨h3, h4⟩ := (hLe b).1 hb
    rw [hpa] at e
    by_cases hk : b ∈ K x
    · rw [if_pos hk] at e; cases e
    · rw [if_neg hk] at e
      obtain ⟨h5, h6⟩ := h.sub b h4 a e
      exact ⟨(hLe a).2 ⟨fun e' => hk (e' ▸ h6), h5⟩, h6⟩
  · intro a ha
    obtain ⟨h3, h4⟩ := (hLe a).1 ha
    have hy : ∀ y ∈ K a, y ∉ R ∧ y ∉ K x := fun y hy => ⟨h.root_kid h4 hy, fun hk => h3 (h.kids_apart h4 hxL hy hk)⟩
    exact (h.kring a h4).congr (fun y h5 => (hkeep y (hy y h5).1 (hy y h5).2).1) (fun y h5 => (hkeep y (hy y h5).1 (hy y h5).2).2)
  · intro a ha
    have := h.kch a ((hLe a).1 ha).2
    simpa [out3, out2] using this
  · intro a ha
    have := h.deg a ((hLe a).1 ha).2
    simpa [out3, out2] using this

/-- One root made a child of another one. -/
def lk (m : Mem) (n x : Nat) : Mem :=
  let m3 := sNx (sPv (dl m x) x x) x x
  let m6 := sPa (sCh (mgO m3 (m n).ch (some x)) n (mgOH m3 (m n).ch (some x))) x (some n)
  sDeg (sMkd m6 x false) n ((m n).deg + 1)
theorem Wf.linked {m : Mem} {R : List Nat} {K : Nat → List Nat} {L : List Nat} {rk : Nat → Nat} (h : Wf m R K L rk) {n x : Nat} (hn : n ∈ R) (hx : x ∈ R) (hne : n ≠ x) (hle : (m n).pr ≤ (m x).pr) :
    ∃ K' rk', Wf (lk m n x) (R.erase x) K' L rk' := by
  have hnL := (h.rL n hn).1
  have hxL := (h.rL x hx).1
  have hR2 : R ≠ [x] := by rintro rfl; simp at hn; exact hne hn
  have hnx : (m x).nx ≠ x := fun e => hR2 ((h.rring.single hx h.rnd).1 e)
  have hpx := h.rring.single' hx h.rnd hnx
  have ho := out1_rep h.rring hx h.rnd
  rw [out1, if_neg hnx] at ho
  obtain ⟨⟨h1, _⟩, h2⟩ := ho
  obtain ⟨m3, hm3⟩ : ∃ m3, m3 = sNx (sPv (dl m x) x x) x x := ⟨_, rfl⟩
  have hRe : ∀ y, y ∈ R.erase x ↔ y ≠ x ∧ y ∈ R := fun y => h.rnd.mem_erase_iff
  have k3 : ∀ y, y ≠ x → (m3 y).nx = (dl m x y).nx ∧ (m3 y).pv = (dl m x y).pv := fun y hy => by rw [hm3]; simp [hy]
  have k4 : (m3 x).nx = x ∧ (m3 x).pv = x := by rw [hm3]; simp
  have hRing : Rg m3 (R.erase x) := h1.congr (fun y hy => (k3 y ((hRe y).1 hy).1).1) (fun y hy => (k3 y ((hRe y).1 hy).1).2)
  have hkx : ∀ a ∈ L, ∀ y ∈ K a, y ≠ x ∧ y ∉ R := fun a ha y hy => ⟨fun e => h.root_kid ha hy (e ▸ hx), h.root_kid ha hy⟩
  have hKr : ∀ a ∈ L, Rg m3 (K a) := fun a ha => (h.kring a ha).congr (fun y hy => ((k3 y (hkx a ha y hy).1).1.trans (h2 y (hkx a ha y hy).2).1)) (fun y hy => ((k3 y (hkx a ha y hy).1).2.trans (h2 y (hkx a ha y hy).2).2))
  have hKn : Rep m3 (K n) (m n).ch := by
    refine ⟨hKr n hnL, ?_⟩
    rw [h.kch n hnL]
    cases K n with
    | nil => exact Or.inl ⟨rfl, rfl⟩
    | cons a t => exact Or.inr ⟨a, rfl, by simp⟩
  have hX : Rep m3 [x] (some x) := ⟨⟨k4.1, k4.2, trivial⟩, Or.inr ⟨x, rfl, by simp⟩⟩
  have hnd : (K n ++ [x]).Nodup := List.nodup_append.2 ⟨h.knd n hnL, by simp, fun a ha b hb e => by simp at hb; subst hb; exact (hkx n hnL a ha).1 e⟩
  obtain ⟨U, hU, hRep, hout⟩ := mgO_rep hKn hX hnd
  obtain ⟨hUr, ⟨rfl, he⟩ | ⟨c, hc, hcU⟩⟩ := hRep
  · have := hU.length_eq; simp at this
  obtain ⟨t, htp, htr⟩ := hUr.from hcU
  have hT := htp.trans hU
  have lnx : ∀ y, (lk m n x y).nx = (mgO m3 (m n).ch (some x) y).nx := fun y => by simp [lk, ← hm3]
  have lpv : ∀ y, (lk m n x y).pv = (mgO m3 (m n).ch (some x) y).pv := fun y => by simp [lk, ← hm3]
  have lpr : ∀ y, (lk m n x y).pr = (m y).pr := fun y => by simp [lk]
  have lpa : ∀ y, (lk m n x y).pa = if y = x then some n else (m y).pa := fun y => by simp [lk]
  have lch : ∀ y, (lk m n x y).ch = if y = n then some c else (m y).ch := fun y => by simp [lk, ← hm3, hc]; simp [hm3]
  have ldeg : ∀ y, (lk m n x y).deg = if y = n then (m n).deg + 1 else (m y).deg := fun y => by simp [lk]
  have hxn : ∀ a ∈ L, x ∉ K a := fun a ha hk => (hkx a ha x hk).1 rfl
  refine ⟨fun a => if a = n then c :: t else K a, fun a => if a = n then max (rk n) (rk x + 1) else rk a, ⟨h.rnd.erase x, ?_, ?_, ?_, ?_, ?_, ?_, ?_, ?_, ?_⟩⟩
  · intro b hb
    obtain ⟨h3, h4⟩ := (hRe b).1 hb
    exact ⟨(h.rL b h4).1, by rw [lpa, if_neg h3]; exact (h.rL b h4).2⟩
  · intro a ha b hb
    (try dsimp only at hb)
    rw [lpa, lpr, lpr]
    by_cases e : a = n
    · subst e
      rw [if_pos rfl] at hb ⊢
      have hb' := hT.subset hb
      simp only [List.mem_append, List.mem_singleton] at hb'
      rcases hb' with hb' | rfl
      · obtain ⟨h5, h6, h7, h8⟩ := h.kL a ha b hb'
        have hba : b ≠ a := by rintro rfl; omega
        rw [if_neg (hkx a ha b hb').1, if_neg hba]
        exact ⟨h5, h6, h7, by omega⟩
      · rw [if_pos rfl, if_neg (fun e => hne e.symm)]
        exact ⟨hxL, rfl, hle, by omega⟩
    · rw [if_neg e] at hb ⊢
      obtain ⟨h5, h6, h7, h8⟩ := h.kL a ha b hb
      have hbn : b ≠ n := by rintro rfl; exact h.root_kid ha hb hn
      rw [if_neg (hkx a ha b hb).1, if_neg hbn]
      exact ⟨h5, h6, h7, h8⟩
  · intro a ha
    (try dsimp only)
    split
    · exact hT.nodup_iff.2 hnd
    · exact h.knd a ha
  · intro b hb e
    rw [lpa] at e
    split at e
    · cases e
    · rename_i hbx
      exact (hRe b).2 ⟨hbx, h.top b hb e⟩
  · intro b hb a e
    rw [lpa] at e
    split at e
    · rename_i hbx
      subst hbx
      cases e
      refine ⟨hnL, ?_⟩
      rw [if_pos rfl]
      exact hT.symm.subset (by simp)
    · obtain ⟨h5, h6⟩ := h.sub b hb a e
      refine ⟨h5, ?_⟩
      split
      · rename_i e'
        subst e'
        exact hT.symm.subset (by simp [h6])
      · exact h6
  · refine hRing.congr (fun y hy => ?_) (fun y hy => ?_)
    · rw [lnx]
      exact (hout y (fun hk => h.root_kid hnL hk ((hRe y).1 hy).2) (by simp; exact ((hRe y).1 hy).1)).1
    · rw [lpv]
      exact (hout y (fun hk => h.root_kid hnL hk ((hRe y).1 hy).2) (by simp; exact ((hRe y).1 hy).1)).2
  · intro a ha
    (try dsimp only)
    split
    · exact htr.congr (fun y _ => lnx y) (fun y _ => lpv y)
    · rename_i e
      refine (hKr a ha).congr (fun y hy => ?_) (fun y hy => ?_)
      · rw [lnx]
        exact (hout y (fun hk => e (h.kids_apart ha hnL hy hk)) (by simp; exact (hkx a ha y hy).1)).1
      · rw [lpv]
        exact (hout y (fun hk => e (h.kids_apart ha hnL hy hk)) (by simp; exact (hkx a ha y hy).1)).2
  · intro a ha
    (try dsimp only)
    rw [lch]
    split
    · rfl
    · exact h.kch a ha
  · intro a ha
    (try dsimp only)
    rw [ldeg]
    split
    · rw [hT.length_eq, h.deg n hnL]; simp
    · exact h.deg a ha
end FH
end Go.Proofs.Ytalphojbkeleiaa
