/- A heap of trees: the steps of a consolidation, a new node, a node cut off. -/
import Derived.Test.YtalphojbkeleiaaHQ
namespace Go.Proofs.Ytalphojbkeleiaa
namespace FH

theorem nodup_sub_len : ∀ {l L : List Nat}, l.Nodup → (∀ x ∈ l, x ∈ L) → l.length ≤ L.length
  | [], _, _, _ => by simp
  | a :: l, L, hn, hs => by
    have ha : a ∈ L := hs a (by simp)
    have h1 := List.nodup_cons.1 hn
    have h2 := nodup_sub_len (l := l) (L := L.erase a) h1.2 (fun x hx => (List.mem_erase_of_ne (by rintro rfl; exact h1.1 hx)).2 (hs x (by simp [hx])))
    rw [List.length_erase_of_mem ha] at h2
    have := List.length_pos_of_mem ha
    simp only [List.length_cons]; omega
theorem Wf.deg_le {m : Mem} {R : List Nat} {K : Nat → List Nat} {L : List Nat} {rk : Nat → Nat} (h : Wf m R K L rk) {a : Nat} (ha : a ∈ L) : (m a).deg ≤ L.length := by
  rw [h.deg a ha]
  exact nodup_sub_len (h.knd a ha) (fun x hx => (h.kL a ha x hx).1)
theorem Wf.len_le {m : Mem} {R : List Nat} {K : Nat → List Nat} {L : List Nat} {rk : Nat → Nat} (h : Wf m R K L rk) : R.length ≤ L.length := nodup_sub_len h.rnd fun x hx => (h.rL x hx).1

/-- Where a consolidation stands: roots still to be looked at, the one in hand, and those that were put by their degrees. -/
structure Cn (m m0 : Mem) (L : List Nat) (h : Nat) (rest : List Nat) (cur : Option Nat) (ts : List (Option Nat)) (R : List Nat) (K : Nat → List Nat) (rk : Nat → Nat) : Prop where
  wf : Wf m R K L rk
  pr : ∀ y, (m y).pr = (m0 y).pr
  mkd : ∀ y, (m y).mkd = true → (m0 y).mkd = true
  nd : rest.Nodup
  sub : ∀ y ∈ rest, y ∈ R
  slots : ∀ (d r : Nat), ts[d]? = some (some r) → r ∈ R ∧ r ∉ rest ∧ (m r).deg = d ∧ cur ≠ some r
  hand : ∀ c, cur = some c → c ∈ R ∧ c ∉ rest
  min : h ∈ R ∨ ∃ c, cur = some c ∧ (m c).pr ≤ (m h).pr
  low : ∀ r ∈ R, r ∉ rest → cur ≠ some r → (m h).pr ≤ (m r).pr
section
variable {m m0 : Mem} {L : List Nat} {h : Nat} {rest : List Nat} {ts : List (Option Nat)} {R : List Nat} {K : Nat → List Nat} {rk : Nat → Nat}
theorem Cn.start (hw : Wf m R K L rk) (hh : h ∈ R) {T : List Nat} (hT : T.Perm R) : Cn m m L h T none [] R K rk where
  wf := hw
  pr _ := rfl
  mkd _ h := h
  nd := hT.nodup_iff.2 hw.rnd
  sub y hy := hT.subset hy
  slots d r e := by simp at e
  hand c e := by cases e
  min := Or.inl hh
  low r hr hn _ := absurd (hT.symm.subset hr) hn
theorem Cn.take {c : Nat} (hc : Cn m m0 L h (c :: rest) none ts R K rk) : Cn m m0 L h rest (some c) ts R K rk where
  wf := hc.wf
  pr := hc.pr
  mkd := hc.mkd
  nd := (List.nodup_cons.1 hc.nd).2
  sub y hy := hc.sub y (by simp [hy])
  slots d r e := by
    obtain ⟨h1, h2, h3, _⟩ := hc.slots d r e
    simp at h2
    exact ⟨h1, h2.2, h3, fun e => h2.1 (Option.some.inj e).symm⟩
  hand c' e := by
    cases e
    exact ⟨hc.sub c (by simp), (List.nodup_cons.1 hc.nd).1⟩
  min := by
    rcases hc.min with h1 | ⟨_, h1, _⟩
    · exact Or.inl h1
    · cases h1
  low r hr hn hne := hc.low r hr (by simp; exact ⟨fun e => hne (by rw [e]), hn⟩) (by simp)
theorem Cn.grow {c : Option Nat} (hc : Cn m m0 L h rest c ts R K rk) : Cn m m0 L h rest c (ts ++ [none]) R K rk :=
  { hc with slots := fun d r e => hc.slots d r (by
      rcases Nat.lt_or_ge d ts.length with h1 | h1
      · rwa [List.getElem?_append_left h1] at e
      · rw [List.getElem?_append_right h1] at e
        rcases Nat.eq_zero_or_pos (d - ts.length) with h2 | h2
        · rw [h2] at e; simp at e
        · rw [List.getElem?_eq_none (by simp; omega)] at e; cases e) }
theorem Cn.link {c o n x : Nat} (hc : Cn m m0 L h rest (some c) ts R K rk) (ho : ts[(m c).deg]? = some (some o)) (hnx : (n = o ∧ x = c ∧ (m o).pr < (m c).pr) ∨ (n = c ∧ x = o ∧ ¬ (m o).pr < (m c).pr)) :
    n ∈ R ∧ x ∈ R ∧ n ≠ x ∧ ∃ R' K' rk', Cn (lk m n x) m0 L h rest (some n) (ts.set (m c).deg none) R' K' rk' := by
  obtain ⟨o1, o2, o3, o4⟩ := hc.slots _ _ ho
  obtain ⟨c1, c2⟩ := hc.hand c rfl
  have hco : c ≠ o := fun e => o4 (by rw [e])
  have hn : n ∈ R ∧ n ∉ rest := by rcases hnx with ⟨rfl, _⟩ | ⟨rfl, _⟩ <;> exact ⟨by assumption, by assumption⟩
  have hx : x ∈ R ∧ x ∉ rest := by rcases hnx with ⟨_, rfl, _⟩ | ⟨_, rfl, _⟩ <;> exact ⟨by assumption, by assumption⟩
  have hne : n ≠ x := by
    rcases hnx with ⟨rfl, rfl, _⟩ | ⟨rfl, rfl, _⟩
    · exact hco.symm
    · exact hco
  have hle : (m n).pr ≤ (m x).pr := by rcases hnx with ⟨rfl, rfl, h1⟩ | ⟨rfl, rfl, h1⟩ <;> omega
  have hnc : (m n).pr ≤ (m c).pr := by rcases hnx with ⟨rfl, rfl, h1⟩ | ⟨rfl, rfl, h1⟩ <;> omega
  have hcx : c = n ∨ c = x := by rcases hnx with ⟨rfl, rfl, _⟩ | ⟨rfl, rfl, _⟩ <;> simp
  have hox : o = n ∨ o = x := by rcases hnx with ⟨rfl, rfl, _⟩ | ⟨rfl, rfl, _⟩ <;> simp
  refine ⟨hn.1, hx.1, hne, ?_⟩
  obtain ⟨K', rk', hw⟩ := hc.wf.linked hn.1 hx.1 hne hle
  have hRe : ∀ y, y ∈ R.erase x ↔ y ≠ x ∧ y ∈ R := fun y => hc.wf.rnd.mem_erase_iff
  have lpr : ∀ y, (lk m n x y).pr = (m y).pr := fun y => by simp [lk]
  have ldeg : ∀ y, (lk m n x y).deg = if y = n then (m n).deg + 1 else (m y).deg := fun y => by simp [lk]
  have lmk : ∀ y, (lk m n x y).mkd = true → (m y).mkd = true := fun y => by
    simp [lk]
  refine ⟨_, K', rk', ⟨hw, fun y => (lpr y).trans (hc.pr y), fun y e => hc.mkd y (lmk y e), hc.nd, fun y hy => (hRe y).2 ⟨fun e => hx.2 (e ▸ hy), hc.sub y hy⟩, ?_, ?_, ?_, ?_⟩⟩
  · intro d r e
    rw [List.getElem?_set] at e
    split at e
    · split at e <;> simp at e
    · rename_i hd
      obtain ⟨h1, h2, h3, h4⟩ := hc.slots d r e
      have hro : r ≠ o := by rintro rfl; omega
      have hrc : r ≠ c := fun e => h4 (by rw [e])
      have hrx : r ≠ x := by rcases hnx with ⟨_, rfl, _⟩ | ⟨_, rfl, _⟩ <;> assumption
      have hrn : r ≠ n := by rcases hnx with ⟨rfl, _⟩ | ⟨rfl, _⟩ <;> assumption
      exact ⟨(hRe r).2 ⟨hrx, h1⟩, h2, by rw [ldeg, if_neg hrn]; exact h3, fun e => hrn (Option.some.inj e).symm⟩
  · intro c' e
    cases e
    exact ⟨(hRe n).2 ⟨hne, hn.1⟩, hn.2⟩
  · rcases hc.min with h1 | ⟨c', h1, h2⟩
    · by_cases e : h = x
      · exact Or.inr ⟨n, rfl, by rw [lpr, lpr, e]; exact hle⟩
      · exact Or.inl ((hRe h).2 ⟨e, h1⟩)
    · cases h1
      exact Or.inr ⟨n, rfl, by rw [lpr, lpr]; omega⟩
  · intro r hr hrr hne'
    obtain ⟨h1, h2⟩ := (hRe r).1 hr
    rw [lpr, lpr]
    refine hc.low r h2 hrr (fun e => ?_)
    obtain rfl := Option.some.inj e
    rcases hcx with rfl | rfl
    · exact hne' rfl
    · exact h1 rfl
theorem Cn.place {c : Nat} (hc : Cn m m0 L h rest (some c) ts R K rk) (ho : (m c).deg < ts.length) : Cn m m0 L (if (m c).pr ≤ (m h).pr then c else h) rest none (ts.set (m c).deg (some c)) R K rk := by
  obtain ⟨c1, c2⟩ := hc.hand c rfl
  have hp : (m (if (m c).pr ≤ (m h).pr then c else h)).pr ≤ (m c).pr ∧ (m (if (m c).pr ≤ (m h).pr then c else h)).pr ≤ (m h).pr := by split <;> omega
  refine { hc with slots := ?_, hand := ?_, min := ?_, low := ?_ }
  · intro d r e
    rw [List.getElem?_set] at e
    split at e
    · rename_i hd
      simp at e; subst e; exact ⟨c1, c2, hd, by simp⟩
    · obtain ⟨h1, h2, h3, _⟩ := hc.slots d r e
      exact ⟨h1, h2, h3, by simp⟩
  · intro c' e; cases e
  · refine Or.inl ?_
    split
    · exact c1
    · rename_i hl
      rcases hc.min with h1 | ⟨c', h1, h2⟩
      · exact h1
      · cases h1; exact absurd h2 hl
  · intro r hr hrr _
    by_cases e : r = c
    · subst e; exact hp.1
    · have := hc.low r hr hrr (fun e' => e (Option.some.inj e').symm)
      omega
end

/-- A heap between its operations. -/
def HS (m : Mem) (hm : Option Nat) (L : List Nat) : Prop :=
  L.Nodup ∧ ∃ R K rk, Wf m R K L rk ∧ Rep m R hm ∧ ∀ x, hm = some x → ∀ b ∈ L, (m x).pr ≤ (m b).pr
theorem HS.nil (m : Mem) : HS m none [] := ⟨by simp, [], fun _ => [], fun _ => 0, ⟨by simp, by simp, by simp, by simp, by simp, by simp, trivial, by simp, by simp, by simp⟩, ⟨trivial, Or.inl ⟨rfl, rfl⟩⟩, by simp⟩
theorem HS.none {m : Mem} {L : List Nat} (h : HS m none L) : L = [] := by
  obtain ⟨_, R, K, rk, hw, ⟨_, ⟨rfl, _⟩ | ⟨x, e, _⟩⟩, _⟩ := h
  · cases L with
    | nil => rfl
    | cons a L =>
      have := hw.least (x := (m a).pr + 1) (by simp) a (by simp)
      omega
  · cases e
theorem HS.some {m : Mem} {L : List Nat} {hm : Option Nat} (h : HS m hm L) (hL : L ≠ []) : ∃ x, hm = Option.some x ∧ x ∈ L ∧ ∀ b ∈ L, (m x).pr ≤ (m b).pr := by
  cases hm with
  | none => exact absurd h.none hL
  | some x =>
    obtain ⟨_, R, K, rk, hw, ⟨_, ⟨rfl, e⟩ | ⟨y, e, hy⟩⟩, h1⟩ := h
    · cases e
    · cases e
      exact ⟨x, rfl, (hw.rL x hy).1, h1 x rfl⟩
theorem HS.end {m m0 : Mem} {L : List Nat} {h : Nat} {ts : List (Option Nat)} {R : List Nat} {K : Nat → List Nat} {rk : Nat → Nat} (hc : Cn m m0 L h [] Option.none ts R K rk) (hL : L.Nodup) : HS m (Option.some h) L := by
  have hR : h ∈ R := by
    rcases hc.min with h1 | ⟨_, h1, _⟩
    · exact h1
    · cases h1
  refine ⟨hL, R, K, rk, hc.wf, ⟨hc.wf.rring, Or.inr ⟨h, rfl, hR⟩⟩, fun x e => ?_⟩
  cases e
  exact hc.wf.least fun r hr => hc.low r hr (by simp) (by simp)
/-- A new node. -/
def nd0 (a : Nat) (p : Int) : Nd := ⟨0, false, a, a, Option.none, Option.none, p⟩
def enq (m : Mem) (hm : Option Nat) (a : Nat) (p : Int) : Mem := mgO (st m a (nd0 a p)) hm (Option.some a)
def enqH (m : Mem) (hm : Option Nat) (a : Nat) (p : Int) : Option Nat := mgOH (st m a (nd0 a p)) hm (Option.some a)
theorem st_same (m : Mem) (a : Nat) (d : Nd) : st m a d a = d := by simp [st]
theorem st_other (m : Mem) {a b : Nat} (d : Nd) (h : b ≠ a) : st m a d b = m b := by simp [st, h]
theorem mgOH_mem {m : Mem} {a : Nat} {hm : Option Nat} {x : Nat} (h : mgOH m hm (Option.some a) = Option.some x) : (∀ y, hm = Option.some y → (m x).pr ≤ (m y).pr) ∧ (m x).pr ≤ (m a).pr := by
  cases hm with
  | none => simp [mgOH] at h; subst h; simp
  | some y =>
    simp [mgOH, mgH] at h
    subst h
    refine ⟨fun z e => ?_, ?_⟩
    · cases e; split <;> omega
    · split <;> omega
theorem HS.enq {m : Mem} {hm : Option Nat} {L : List Nat} (h : HS m hm L) {a : Nat} (ha : a ∉ L) (p : Int) : HS (enq m hm a p) (enqH m hm a p) (a :: L) := by
  obtain ⟨hL, R, K, rk, hw, hR, hmin⟩ := h
  have so : ∀ y ∈ L, st m a (nd0 a p) y = m y := fun y hy => st_other m _ (fun e => ha (e ▸ hy))
  have hR1 : Rep (st m a (nd0 a p)) R hm := ⟨hR.1.congr (fun y hy => by rw [so y (hw.rL y hy).1]) (fun y hy => by rw [so y (hw.rL y hy).1]), hR.2⟩
  have hX : Rep (st m a (nd0 a p)) [a] (Option.some a) := ⟨⟨by rw [st_same]; rfl, by rw [st_same]; rfl, trivial⟩, Or.inr ⟨a, rfl, by simp⟩⟩
  have haR : a ∉ R := fun e => ha (hw.rL a e).1
  have hnd : (R ++ [a]).Nodup := List.nodup_append.2 ⟨hw.rnd, by simp, fun x hx y hy e => by simp at hy; subst hy; exact haR (e ▸ hx)⟩
  obtain ⟨U, hU, hRep, hout⟩ := mgO_rep hR1 hX hnd
  have hmem : ∀ y, y ∈ U ↔ y ∈ R ∨ y = a := fun y => by rw [hU.mem_iff, List.mem_append]; simp
  have hpa : ∀ y, (FH.enq m hm a p y).pa = (st m a (nd0 a p) y).pa := fun y => by simp [FH.enq]
  have hpr : ∀ y, (FH.enq m hm a p y).pr = (st m a (nd0 a p) y).pr := fun y => by simp [FH.enq]
  have hch : ∀ y, (FH.enq m hm a p y).ch = (st m a (nd0 a p) y).ch := fun y => by simp [FH.enq]
  have hdg : ∀ y, (FH.enq m hm a p y).deg = (st m a (nd0 a p) y).deg := fun y => by simp [FH.enq]
  refine ⟨List.nodup_cons.2 ⟨ha, hL⟩, U, fun b => if b = a then [] else K b, rk, ⟨hU.nodup_iff.2 hnd, ?_, ?_, ?_, ?_, ?_, hRep.1, ?_, ?_, ?_⟩, hRep, ?_⟩
  · intro b hb
    rw [hpa]
    rcases (hmem b).1 hb with hb | rfl
    · rw [so b (hw.rL b hb).1]; exact ⟨by simp [(hw.rL b hb).1], (hw.rL b hb).2⟩
    · rw [st_same]; exact ⟨by simp, rfl⟩
  · intro c hc b hb
    split at hb
    · simp at hb
    · rename_i hca
      have hc : c ∈ L := by simpa [hca] using hc
      obtain ⟨h5, h6, h7, h8⟩ := hw.kL c hc b hb
      rw [hpa, hpr, hpr, so b h5, so c hc]
      exact ⟨by simp [h5], h6, h7, h8⟩
  · intro c hc
    split
    · simp
    · rename_i hca
      exact hw.knd c (by simpa [hca] using hc)
  · intro b hb e
    rw [hpa] at e
    refine (hmem b).2 ?_
    simp at hb
    rcases hb with hb | hb
    · exact Or.inr hb
    · rw [so b hb] at e; exact Or.inl (hw.top b hb e)
  · intro b hb c e
    rw [hpa] at e
    simp at hb
    rcases hb with rfl | hb
    · rw [st_same] at e; cases e
    · rw [so b hb] at e
      obtain ⟨h5, h6⟩ := hw.sub b hb c e
      refine ⟨by simp [h5], ?_⟩
      rw [if_neg (by rintro rfl; exact ha h5)]
      exact h6
  · intro c hc
    split
    · trivial
    · rename_i hca
      have hc : c ∈ L := by simpa [hca] using hc
      have hyo : ∀ y ∈ K c, y ∈ L ∧ y ∉ R ∧ y ∉ [a] := fun y hy => ⟨(hw.kL c hc y hy).1, hw.root_kid hc hy, by simp; exact fun e => ha (e ▸ (hw.kL c hc y hy).1)⟩
      refine (hw.kring c hc).congr (fun y hy => ?_) (fun y hy => ?_)
      · obtain ⟨h5, h6, h7⟩ := hyo y hy
        exact ((hout y h6 h7).1).trans (by rw [so y h5])
      · obtain ⟨h5, h6, h7⟩ := hyo y hy
        exact ((hout y h6 h7).2).trans (by rw [so y h5])
  · intro c hc
    rw [hch]
    split
    · rename_i e; subst e; rw [st_same]; rfl
    · rename_i hca
      have hc : c ∈ L := by simpa [hca] using hc
      rw [so c hc]; exact hw.kch c hc
  · intro c hc
    rw [hdg]
    split
    · rename_i e; subst e; rw [st_same]; rfl
    · rename_i hca
      have hc : c ∈ L := by simpa [hca] using hc
      rw [so c hc]; exact hw.deg c hc
  · intro x e b hb
    obtain ⟨h1, h2⟩ := mgOH_mem e
    rw [hpr, hpr]
    simp at hb
    rcases hb with rfl | hb
    · exact h2
    · obtain ⟨y, hy, hyL, hy2⟩ := HS.some (hm := hm) ⟨hL, R, K, rk, hw, hR, hmin⟩ (List.ne_nil_of_mem hb)
      have h3 := h1 y hy
      rw [so y hyL] at h3
      rw [so b hb]
      have := hy2 b hb
      omega

/-- A node cut off its parent q and made the least. -/
def cutA (m : Mem) (n q : Nat) : Mem :=
  let m1 := sMkd m n false
  let m2 := out1 m1 n
  let m3 := if (m q).ch = Option.some n then sCh m2 q (out1H m n) else m2
  let m4 := sDeg m3 q ((m q).deg - 1)
  sNx (sPv m4 n n) n n
def cutM (m : Mem) (hm : Option Nat) (n q : Nat) : Mem := sPa (sMkd (mgO (cutA m n q) hm (Option.some n)) q true) n Option.none
theorem Wf.cut {m : Mem} {R : List Nat} {K : Nat → List Nat} {L : List Nat} {rk : Nat → Nat} {hm : Option Nat} (h : Wf m R K L rk) (hR : Rep m R hm) {n q : Nat} (hn : n ∈ L) (hq : (m n).pa = Option.some q) :
    ∃ U K', Wf (cutM m hm n q) U K' L rk ∧ U.Perm (R ++ [n]) := by
  obtain ⟨hqL, hnq⟩ := h.sub n hn q hq
  have hne : n ≠ q := by
    rintro rfl
    have := (h.kL n hn n hnq).2.2.2
    omega
  have hnR : n ∉ R := h.root_kid hqL hnq
  obtain ⟨m1, hm1⟩ : ∃ m1, m1 = sMkd m n false := ⟨_, rfl⟩
  have e1 : ∀ y, (m1 y).nx = (m y).nx ∧ (m1 y).pv = (m y).pv := fun y => by simp [hm1]
  obtain ⟨⟨h1, h1'⟩, h2⟩ := out1_rep (m := m1) (R := K q) ((h.kring q hqL).congr (fun y _ => (e1 y).1) (fun y _ => (e1 y).2)) hnq (h.knd q hqL)
  have e1H : out1H m1 n = out1H m n := by unfold out1H; rw [(e1 n).1]
  have hKe : ∀ y, y ∈ (K q).erase n ↔ y ≠ n ∧ y ∈ K q := fun y => (h.knd q hqL).mem_erase_iff
  obtain ⟨m4, hm4⟩ : ∃ m4, m4 = cutA m n q := ⟨_, rfl⟩
  have k4 : ∀ y, y ≠ n → (m4 y).nx = (out1 m1 n y).nx ∧ (m4 y).pv = (out1 m1 n y).pv := fun y hy => by
    rw [hm4, cutA, ← hm1]
    split <;> simp [hy]
  have k5 : (m4 n).nx = n ∧ (m4 n).pv = n := by rw [hm4, cutA]; simp
  have k6 : ∀ y, y ≠ n → y ∉ K q → (m4 y).nx = (m y).nx ∧ (m4 y).pv = (m y).pv := fun y hy hk => by
    rw [(k4 y hy).1, (k4 y hy).2, (h2 y hk).1, (h2 y hk).2]; exact e1 y
  have kpa : ∀ y, (m4 y).pa = (m y).pa := fun y => by rw [hm4, cutA]; split <;> simp
  have kpr : ∀ y, (m4 y).pr = (m y).pr := fun y => by rw [hm4, cutA]; split <;> simp
  have kdg : ∀ y, (m4 y).deg = if y = q then (m q).deg - 1 else (m y).deg := fun y => by rw [hm4, cutA]; split <;> simp
  have kch : ∀ y, (m4 y).ch = if y = q ∧ (m q).ch = Option.some n then out1H m n else (m y).ch := fun y => by
    rw [hm4, cutA]
    by_cases e : (m q).ch = Option.some n
    · rw [if_pos e]
      by_cases e' : y = q <;> simp [e, e']
    · rw [if_neg e]; simp [e]
  have hR4 : Rep m4 R hm := ⟨hR.1.congr (fun y hy => (k6 y (fun e => hnR (e ▸ hy)) (fun hk => h.root_kid hqL hk hy)).1) (fun y hy => (k6 y (fun e => hnR (e ▸ hy)) (fun hk => h.root_kid hqL hk hy)).2), hR.2⟩
  have hX : Rep m4 [n] (Option.some n) := ⟨⟨k5.1, k5.2, trivial⟩, Or.inr ⟨n, rfl, by simp⟩⟩
  have hnd : (R ++ [n]).Nodup := List.nodup_append.2 ⟨h.rnd, by simp, fun x hx y hy e => by simp at hy; subst hy; exact hnR (e ▸ hx)⟩
  obtain ⟨U, hU, hRep, hout⟩ := mgO_rep hR4 hX hnd
  have hmem : ∀ y, y ∈ U ↔ y ∈ R ∨ y = n := fun y => by rw [hU.mem_iff, List.mem_append]; simp
  have lnx : ∀ y, (cutM m hm n q y).nx = (mgO m4 hm (Option.some n) y).nx := fun y => by simp [cutM, ← hm4]
  have lpv : ∀ y, (cutM m hm n q y).pv = (mgO m4 hm (Option.some n) y).pv := fun y => by simp [cutM, ← hm4]
  have lpa : ∀ y, (cutM m hm n q y).pa = if y = n then Option.none else (m y).pa := fun y => by simp [cutM, ← hm4, kpa]
  have lpr : ∀ y, (cutM m hm n q y).pr = (m y).pr := fun y => by simp [cutM, ← hm4, kpr]
  have ldg : ∀ y, (cutM m hm n q y).deg = if y = q then (m q).deg - 1 else (m y).deg := fun y => by simp [cutM, ← hm4, kdg]
  have lch : ∀ y, (cutM m hm n q y).ch = if y = q ∧ (m q).ch = Option.some n then out1H m n else (m y).ch := fun y => by simp [cutM, ← hm4, kch]
  refine ⟨U, fun a => if a = q then (K q).erase n else K a, ⟨hU.nodup_iff.2 hnd, ?_, ?_, ?_, ?_, ?_, hRep.1.congr (fun y _ => lnx y) (fun y _ => lpv y), ?_, ?_, ?_⟩, hU⟩
  · intro b hb
    rw [lpa]
    rcases (hmem b).1 hb with hb | rfl
    · refine ⟨(h.rL b hb).1, ?_⟩
      split
      · rfl
      · exact (h.rL b hb).2
    · exact ⟨hn, by simp⟩
  · intro a ha b hb
    have hb' : b ≠ n ∧ b ∈ K a := by
      split at hb
      · rename_i e; subst e; exact (hKe b).1 hb
      · rename_i e
        refine ⟨?_, hb⟩
        rintro rfl
        exact e (h.kids_apart ha hqL hb hnq)
    rw [lpa, lpr, lpr, if_neg hb'.1]
    exact h.kL a ha b hb'.2
  · intro a ha
    split
    · exact (h.knd q hqL).erase n
    · exact h.knd a ha
  · intro b hb e
    rw [lpa] at e
    refine (hmem b).2 ?_
    split at e
    · rename_i e'; exact Or.inr e'
    · exact Or.inl (h.top b hb e)
  · intro b hb a e
    rw [lpa] at e
    split at e
    · cases e
    · rename_i hbn
      obtain ⟨h5, h6⟩ := h.sub b hb a e
      refine ⟨h5, ?_⟩
      split
      · rename_i e'; subst e'; exact (hKe b).2 ⟨hbn, h6⟩
      · exact h6
  · intro a ha
    have hay : ∀ y ∈ K a, y ≠ n → (mgO m4 hm (Option.some n) y).nx = (m4 y).nx ∧ (mgO m4 hm (Option.some n) y).pv = (m4 y).pv := fun y hy hyn => hout y (h.root_kid ha hy) (by simp; exact hyn)
    split
    · rename_i e
      subst e
      refine h1.congr (fun y hy => ?_) (fun y hy => ?_)
      · obtain ⟨h5, h6⟩ := (hKe y).1 hy
        rw [lnx, (hay y h6 h5).1, (k4 y h5).1]
      · obtain ⟨h5, h6⟩ := (hKe y).1 hy
        rw [lpv, (hay y h6 h5).2, (k4 y h5).2]
    · rename_i e
      have hy2 : ∀ y ∈ K a, y ≠ n ∧ y ∉ K q := fun y hy => ⟨fun e' => e (h.kids_apart ha hqL (e' ▸ hy) hnq), fun hk => e (h.kids_apart ha hqL hy hk)⟩
      refine (h.kring a ha).congr (fun y hy => ?_) (fun y hy => ?_)
      · obtain ⟨h5, h6⟩ := hy2 y hy
        rw [lnx, (hay y hy h5).1, (k6 y h5 h6).1]
      · obtain ⟨h5, h6⟩ := hy2 y hy
        rw [lpv, (hay y hy h5).2, (k6 y h5 h6).2]
  · intro a ha
    rw [lch]
    by_cases e : a = q
    · subst e
      rw [if_pos rfl]
      have hk := h.kch a ha
      by_cases e2 : (m a).ch = Option.some n
      · rw [if_pos ⟨rfl, e2⟩]
        rw [e2] at hk
        cases hK : K a with
        | nil => rw [hK] at hk; cases hk
        | cons x t =>
          rw [hK] at hk
          simp at hk
          subst hk
          simp
          have hr := h.kring a ha
          rw [hK] at hr
          have hh := hr.head
          unfold out1H
          cases t with
          | nil => simp at hh; rw [if_pos hh.symm]; rfl
          | cons y t =>
            simp at hh
            rw [if_neg, ← hh]; rfl
            have := h.knd a ha
            rw [hK] at this
            rw [← hh]
            rintro rfl
            simp at this
      · rw [if_neg (fun e => e2 e.2), hk]
        rw [hk] at e2
        cases hK : K a with
        | nil => rfl
        | cons x t =>
          rw [hK] at e2
          simp at e2
          rw [List.erase_cons_tail (by simpa using e2)]
          rfl
    · rw [if_neg (fun e' => e e'.1), if_neg e]
      exact h.kch a ha
  · intro a ha
    rw [ldg]
    split
    · rename_i e
      subst e
      rw [h.deg a ha, List.length_erase_of_mem hnq]
    · exact h.deg a ha
end FH
end Go.Proofs.Ytalphojbkeleiaa
