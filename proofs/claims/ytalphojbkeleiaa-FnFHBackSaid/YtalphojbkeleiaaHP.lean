/- A heap of trees whose siblings form rings: memory as a function from addresses to nodes; what single writes, merging two rings and taking a node out of its ring do. -/
namespace Go.Proofs.Ytalphojbkeleiaa
namespace FH

structure Nd where
  deg : Nat
  mkd : Bool
  nx : Nat
  pv : Nat
  ch : Option Nat
  pa : Option Nat
  pr : Int
abbrev Mem := Nat → Nd
def st (m : Mem) (a : Nat) (d : Nd) : Mem := fun b => if b = a then d else m b
def sDeg (m : Mem) (a : Nat) (v : Nat) : Mem := st m a { m a with deg := v }
def sMkd (m : Mem) (a : Nat) (v : Bool) : Mem := st m a { m a with mkd := v }
def sNx (m : Mem) (a : Nat) (v : Nat) : Mem := st m a { m a with nx := v }
def sPv (m : Mem) (a : Nat) (v : Nat) : Mem := st m a { m a with pv := v }
def sCh (m : Mem) (a : Nat) (v : Option Nat) : Mem := st m a { m a with ch := v }
def sPa (m : Mem) (a : Nat) (v : Option Nat) : Mem := st m a { m a with pa := v }
def sPr (m : Mem) (a : Nat) (v : Int) : Mem := st m a { m a with pr := v }
@[simp] theorem sDeg_deg (m : Mem) (a : Nat) (v : Nat) (b : Nat) : (sDeg m a v b).deg = if b = a then v else (m b).deg := by unfold sDeg st; by_cases h : b = a <;> simp [h]
@[simp] theorem sDeg_mk (m : Mem) (a : Nat) (v : Nat) (b : Nat) : (sDeg m a v b).mkd = (m b).mkd := by unfold sDeg st; by_cases h : b = a <;> simp [h]
@[simp] theorem sDeg_nx (m : Mem) (a : Nat) (v : Nat) (b : Nat) : (sDeg m a v b).nx = (m b).nx := by unfold sDeg st; by_cases h : b = a <;> simp [h]
@[simp] theorem sDeg_pv (m : Mem) (a : Nat) (v : Nat) (b : Nat) : (sDeg m a v b).pv = (m b).pv := by unfold sDeg st; by_cases h : b = a <;> simp [h]
@[simp] theorem sDeg_ch (m : Mem) (a : Nat) (v : Nat) (b : Nat) : (sDeg m a v b).ch = (m b).ch := by unfold sDeg st; by_cases h : b = a <;> simp [h]
@[simp] theorem sDeg_pa (m : Mem) (a : Nat) (v : Nat) (b : Nat) : (sDeg m a v b).pa = (m b).pa := by unfold sDeg st; by_cases h : b = a <;> simp [h]
@[simp] theorem sDeg_pr (m : Mem) (a : Nat) (v : Nat) (b : Nat) : (sDeg m a v b).pr = (m b).pr := by unfold sDeg st; by_cases h : b = a <;> simp [h]
@[simp] theorem sMkd_deg (m : Mem) (a : Nat) (v : Bool) (b : Nat) : (sMkd m a v b).deg = (m b).deg := by unfold sMkd st; by_cases h : b = a <;> simp [h]
@[simp] theorem sMkd_mk (m : Mem) (a : Nat) (v : Bool) (b : Nat) : (sMkd m a v b).mkd = if b = a then v else (m b).mkd := by unfold sMkd st; by_cases h : b = a <;> simp [h]
@[simp] theorem sMkd_nx (m : Mem) (a : Nat) (v : Bool) (b : Nat) : (sMkd m a v b).nx = (m b).nx := by unfold sMkd st; by_cases h : b = a <;> simp [h]
@[simp] theorem sMkd_pv (m : Mem) (a : Nat) (v : Bool) (b : Nat) : (sMkd m a v b).pv = (m b).pv := by unfold sMkd st; by_cases h : b = a <;> simp [h]
@[simp] theorem sMkd_ch (m : Mem) (a : Nat) (v : Bool) (b : Nat) : (sMkd m a v b).ch = (m b).ch := by unfold sMkd st; by_cases h : b = a <;> simp [h]
@[simp] theorem sMkd_pa (m : Mem) (a : Nat) (v : Bool) (b : Nat) : (sMkd m a v b).pa = (m b).pa := by unfold sMkd st; by_cases h : b = a <;> simp [h]
@[simp] theorem sMkd_pr (m : Mem) (a : Nat) (v : Bool) (b : Nat) : (sMkd m a v b).pr = (m b).pr := by unfold sMkd st; by_cases h : b = a <;> simp [h]
@[simp] theorem sNx_deg (m : Mem) (a : Nat) (v : Nat) (b : Nat) : (sNx m a v b).deg = (m b).deg := by unfold sNx st; by_cases h : b = a <;> simp [h]
@[simp] theorem sNx_mk (m : Mem) (a : Nat) (v : Nat) (b : Nat) : (sNx m a v b).mkd = (m b).mkd := by unfold sNx st; by_cases h : b = a <;> simp [h]
@[simp] theorem sNx_nx (m : Mem) (a : Nat) (v : Nat) (b : Nat) : (sNx m a v b).nx = if b = a then v else (m b).nx := by unfold sNx st; by_cases h : b = a <;> simp [h]
@[simp] theorem sNx_pv (m : Mem) (a : Nat) (v : Nat) (b : Nat) : (sNx m a v b).pv = (m b).pv := by unfold sNx st; by_cases h : b = a <;> simp [h]
@[simp] theorem sNx_ch (m : Mem) (a : Nat) (v : Nat) (b : Nat) : (sNx m a v b).ch = (m b).ch := by unfold sNx st; by_cases h : b = a <;> simp [h]
@[simp] theorem sNx_pa (m : Mem) (a : Nat) (v : Nat) (b : Nat) : (sNx m a v b).pa = (m b).pa := by unfold sNx st; by_cases h : b = a <;> simp [h]
@[simp] theorem sNx_pr (m : Mem) (a : Nat) (v : Nat) (b : Nat) : (sNx m a v b).pr = (m b).pr := by unfold sNx st; by_cases h : b = a <;> simp [h]
@[simp] theorem sPv_deg (m : Mem) (a : Nat) (v : Nat) (b : Nat) : (sPv m a v b).deg = (m b).deg := by unfold sPv st; by_cases h : b = a <;> simp [h]
@[simp] theorem sPv_mk (m : Mem) (a : Nat) (v : Nat) (b : Nat) : (sPv m a v b).mkd = (m b).mkd := by unfold sPv st; by_cases h : b = a <;> simp [h]
@[simp] theorem sPv_nx (m : Mem) (a : Nat) (v : Nat) (b : Nat) : (sPv m a v b).nx = (m b).nx := by unfold sPv st; by_cases h : b = a <;> simp [h]
@[simp] theorem sPv_pv (m : Mem) (a : Nat) (v : Nat) (b : Nat) : (sPv m a v b).pv = if b = a then v else (m b).pv := by unfold sPv st; by_cases h : b = a <;> simp [h]
@[simp] theorem sPv_ch (m : Mem) (a : Nat) (v : Nat) (b : Nat) : (sPv m a v b).ch = (m b).ch := by unfold sPv st; by_cases h : b = a <;> simp [h]
@[simp] theorem sPv_pa (m : Mem) (a : Nat) (v : Nat) (b : Nat) : (sPv m a v b).pa = (m b).pa := by unfold sPv st; by_cases h : b = a <;> simp [h]
@[simp] theorem sPv_pr (m : Mem) (a : Nat) (v : Nat) (b : Nat) : (sPv m a v b).pr = (m b).pr := by unfold sPv st; by_cases h : b = a <;> simp [h]
@[simp] theorem sCh_deg (m : Mem) (a : Nat) (v : Option Nat) (b : Nat) : (sCh m a v b).deg = (m b).deg := by unfold sCh st; by_cases h : b = a <;> simp [h]
@[simp] theorem sCh_mk (m : Mem) (a : Nat) (v : Option Nat) (b : Nat) : (sCh m a v b).mkd = (m b).mkd := by unfold sCh st; by_cases h : b = a <;> simp [h]
@[simp] theorem sCh_nx (m : Mem) (a : Nat) (v : Option Nat) (b : Nat) : (sCh m a v b).nx = (m b).nx := by unfold sCh st; by_cases h : b = a <;> simp [h]
@[simp] theorem sCh_pv (m : Mem) (a : Nat) (v : Option Nat) (b : Nat) : (sCh m a v b).pv = (m b).pv := by unfold sCh st; by_cases h : b = a <;> simp [h]
@[simp] theorem sCh_ch (m : Mem) (a : Nat) (v : Option Nat) (b : Nat) : (sCh m a v b).ch = if b = a then v else (m b).ch := by unfold sCh st; by_cases h : b = a <;> simp [h]
@[simp] theorem sCh_pa (m : Mem) (a : Nat) (v : Option Nat) (b : Nat) : (sCh m a v b).pa = (m b).pa := by unfold sCh st; by_cases h : b = a <;> simp [h]
@[simp] theorem sCh_pr (m : Mem) (a : Nat) (v : Option Nat) (b : Nat) : (sCh m a v b).pr = (m b).pr := by unfold sCh st; by_cases h : b = a <;> simp [h]
@[simp] theorem sPa_deg (m : Mem) (a : Nat) (v : Option Nat) (b : Nat) : (sPa m a v b).deg = (m b).deg := by unfold sPa st; by_cases h : b = a <;> simp [h]
@[simp] theorem sPa_mk (m : Mem) (a : Nat) (v : Option Nat) (b : Nat) : (sPa m a v b).mkd = (m b).mkd := by unfold sPa st; by_cases h : b = a <;> simp [h]
@[simp] theorem sPa_nx (m : Mem) (a : Nat) (v : Option Nat) (b : Nat) : (sPa m a v b).nx = (m b).nx := by unfold sPa st; by_cases h : b = a <;> simp [h]
@[simp] theorem sPa_pv (m : Mem) (a : Nat) (v : Option Nat) (b : Nat) : (sPa m a v b).pv = (m b).pv := by unfold sPa st; by_cases h : b = a <;> simp [h]
@[simp] theorem sPa_ch (m : Mem) (a : Nat) (v : Option Nat) (b : Nat) : (sPa m a v b).ch = (m b).ch := by unfold sPa st; by_cases h : b = a <;> simp [h]
@[simp] theorem sPa_pa (m : Mem) (a : Nat) (v : Option Nat) (b : Nat) : (sPa m a v b).pa = if b = a then v else (m b).pa := by unfold sPa st; by_cases h : b = a <;> simp [h]
@[simp] theorem sPa_pr (m : Mem) (a : Nat) (v : Option Nat) (b : Nat) : (sPa m a v b).pr = (m b).pr := by unfold sPa st; by_cases h : b = a <;> simp [h]
@[simp] theorem sPr_deg (m : Mem) (a : Nat) (v : Int) (b : Nat) : (sPr m a v b).deg = (m b).deg := by unfold sPr st; by_cases h : b = a <;> simp [h]
@[simp] theorem sPr_mk (m : Mem) (a : Nat) (v : Int) (b : Nat) : (sPr m a v b).mkd = (m b).mkd := by unfold sPr st; by_cases h : b = a <;> simp [h]
@[simp] theorem sPr_nx (m : Mem) (a : Nat) (v : Int) (b : Nat) : (sPr m a v b).nx = (m b).nx := by unfold sPr st; by_cases h : b = a <;> simp [h]
@[simp] theorem sPr_pv (m : Mem) (a : Nat) (v : Int) (b : Nat) : (sPr m a v b).pv = (m b).pv := by unfold sPr st; by_cases h : b = a <;> simp [h]
@[simp] theorem sPr_ch (m : Mem) (a : Nat) (v : Int) (b : Nat) : (sPr m a v b).ch = (m b).ch := by unfold sPr st; by_cases h : b = a <;> simp [h]
@[simp] theorem sPr_pa (m : Mem) (a : Nat) (v : Int) (b : Nat) : (sPr m a v b).pa = (m b).pa := by unfold sPr st; by_cases h : b = a <;> simp [h]
@[simp] theorem sPr_pr (m : Mem) (a : Nat) (v : Int) (b : Nat) : (sPr m a v b).pr = if b = a then v else (m b).pr := by unfold sPr st; by_cases h : b = a <;> simp [h]
/-- A chain of nodes, each linked to the next one. -/
def Ch (m : Mem) : List Nat → Prop
  | [] => True
  | [_] => True
  | a :: b :: t => (m a).nx = b ∧ (m b).pv = a ∧ Ch m (b :: t)
/-- A ring. -/
def Rg (m : Mem) : List Nat → Prop
  | [] => True
  | a :: t => Ch m (a :: t ++ [a])
theorem Ch.congr {m m' : Mem} : ∀ {l : List Nat}, Ch m l → (∀ x ∈ l.dropLast, (m' x).nx = (m x).nx) → (∀ x ∈ l.tail, (m' x).pv = (m x).pv) → Ch m' l
  | [], _, _, _ => trivial
  | [_], _, _, _ => trivial
  | a :: b :: t, h, h1, h2 => by
    refine ⟨by rw [h1 a (by simp)]; exact h.1, by rw [h2 b (by simp)]; exact h.2.1, Ch.congr h.2.2 (fun x hx => h1 x (by simp only [List.dropLast_cons_cons]; exact List.mem_cons_of_mem _ hx)) (fun x hx => h2 x (by simp only [List.tail_cons] at hx ⊢; exact List.mem_cons_of_mem _ hx))⟩
theorem Ch.app {m : Mem} {x : Nat} {q : List Nat} : ∀ {p : List Nat}, Ch m (p ++ x :: q) ↔ Ch m (p ++ [x]) ∧ Ch m (x :: q)
  | [] => by simp [Ch]
  | [a] => by
    cases q with
    | nil => simp [Ch]
    | cons y q => simp [Ch, and_assoc]
  | a :: b :: p => by
    have h := Ch.app (m := m) (x := x) (q := q) (p := b :: p)
    simp only [List.cons_append, Ch] at h ⊢
    rw [h]
    constructor
    · rintro ⟨h1, h2, h3, h4⟩; exact ⟨⟨h1, h2, h3⟩, h4⟩
    · rintro ⟨⟨h1, h2, h3⟩, h4⟩; exact ⟨h1, h2, h3, h4⟩
theorem Rg.congr {m m' : Mem} {l : List Nat} (h : Rg m l) (h1 : ∀ x ∈ l, (m' x).nx = (m x).nx) (h2 : ∀ x ∈ l, (m' x).pv = (m x).pv) : Rg m' l := by
  cases l with
  | nil => trivial
  | cons a t =>
    refine Ch.congr h (fun x hx => h1 x ?_) (fun x hx => h2 x ?_)
    · rw [List.dropLast_concat] at hx; exact hx
    · simp at hx ⊢; rcases hx with h | h <;> simp [h]
theorem Rg.rot {m : Mem} {p q : List Nat} {x : Nat} (h : Rg m (p ++ x :: q)) : Rg m (x :: q ++ p) := by
  cases p with
  | nil => simpa using h
  | cons a p =>
    have h : Ch m (a :: p ++ x :: (q ++ [a])) := by have h' : Ch m (a :: (p ++ x :: q) ++ [a]) := h; simpa using h'
    obtain ⟨h1, h2⟩ := Ch.app.1 h
    show Ch m (x :: (q ++ a :: p) ++ [x])
    have e : x :: (q ++ a :: p) ++ [x] = (x :: q) ++ a :: (p ++ [x]) := by simp
    rw [e]
    exact Ch.app.2 ⟨by simpa using h2, by simpa using h1⟩
/-- A ring seen from any of its nodes. -/
theorem Rg.from {m : Mem} {l : List Nat} {x : Nat} (h : Rg m l) (hx : x ∈ l) : ∃ t, (x :: t).Perm l ∧ Rg m (x :: t) := by
  obtain ⟨p, q, rfl⟩ := List.append_of_mem hx
  exact ⟨q ++ p, by have := List.perm_append_comm (l₁ := x :: q) (l₂ := p); simpa using this, by simpa using h.rot⟩
theorem Rg.head {m : Mem} {a : Nat} {t : List Nat} (h : Rg m (a :: t)) : (t ++ [a]).head? = some (m a).nx := by
  cases t with
  | nil => have h : (m a).nx = a ∧ _ := h; simp [h.1]
  | cons b t => have h : (m a).nx = b ∧ _ := h; simp [h.1]
theorem Rg.next_mem {m : Mem} {l : List Nat} {x : Nat} (h : Rg m l) (hx : x ∈ l) : (m x).nx ∈ l := by
  obtain ⟨t, hp, ht⟩ := h.from hx
  have h1 := ht.head
  refine hp.subset ?_
  have := List.mem_of_mem_head? (Option.mem_def.2 h1)
  simp at this ⊢
  rcases this with h | h <;> simp [h]
theorem Ch.last {m : Mem} {p : List Nat} {e x : Nat} (h : Ch m (p ++ [e, x])) : (m e).nx = x ∧ (m x).pv = e := by
  have := (Ch.app.1 h).2
  exact ⟨this.1, this.2.1⟩
theorem Rg.prev_mem {m : Mem} {l : List Nat} {x : Nat} (h : Rg m l) (hx : x ∈ l) : (m x).pv ∈ l := by
  obtain ⟨t, hp, ht⟩ := h.from hx
  refine hp.subset ?_
  rcases List.eq_nil_or_concat t with rfl | ⟨u, e, rfl⟩
  · have h : (m x).nx = x ∧ (m x).pv = x ∧ _ := ht; simp [h.2.1]
  · have h : Ch m ((x :: u) ++ [e, x]) := by have h' : Ch m (x :: u.concat e ++ [x]) := ht; simpa using h'
    rw [(Ch.last h).2]; simp
theorem Rg.single {m : Mem} {l : List Nat} {x : Nat} (h : Rg m l) (hx : x ∈ l) (hn : l.Nodup) : (m x).nx = x ↔ l = [x] := by
  obtain ⟨t, hp, ht⟩ := h.from hx
  have hn' := hp.nodup_iff.2 hn
  have h1 := ht.head
  constructor
  · intro e
    cases t with
    | nil => exact List.perm_singleton.1 hp.symm
    | cons b t => simp [e] at h1; subst h1; simp at hn'
  · rintro rfl
    have := List.perm_singleton.1 hp
    simp at this
    subst this
    simpa using h1.symm
theorem Rg.single' {m : Mem} {l : List Nat} {x : Nat} (h : Rg m l) (hx : x ∈ l) (hn : l.Nodup) (h1 : (m x).nx ≠ x) : (m x).pv ≠ x := by
  intro e
  obtain ⟨t, hp, ht⟩ := h.from hx
  have hn' := hp.nodup_iff.2 hn
  rcases List.eq_nil_or_concat t with rfl | ⟨u, y, rfl⟩
  · have h : (m x).nx = x ∧ _ := ht; exact h1 h.1
  · have h : Ch m ((x :: u) ++ [y, x]) := by have h' : Ch m (x :: u.concat y ++ [x]) := ht; simpa using h'
    have h2 := (Ch.last h).2
    rw [e] at h2
    subst h2
    simp at hn'

/-- Two rings made one. -/
def mg (m : Mem) (a b : Nat) : Mem := sPv (sNx (sPv (sNx m a (m b).nx) (m b).nx a) b (m a).nx) (m a).nx b
def mgH (m : Mem) (a b : Nat) : Nat := if (m a).pr < (m b).pr then a else b
theorem mg_nx (m : Mem) (a b x : Nat) : (mg m a b x).nx = if x = b then (m a).nx else if x = a then (m b).nx else (m x).nx := by simp [mg]
theorem mg_pv (m : Mem) (a b x : Nat) : (mg m a b x).pv = if x = (m a).nx then b else if x = (m b).nx then a else (m x).pv := by simp [mg]
@[simp] theorem mg_deg (m : Mem) (a b x : Nat) : (mg m a b x).deg = (m x).deg := by simp [mg]
@[simp] theorem mg_mkd (m : Mem) (a b x : Nat) : (mg m a b x).mkd = (m x).mkd := by simp [mg]
@[simp] theorem mg_ch (m : Mem) (a b x : Nat) : (mg m a b x).ch = (m x).ch := by simp [mg]
@[simp] theorem mg_pa (m : Mem) (a b x : Nat) : (mg m a b x).pa = (m x).pa := by simp [mg]
@[simp] theorem mg_pr (m : Mem) (a b x : Nat) : (mg m a b x).pr = (m x).pr := by simp [mg]
theorem mg_half {m m' : Mem} {a b : Nat} {t : List Nat} (h : Rg m (b :: t)) (hn : (b :: t).Nodup) (ha : a ∉ b :: t) (h1 : (m' a).nx = (m b).nx) (h2 : (m' (m b).nx).pv = a)
    (h3 : ∀ x ∈ t, (m' x).nx = (m x).nx) (h4 : ∀ x ∈ b :: t, x ≠ (m b).nx → (m' x).pv = (m x).pv) : Ch m' (a :: t ++ [b]) := by
  cases t with
  | nil =>
    have h : (m b).nx = b ∧ (m b).pv = b ∧ _ := h
    rw [h.1] at h1 h2
    exact ⟨h1, h2, trivial⟩
  | cons c t =>
    have h : (m b).nx = c ∧ (m c).pv = b ∧ Ch m (c :: t ++ [b]) := h
    rw [h.1] at h1 h2 h4
    refine ⟨h1, h2, Ch.congr h.2.2 (fun x hx => h3 x ?_) (fun x hx => h4 x ?_ ?_)⟩
    · have hx : x ∈ (c :: t ++ [b]).dropLast := hx
      rw [List.dropLast_concat] at hx; exact hx
    · simp at hx ⊢; rcases hx with h | h <;> simp [h]
    · simp at hx hn
      rintro rfl
      rcases hx with h | h
      · exact hn.2.1 h
      · exact hn.1.1 h.symm
theorem mg_ring {m : Mem} {a b : Nat} {s t : List Nat} (h1 : Rg m (a :: s)) (h2 : Rg m (b :: t)) (hn : (a :: s ++ b :: t).Nodup) : Rg (mg m a b) (a :: t ++ b :: s) := by
  have hn1 := (List.nodup_append.1 hn).1
  have hn2 := (List.nodup_append.1 hn).2.1
  have hd : ∀ x ∈ a :: s, ∀ y ∈ b :: t, x ≠ y := (List.nodup_append.1 hn).2.2
  have ea : (m a).nx ∈ a :: s := h1.next_mem (by simp)
  have eb : (m b).nx ∈ b :: t := h2.next_mem (by simp)
  have hab : a ≠ b := hd a (by simp) b (by simp)
  show Ch (mg m a b) (a :: (t ++ b :: s) ++ [a])
  have e : a :: (t ++ b :: s) ++ [a] = (a :: t) ++ b :: (s ++ [a]) := by simp
  rw [e]
  refine Ch.app.2 ⟨mg_half h2 hn2 (fun h => hd a (by simp) a h rfl) ?_ ?_ ?_ ?_, mg_half h1 hn1 (fun h => hd b h b (by simp) rfl) ?_ ?_ ?_ ?_⟩
  · rw [mg_nx, if_neg hab, if_pos rfl]
  · rw [mg_pv, if_neg (fun e => hd _ ea _ eb e.symm), if_pos rfl]
  · intro x hx
    rw [mg_nx, if_neg, if_neg]
    · rintro rfl; exact hd x (by simp) x (by simp [hx]) rfl
    · rintro rfl; simp at hn2; exact hn2.1 hx
  · intro x hx hne
    rw [mg_pv, if_neg (fun e => hd _ ea _ hx e.symm), if_neg hne]
  · rw [mg_nx, if_pos rfl]
  · rw [mg_pv, if_pos rfl]
  · intro x hx
    rw [mg_nx, if_neg, if_neg]
    · rintro rfl; simp at hn1; exact hn1.1 hx
    · rintro rfl; exact hd x (by simp [hx]) x (by simp) rfl
  · intro x hx hne
    rw [mg_pv, if_neg hne, if_neg (fun e => hd _ hx _ eb e)]

/-- A node taken out of its ring. -/
def dl (m : Mem) (x : Nat) : Mem := sNx (sPv m (m x).nx (m x).pv) (m x).pv (m x).nx
theorem dl_nx (m : Mem) (x y : Nat) : (dl m x y).nx = if y = (m x).pv then (m x).nx else (m y).nx := by simp [dl]
theorem dl_pv (m : Mem) (x y : Nat) : (dl m x y).pv = if y = (m x).nx then (m x).pv else (m y).pv := by simp [dl]
@[simp] theorem dl_deg (m : Mem) (a x : Nat) : (dl m a x).deg = (m x).deg := by simp [dl]
@[simp] theorem dl_mkd (m : Mem) (a x : Nat) : (dl m a x).mkd = (m x).mkd := by simp [dl]
@[simp] theorem dl_ch (m : Mem) (a x : Nat) : (dl m a x).ch = (m x).ch := by simp [dl]
@[simp] theorem dl_pa (m : Mem) (a x : Nat) : (dl m a x).pa = (m x).pa := by simp [dl]
@[simp] theorem dl_pr (m : Mem) (a x : Nat) : (dl m a x).pr = (m x).pr := by simp [dl]
theorem dl_ring {m : Mem} {x : Nat} {t : List Nat} (h : Rg m (x :: t)) (hn : (x :: t).Nodup) : Rg (dl m x) t := by
  cases t with
  | nil => trivial
  | cons c s =>
    have h0 : (m x).nx = c ∧ (m c).pv = x ∧ Ch m (c :: s ++ [x]) := h
    obtain ⟨u, e, he⟩ : ∃ u e, c :: s = u ++ [e] := by
      rcases List.eq_nil_or_concat (c :: s) with h | ⟨u, e, h⟩
      · cases h
      · exact ⟨u, e, by simpa using h⟩
    have h1 : Ch m (u ++ [e, x]) := by have := h0.2.2; rw [he] at this; simpa using this
    have h2 := Ch.last h1
    have h3 : Ch m (u ++ [e]) := (Ch.app.1 (show Ch m (u ++ e :: [x]) from h1)).1
    show Ch (dl m x) (c :: s ++ [c])
    rw [he]
    have e4 : u ++ [e] ++ [c] = u ++ e :: [c] := by simp
    rw [e4]
    refine Ch.app.2 ⟨Ch.congr h3 (fun y hy => ?_) (fun y hy => ?_), ?_, ?_, trivial⟩
    · rw [List.dropLast_concat] at hy
      rw [dl_nx, if_neg]
      rw [h2.2]
      rintro rfl
      have hn' := (List.nodup_cons.1 hn).2
      rw [he] at hn'
      have := (List.nodup_append.1 hn').2.2 y hy y (by simp)
      exact this rfl
    · rw [← he] at hy
      simp at hy
      rw [dl_pv, if_neg]
      rw [h0.1]
      rintro rfl
      simp at hn
      exact hn.2.1 hy
    · rw [dl_nx, h2.2, if_pos rfl, h0.1]
    · rw [dl_pv, h0.1, if_pos rfl, h2.2]
theorem dl_out {m : Mem} {x : Nat} {l : List Nat} (h : Rg m l) (hm : x ∈ l) {y : Nat} (hy : y ∉ l) : (dl m x y).nx = (m y).nx ∧ (dl m x y).pv = (m y).pv := by
  rw [dl_nx, dl_pv, if_neg, if_neg]
  · exact ⟨rfl, rfl⟩
  · rintro rfl; exact hy (h.next_mem hm)
  · rintro rfl; exact hy (h.prev_mem hm)
end FH
end Go.Proofs.Ytalphojbkeleiaa
