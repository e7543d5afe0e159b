/- FnSTCount answers true for every two lists. -/
import Derived.Test.YtjijgkjmndpngaaS7
import Derived.Test.YtjijgkjmndpngaaLawKit
namespace Go.Proofs.Ytjijgkjmndpngaa.LSTCount
open Go.RowKit Go.ChangeShapes Go.WideShapes Go.ChangeAt

theorem told_short {w w' : World} {e : Ending} {L : List (Int × Value)} {all : List (Int × Value) → Bool} {n : Nat} {b : Bool} (h : Told w e w' L all) (hL : (mkeys L).Nodup) (hn : L.length = n) (hb : all L = b) :
    ∃ (sf : Option Addr) (cf : Nat) (sx : Option Addr) (nx cx : Nat), e = .returned (.tuple #[.agg #[.int .i64 (n : Nat), .slice sf n cf, .bool b, .slice sx nx cx], .bool true]) ∧ Below w.heap.size w w' := by
  obtain ⟨sf, cf, sx, nx, cx, ks, he, _, h1, h2, h3⟩ := h
  have h4 := same_len h1 hL h2
  rw [keys_len] at h4
  rw [h4, hn, hb] at he
  exact ⟨sf, cf, sx, nx, cx, he, h3⟩
theorem said_add {w : World} {sl it : Value} {xs ys : List Int} {sb : Nat} {n : Nat} {b : Bool} (h1 : Ints w sl xs) (h2 : Ints w it ys) (hl1 : xs.length ≤ 100) (hl2 : ys.length ≤ 100) (hB : Blk w sb #[.int .i64 1, it] 32)
    (hn : (insL (insL [] xs) ys).length = n) (hb : (ys.all fun y => decide (y ∈ mkeys (insL (insL [] xs) ys))) = b) :
    Calls Try.prog 6 #[sl, .slice (some ⟨sb, 0, none⟩) 1 1] w fun e w' => ∃ (sf : Option Addr) (cf : Nat) (sx : Option Addr) (nx cx : Nat), e = .returned (.tuple #[.agg #[.int .i64 (n : Nat), .slice sf n cf, .bool b, .slice sx nx cx], .bool true]) ∧ Below w.heap.size w w' := by
  obtain ⟨so, cp, hs⟩ := h1.shape
  refine (said_any (fun W' hW => run_add (h1.same hW) (h2.same hW) hl1 hl2 ((hB.below hW hB.lt).cell rfl) ((hB.below hW hB.lt).cell rfl)) ⟨_, _, _, hs⟩ ?_).mono fun e w' h => told_short h (nodup_insL (nodup_insL (by simp [mkeys]))) hn hb
  have := insL_le (insL [] xs) ys
  have := insL_le [] xs
  simp at this
  omega
theorem said_rem {w : World} {sl it : Value} {xs ys : List Int} {sb : Nat} {n : Nat} (h1 : Ints w sl xs) (h2 : Ints w it ys) (hl1 : xs.length ≤ 100) (hl2 : ys.length ≤ 100) (hB : Blk w sb #[.int .i64 2, it] 32)
    (hn : (remL (insL [] xs) ys).length = n) :
    Calls Try.prog 6 #[sl, .slice (some ⟨sb, 0, none⟩) 1 1] w fun e w' => ∃ (sf : Option Addr) (cf : Nat) (sx : Option Addr) (nx cx : Nat) (b : Bool), e = .returned (.tuple #[.agg #[.int .i64 (n : Nat), .slice sf n cf, .bool b, .slice sx nx cx], .bool true]) ∧ Below w.heap.size w w' := by
  obtain ⟨so, cp, hs⟩ := h1.shape
  refine (said_any (fun W' hW => run_rem (h1.same hW) (h2.same hW) hl1 hl2 ((hB.below hW hB.lt).cell rfl) ((hB.below hW hB.lt).cell rfl)) ⟨_, _, _, hs⟩ ?_).mono fun e w' h => ?_
  · have := remL_le (insL [] xs) ys
    have := insL_le [] xs
    simp at this
    omega
  · obtain ⟨sf, cf, sx, nx, cx, h1, h2⟩ := told_short h (nodup_remL (nodup_insL (by simp [mkeys]))) hn rfl
    exact ⟨sf, cf, sx, nx, cx, _, h1, h2⟩

set_option maxRecDepth 100000 in
set_option maxHeartbeats 2000000 in
theorem trivial {w : World} {so so' : Option Addr} {n n' cp cp' : Nat} (h : ¬(0 < n ∧ n ≤ 20 ∧ 0 < n' ∧ n' ≤ 20)) :
    Calls Try.prog 3 #[.slice so n cp, .slice so' n' cp'] w fun e w' => e = .returned (.bool true) ∧ Below w.heap.size w w' := by
  by_cases h1 : 2147483647 < n
  · clear h
    have g0 : decide ((2147483647 : Int) < (n : Int)) = true := by simp; omega
    go_enter Try.func3, Try.ntmps3
    go_wp2_with fail
    go_ret
    exact ⟨rfl, Below.refl _ _⟩
  by_cases h2 : 2147483647 < n'
  · clear h
    have g0 : decide ((2147483647 : Int) < (n : Int)) = false := by simp; omega
    have g1 : decide ((2147483647 : Int) < (n' : Int)) = true := by simp; omega
    go_enter Try.func3, Try.ntmps3
    go_wp2_with fail
    go_ret
    exact ⟨rfl, Below.refl _ _⟩
  by_cases h3 : 0 < n ∧ n ≤ 30
  · by_cases h4 : 0 < n' ∧ n' ≤ 30
    · by_cases h5 : 20 < n
      · clear h
        have g0 : decide ((2147483647 : Int) < (n : Int)) = false := by simp; omega
        have g1 : decide ((2147483647 : Int) < (n' : Int)) = false := by simp; omega
        have g2 : decide ((20 : Int) < (n : Int)) = true := by simp; omega
        go_enter Try.func3, Try.ntmps3
        go_wp2_with fail
        refine (few_any _ _ _ _).mono ?_
        rintro e w' ⟨rfl, rfl⟩
        rw [(show (decide (0 < n) && decide (n ≤ 30)) = true by simp; omega)]
        go_wp2_with fail
        refine (few_any _ _ _ _).mono ?_
        rintro e w' ⟨rfl, rfl⟩
        rw [(show (decide (0 < n') && decide (n' ≤ 30)) = true by simp; omega)]
        go_wp2_with fail
        go_ret
        exact ⟨rfl, Below.refl _ _⟩
      · have h6 : 20 < n' := by omega
        clear h
        have g0 : decide ((2147483647 : Int) < (n : Int)) = false := by simp; omega
        have g1 : decide ((2147483647 : Int) < (n' : Int)) = false := by simp; omega
        have g2 : decide ((20 : Int) < (n : Int)) = false := by simp; omega
        have g3 : decide ((20 : Int) < (n' : Int)) = true := by simp; omega
        go_enter Try.func3, Try.ntmps3
        go_wp2_with fail
        refine (few_any _ _ _ _).mono ?_
        rintro e w' ⟨rfl, rfl⟩
        rw [(show (decide (0 < n) && decide (n ≤ 30)) = true by simp; omega)]
        go_wp2_with fail
        refine (few_any _ _ _ _).mono ?_
        rintro e w' ⟨rfl, rfl⟩
        rw [(show (decide (0 < n') && decide (n' ≤ 30)) = true by simp; omega)]
        go_wp2_with fail
        go_ret
        exact ⟨rfl, Below.refl _ _⟩
    · clear h
      have g0 : decide ((2147483647 : Int) < (n : Int)) = false := by simp; omega
      have g1 : decide ((2147483647 : Int) < (n' : Int)) = false := by simp; omega
      go_enter Try.func3, Try.ntmps3
      go_wp2_with fail
      refine (few_any _ _ _ _).mono ?_
      rintro e w' ⟨rfl, rfl⟩
      rw [(show (decide (0 < n) && decide (n ≤ 30)) = true by simp; omega)]
      go_wp2_with fail
      refine (few_any _ _ _ _).mono ?_
      rintro e w' ⟨rfl, rfl⟩
      rw [(show (decide (0 < n') && decide (n' ≤ 30)) = false by simp; omega)]
      go_wp2_with fail
      go_ret
      exact ⟨rfl, Below.refl _ _⟩
  · clear h
    have g0 : decide ((2147483647 : Int) < (n : Int)) = false := by simp; omega
    have g1 : decide ((2147483647 : Int) < (n' : Int)) = false := by simp; omega
    go_enter Try.func3, Try.ntmps3
    go_wp2_with fail
    refine (few_any _ _ _ _).mono ?_
    rintro e w' ⟨rfl, rfl⟩
    rw [(show (decide (0 < n) && decide (n ≤ 30)) = false by simp; omega)]
    go_wp2_with fail
    go_ret
    exact ⟨rfl, Below.refl _ _⟩


set_option maxRecDepth 100000 in
set_option maxHeartbeats 2000000 in
theorem walk {w : World} {so so' : Option Addr} {n n' cp cp' : Nat} {xs ys : List Int} (hxl : xs.length = n) (hyl : ys.length = n') (hx : 0 < n → I16s w (.slice so n cp) xs) (hy : 0 < n' → I16s w (.slice so' n' cp') ys) (hxb : ∀ x ∈ xs, -32768 ≤ x ∧ x ≤ 32767) (hyb : ∀ x ∈ ys, -32768 ≤ x ∧ x ≤ 32767) :
    Calls Try.prog 3 #[.slice so n cp, .slice so' n' cp'] w fun e w' => e = .returned (.bool true) ∧ Below w.heap.size w w' := by
  by_cases h : 0 < n ∧ n ≤ 20 ∧ 0 < n' ∧ n' ≤ 20
  · obtain ⟨n0, n20, m0, m20⟩ := h
    have H0 : Hid (I16s w (.slice so n cp) xs ∧ I16s w (.slice so' n' cp') ys ∧ (∀ x ∈ xs, -32768 ≤ x ∧ x ≤ 32767) ∧ (∀ x ∈ ys, -32768 ≤ x ∧ x ≤ 32767) ∧ xs.length = n ∧ ys.length = n') := ⟨hx n0, hy m0, hxb, hyb, hxl, hyl⟩
    clear hx hy hxb hyb hxl hyl
    have g0 : decide ((2147483647 : Int) < (n : Int)) = false := by simp; omega
    have g1 : decide ((2147483647 : Int) < (n' : Int)) = false := by simp; omega
    have g2 : decide ((20 : Int) < (n : Int)) = false := by simp; omega
    have g3 : decide ((20 : Int) < (n' : Int)) = false := by simp; omega
    go_enter Try.func3, Try.ntmps3
    go_wp2_with fail
    refine (few_any _ _ _ _).mono ?_
    rintro e w' ⟨rfl, rfl⟩
    rw [(show (decide (0 < n) && decide (n ≤ 30)) = true by simp; omega)]
    go_wp2_with fail
    refine (few_any _ _ _ _).mono ?_
    rintro e w' ⟨rfl, rfl⟩
    rw [(show (decide (0 < n') && decide (n' ≤ 30)) = true by simp; omega)]
    go_wp2_with fail
    refine (ints_any H0.out.1 (by have := H0.out.2.2.2.2.1; omega) H0.out.2.2.1).mono ?_
    rintro e w1 ⟨v1, rfl, hv, _, hb⟩
    have H1 : Hid (Ints w1 v1 xs ∧ I16s w1 (.slice so' n' cp') ys ∧ Below w.heap.size w w1) := ⟨hv, H0.out.2.1.same hb, hb⟩
    clear hv hb
    go_wp2_with fail
    refine (ints_any H1.out.2.1 (by have := H0.out.2.2.2.2.2; omega) H0.out.2.2.2.1).mono ?_
    rintro e w2 ⟨v2, rfl, hv, _, hb⟩
    have H2 : Hid (Ints w2 v1 xs ∧ Ints w2 v2 ys ∧ Below w.heap.size w w2) := ⟨H1.out.1.same hb, hv, H1.out.2.2.trans (hb.mono H1.out.2.2.size)⟩
    obtain ⟨s1, c1, rfl⟩ := H1.out.1.shape
    obtain ⟨s2, c2, rfl⟩ := hv.shape
    clear hv hb
    have HL : Hid (xs.length ≤ 100 ∧ ys.length ≤ 100) := by have h1 := H0.out.2.2.2.2.1; have h2 := H0.out.2.2.2.2.2; exact ⟨by omega, by omega⟩
    obtain ⟨n1, hn1⟩ : ∃ k, k = (xs.map (Value.int .i64)).length := ⟨_, rfl⟩
    obtain ⟨n2, hn2⟩ : ∃ k, k = (ys.map (Value.int .i64)).length := ⟨_, rfl⟩
    rw [← hn1] at H2 ⊢
    rw [← hn2] at H2 ⊢
    clear hn1 hn2
    obtain ⟨la, ha⟩ : ∃ k, (insL (insL [] []) xs).length = k := ⟨_, rfl⟩
    obtain ⟨lb, hb⟩ : ∃ k, (insL (insL [] []) ys).length = k := ⟨_, rfl⟩
    obtain ⟨lc, hc⟩ : ∃ k, (insL (insL [] xs) ys).length = k := ⟨_, rfl⟩
    obtain ⟨ld, hd⟩ : ∃ k, (remL (insL [] xs) ys).length = k := ⟨_, rfl⟩
    have HA := Lib.hid ha
    have HB := Lib.hid hb
    have HC := Lib.hid hc
    have HD := Lib.hid hd
    have e1 : lc = lb + ld := by rw [← hc, ← hb, ← hd]; exact count_law xs ys
    have e2 : ld ≤ la := by rw [← hd, ← ha]; exact less_law xs ys
    have e3 : lc ≤ 200 := by
      have h1 := insL_le (insL [] xs) ys
      have h2 := insL_le [] xs
      have h3 := HL.out
      simp at h2
      omega
    have HE : Hid (lc = lb + ld ∧ ld ≤ la ∧ lc ≤ 200) := ⟨e1, e2, e3⟩
    clear ha hb hc hd e1 e2 e3
    go_wp2_with fail
    refine (said_add (xs := []) (ys := xs) (b := true) (Or.inl ⟨rfl, rfl⟩) (H2.out.1.same ((Below.refl _ _).alloc (Nat.le_refl _) _)) (by simp) HL.out.1 (Blk.new w2 _ _) HA.out (all_law [] xs)).mono ?_
    rintro e wa ⟨sfa, cfa, sxa, nxa, cxa, rfl, hb⟩
    have hb' : Below w2.heap.size w2 (wa.alloc (.cells #[.int .i64 (la : Nat), .slice sfa la cfa, .bool true, .slice sxa nxa cxa] 28)) := ((Below.refl _ _).alloc (Nat.le_refl _) _).trans ((hb.mono (by simp)).alloc (by have := hb.size; simp at this; omega) _)
    have Ka : Hid (Ints (wa.alloc (.cells #[.int .i64 (la : Nat), .slice sfa la cfa, .bool true, .slice sxa nxa cxa] 28)) (.slice s1 n1 c1) xs ∧ Ints (wa.alloc (.cells #[.int .i64 (la : Nat), .slice sfa la cfa, .bool true, .slice sxa nxa cxa] 28)) (.slice s2 n2 c2) ys ∧ Below w.heap.size w (wa.alloc (.cells #[.int .i64 (la : Nat), .slice sfa la cfa, .bool true, .slice sxa nxa cxa] 28)) ∧ Blk (wa.alloc (.cells #[.int .i64 (la : Nat), .slice sfa la cfa, .bool true, .slice sxa nxa cxa] 28)) wa.heap.size #[.int .i64 (la : Nat), .slice sfa la cfa, .bool true, .slice sxa nxa cxa] 28) := ⟨H2.out.1.same hb', H2.out.2.1.same hb', H2.out.2.2.trans (hb'.mono H2.out.2.2.size), Blk.new wa _ _⟩
    clear hb hb'
    go_wp2_with fail
    have hz : (wa.alloc (.cells #[.int .i64 (la : Nat), .slice sfa la cfa, .bool true, .slice sxa nxa cxa] 28)).heap.size = wa.heap.size + 1 := by simp
    generalize wa.alloc (.cells #[.int .i64 (la : Nat), .slice sfa la cfa, .bool true, .slice sxa nxa cxa] 28) = Wa at *
    rw [← hz]
    clear hz
    refine (said_add (xs := []) (ys := ys) (b := true) (Or.inl ⟨rfl, rfl⟩) (Ka.out.2.1.same ((Below.refl _ _).alloc (Nat.le_refl _) _)) (by simp) HL.out.2 (Blk.new Wa _ _) HB.out (all_law [] ys)).mono ?_
    rintro e wb ⟨sfb, cfb, sxb, nxb, cxb, rfl, hb⟩
    have hb' : Below Wa.heap.size Wa (wb.alloc (.cells #[.int .i64 (lb : Nat), .slice sfb lb cfb, .bool true, .slice sxb nxb cxb] 28)) := ((Below.refl _ _).alloc (Nat.le_refl _) _).trans ((hb.mono (by simp)).alloc (by have := hb.size; simp at this; omega) _)
    have Kb : Hid (Ints (wb.alloc (.cells #[.int .i64 (lb : Nat), .slice sfb lb cfb, .bool true, .slice sxb nxb cxb] 28)) (.slice s1 n1 c1) xs ∧ Ints (wb.alloc (.cells #[.int .i64 (lb : Nat), .slice sfb lb cfb, .bool true, .slice sxb nxb cxb] 28)) (.slice s2 n2 c2) ys ∧ Below w.heap.size w (wb.alloc (.cells #[.int .i64 (lb : Nat), .slice sfb lb cfb, .bool true, .slice sxb nxb cxb] 28)) ∧ Blk (wb.alloc (.cells #[.int .i64 (lb : Nat), .slice sfb lb cfb, .bool true, .slice sxb nxb cxb] 28)) wa.heap.size #[.int .i64 (la : Nat), .slice sfa la cfa, .bool true, .slice sxa nxa cxa] 28 ∧ Blk (wb.alloc (.cells #[.int .i64 (lb : Nat), .slice sfb lb cfb, .bool true, .slice sxb nxb cxb] 28)) wb.heap.size #[.int .i64 (lb : Nat), .slice sfb lb cfb, .bool true, .slice sxb nxb cxb] 28) := ⟨Ka.out.1.same hb', Ka.out.2.1.same hb', Ka.out.2.2.1.trans (hb'.mono Ka.out.2.2.1.size), Ka.out.2.2.2.below hb' Ka.out.2.2.2.lt, Blk.new wb _ _⟩
    clear hb hb'
    go_wp2_with fail
    have hz : (wb.alloc (.cells #[.int .i64 (lb : Nat), .slice sfb lb cfb, .bool true, .slice sxb nxb cxb] 28)).heap.size = wb.heap.size + 1 := by simp
    generalize wb.alloc (.cells #[.int .i64 (lb : Nat), .slice sfb lb cfb, .bool true, .slice sxb nxb cxb] 28) = Wb at *
    rw [← hz]
    clear hz
    refine (said_add (xs := xs) (ys := ys) (b := true) (Kb.out.1.same ((Below.refl _ _).alloc (Nat.le_refl _) _)) (Kb.out.2.1.same ((Below.refl _ _).alloc (Nat.le_refl _) _)) HL.out.1 HL.out.2 (Blk.new Wb _ _) HC.out (all_law xs ys)).mono ?_
    rintro e wc ⟨sfc, cfc, sxc, nxc, cxc, rfl, hb⟩
    have hb' : Below Wb.heap.size Wb (wc.alloc (.cells #[.int .i64 (lc : Nat), .slice sfc lc cfc, .bool true, .slice sxc nxc cxc] 28)) := ((Below.refl _ _).alloc (Nat.le_refl _) _).trans ((hb.mono (by simp)).alloc (by have := hb.size; simp at this; omega) _)
    have Kc : Hid (Ints (wc.alloc (.cells #[.int .i64 (lc : Nat), .slice sfc lc cfc, .bool true, .slice sxc nxc cxc] 28)) (.slice s1 n1 c1) xs ∧ Ints (wc.alloc (.cells #[.int .i64 (lc : Nat), .slice sfc lc cfc, .bool true, .slice sxc nxc cxc] 28)) (.slice s2 n2 c2) ys ∧ Below w.heap.size w (wc.alloc (.cells #[.int .i64 (lc : Nat), .slice sfc lc cfc, .bool true, .slice sxc nxc cxc] 28)) ∧ Blk (wc.alloc (.cells #[.int .i64 (lc : Nat), .slice sfc lc cfc, .bool true, .slice sxc nxc cxc] 28)) wa.heap.size #[.int .i64 (la : Nat), .slice sfa la cfa, .bool true, .slice sxa nxa cxa] 28 ∧ Blk (wc.alloc (.cells #[.int .i64 (lc : Nat), .slice sfc lc cfc, .bool true, .slice sxc nxc cxc] 28)) wb.heap.size #[.int .i64 (lb : Nat), .slice sfb lb cfb, .bool true, .slice sxb nxb cxb] 28 ∧ Blk (wc.alloc (.cells #[.int .i64 (lc : Nat), .slice sfc lc cfc, .bool true, .slice sxc nxc cxc] 28)) wc.heap.size #[.int .i64 (lc : Nat), .slice sfc lc cfc, .bool true, .slice sxc nxc cxc] 28) := ⟨Kb.out.1.same hb', Kb.out.2.1.same hb', Kb.out.2.2.1.trans (hb'.mono Kb.out.2.2.1.size), Kb.out.2.2.2.1.below hb' Kb.out.2.2.2.1.lt, Kb.out.2.2.2.2.below hb' Kb.out.2.2.2.2.lt, Blk.new wc _ _⟩
    clear hb hb'
    go_wp2_with fail
    have hz : (wc.alloc (.cells #[.int .i64 (lc : Nat), .slice sfc lc cfc, .bool true, .slice sxc nxc cxc] 28)).heap.size = wc.heap.size + 1 := by simp
    generalize wc.alloc (.cells #[.int .i64 (lc : Nat), .slice sfc lc cfc, .bool true, .slice sxc nxc cxc] 28) = Wc at *
    rw [← hz]
    clear hz
    refine (said_rem (xs := xs) (ys := ys) (Kc.out.1.same ((Below.refl _ _).alloc (Nat.le_refl _) _)) (Kc.out.2.1.same ((Below.refl _ _).alloc (Nat.le_refl _) _)) HL.out.1 HL.out.2 (Blk.new Wc _ _) HD.out).mono ?_
    rintro e wd ⟨sfd, cfd, sxd, nxd, cxd, bd, rfl, hb⟩
    have hb' : Below Wc.heap.size Wc (wd.alloc (.cells #[.int .i64 (ld : Nat), .slice sfd ld cfd, .bool bd, .slice sxd nxd cxd] 28)) := ((Below.refl _ _).alloc (Nat.le_refl _) _).trans ((hb.mono (by simp)).alloc (by have := hb.size; simp at this; omega) _)
    have Kd : Hid (Ints (wd.alloc (.cells #[.int .i64 (ld : Nat), .slice sfd ld cfd, .bool bd, .slice sxd nxd cxd] 28)) (.slice s1 n1 c1) xs ∧ Ints (wd.alloc (.cells #[.int .i64 (ld : Nat), .slice sfd ld cfd, .bool bd, .slice sxd nxd cxd] 28)) (.slice s2 n2 c2) ys ∧ Below w.heap.size w (wd.alloc (.cells #[.int .i64 (ld : Nat), .slice sfd ld cfd, .bool bd, .slice sxd nxd cxd] 28)) ∧ Blk (wd.alloc (.cells #[.int .i64 (ld : Nat), .slice sfd ld cfd, .bool bd, .slice sxd nxd cxd] 28)) wa.heap.size #[.int .i64 (la : Nat), .slice sfa la cfa, .bool true, .slice sxa nxa cxa] 28 ∧ Blk (wd.alloc (.cells #[.int .i64 (ld : Nat), .slice sfd ld cfd, .bool bd, .slice sxd nxd cxd] 28)) wb.heap.size #[.int .i64 (lb : Nat), .slice sfb lb cfb, .bool true, .slice sxb nxb cxb] 28 ∧ Blk (wd.alloc (.cells #[.int .i64 (ld : Nat), .slice sfd ld cfd, .bool bd, .slice sxd nxd cxd] 28)) wc.heap.size #[.int .i64 (lc : Nat), .slice sfc lc cfc, .bool true, .slice sxc nxc cxc] 28 ∧ Blk (wd.alloc (.cells #[.int .i64 (ld : Nat), .slice sfd ld cfd, .bool bd, .slice sxd nxd cxd] 28)) wd.heap.size #[.int .i64 (ld : Nat), .slice sfd ld cfd, .bool bd, .slice sxd nxd cxd] 28) := ⟨Kc.out.1.same hb', Kc.out.2.1.same hb', Kc.out.2.2.1.trans (hb'.mono Kc.out.2.2.1.size), Kc.out.2.2.2.1.below hb' Kc.out.2.2.2.1.lt, Kc.out.2.2.2.2.1.below hb' Kc.out.2.2.2.2.1.lt, Kc.out.2.2.2.2.2.below hb' Kc.out.2.2.2.2.2.lt, Blk.new wd _ _⟩
    clear hb hb'
    have qa0 := Kd.out.2.2.2.1.cell (i := 0) rfl
    have qb0 := Kd.out.2.2.2.2.1.cell (i := 0) rfl
    have qc0 := Kd.out.2.2.2.2.2.1.cell (i := 0) rfl
    have qc1 := Kd.out.2.2.2.2.2.1.cell (i := 1) rfl
    have qc2 := Kd.out.2.2.2.2.2.1.cell (i := 2) rfl
    have qd0 := Kd.out.2.2.2.2.2.2.cell (i := 0) rfl
    have b1 : lb ≤ 200 := by have := HE.out; omega
    have b2 : ld ≤ 200 := by have := HE.out; omega
    have t1 : ((lc : Int) == (lb : Int) + (ld : Int)) = true := by have := HE.out; simp; omega
    have t2 : decide (ld ≤ la) = true := by have := HE.out; simp; omega
    have t3 : decide ((ld : Int) ≤ (la : Int)) = true := by have := HE.out; simp; omega
    go_wp2_with fail
    go_ret
    exact ⟨rfl, Kd.out.2.2.1⟩
  · exact trivial h

theorem own : ownKnob Try.prog.godebug = none := by kernel_rfl
theorem laidOut : laidOutB Try.prog = true := by kernel_rfl

set_option maxRecDepth 100000 in
theorem lifted (os : Os) (started : os.Started) (H : Type) (enc : TypeId × Value → H) :
    ReturnsInHanded {} Try.checked os 3 .any (Rows.fnSTCountSpec.pre6 enc Try.prog Try.f3 Rows.fnSTCountRow.domain false) (Rows.fnSTCountSpec.post enc Try.prog Try.f3 false true false false) := by
  refine LawKit.lifted (C := Try.checked) (T := 4) own started (by kernel_rfl) Try.func3 laidOut (by kernel_rfl) (by kernel_rfl) Try.underlying4 rfl ?_
    (ChangeSpec.witness6 (enc := enc) (C := Try.checked) false ⟨#[], #[.slice none 0 0, .slice none 0 0], []⟩ 8 (by kernel_rfl) (by kernel_rfl) (by kernel_rfl) (by kernel_rfl)) ?_
  · intro ds hd
    match ds, hd with
    | [_, _], _ => rfl
  · intro W base args ds p hval0 hA0 _
    have hval : ∀ (j : Nat) t v, Try.f3.params[j]? = some t → args[j]? = some v → Value.okWide Try.prog W .any base t v := hval0
    have hA : DataW.TrodAll enc Try.prog W 0 (fun _ => true) true Try.f3.params.toList args.toList ds p := hA0
    rw [Try.params3] at hA hval
    obtain ⟨v0, vs0, d0, ds0, p0, q0, hargs, rfl, rfl, h0, r0⟩ := trodAll_cons hA
    obtain ⟨v1, vs1, d1, ds1, p1, q1, rfl, rfl, rfl, h1, r1⟩ := trodAll_cons r0
    obtain ⟨rfl, rfl, rfl⟩ := trodAll_nil r1
    obtain rfl : args = #[v0, v1] := by cases args; simp_all
    obtain ⟨sk0, nk0, ck0, rfl⟩ := okWide_slice Try.underlying22 (hval 0 22 v0 rfl rfl)
    obtain ⟨fu0, hf0⟩ := h0
    obtain ⟨so0, n0, cp0, xs0, hw0, hl0, hv0, hb0⟩ := open_ilist Try.underlying22 Try.underlying35 (k := .i16) (by kernel_rfl) hf0
    rw [hw0]
    obtain ⟨sk1, nk1, ck1, rfl⟩ := okWide_slice Try.underlying22 (hval 1 22 v1 rfl rfl)
    obtain ⟨fu1, hf1⟩ := h1
    obtain ⟨so1, n1, cp1, xs1, hw1, hl1, hv1, hb1⟩ := open_ilist Try.underlying22 Try.underlying35 (k := .i16) (by kernel_rfl) hf1
    rw [hw1]
    exact walk hl0 hl1 hv0 hv1 (fun x h => bounds_i16 (hb0 x h)) (fun x h => bounds_i16 (hb1 x h))

theorem proved : Rows.FnSTCountSaid :=
  OpenClaim.holds_of_wide 3 Try.f3 rfl rfl rfl rfl rfl rfl rfl ⟨rfl, rfl, rfl, rfl, rfl⟩ rfl rfl rfl rfl rfl (by kernel_rfl) Try.func3 (by kernel_rfl)
    (of_decide_eq_true (by kernel_rfl)) (by unfold Func.isWrapper; first | (rw [if_pos (by decide +kernel)]; kernel_rfl) | (rw [if_neg (by decide +kernel)]; exact ⟨rfl, rfl⟩))
    (fun os started H enc _ => lifted os started H enc)
#print axioms proved
end Go.Proofs.Ytjijgkjmndpngaa.LSTCount
