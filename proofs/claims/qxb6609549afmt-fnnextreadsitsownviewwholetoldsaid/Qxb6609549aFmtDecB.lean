/- The decoder on the good road: digits (28), integer (21). -/
import Derived.Test.Qxb6609549aFmtDecA
import Derived.Deep.LoopGhost
namespace Go.Proofs.Qxb6609549aFmt.Dec
open Go.RowKit Go.ChangeShapes Go.WideShapes

set_option maxHeartbeats 2000000 in
set_option maxRecDepth 100000 in
/-- digits over k digits, with another byte behind them. -/
theorem digits_any (B D n p d v k : Nat) (bs : Nat → Int) (u : Bool) (w : World) (h : Dec w B D n bs u p d v) (hk : 0 < k) (hp : p + k < n) (hdig : ∀ i, i < k → 48 ≤ bs (p + i) ∧ bs (p + i) ≤ 57) (hend : bs (p + k) < 48 ∨ 57 < bs (p + k)) (hz : bs p = 48 → k = 1) :
    Calls Tryf.prog 28 #[.pointer (some ⟨B, 0, none⟩)] w fun e w' => e = .returned (.tuple #[.slice (some ⟨D, p, none⟩) k (n - p), .nilIface]) ∧ w.grownBy w' (some B) ∧ Dec w' B D n bs u (p + k) d v := by
  have hnb := h.nb
  have c1 := h.c1
  have HD : Hid (Dec w B D n bs u p d v) := h
  clear h
  go_enter Tryf.func28, Tryf.ntmps28
  go_wp2_with fail
  go_loopg [47] k (fun g s wx => ∃ q : Nat, q ≤ k ∧ g = k - q ∧ Dec wx B D n bs u (p + q) d v ∧ w.grownBy wx (some B))
  case atStart => exact ⟨0, Nat.zero_le _, rfl, HD.out, grown_refl _ _⟩
  case round =>
    clear c1
    obtain ⟨q, hq, hgk, hd, hg⟩ := hrel
    obtain ⟨t, ht⟩ : ∃ t, p + q = t := ⟨_, rfl⟩
    rw [ht] at hd
    have hdat := hd.dat t (by omega)
    have c0 := hd.c0
    have c1 := hd.c1
    have f1 := hd.fz 1
    have HDD : Hid (Dec wr B D n bs u t d v) := hd
    have HG : Hid _ := hg
    have hz0 : (0 : Int) ≤ (t : Int) := by omega
    have hz1 : (t : Int) < (n : Int) := by omega
    by_cases hlt : q < k
    · obtain ⟨hx0, hx1⟩ := hdig q hlt
      rw [ht] at hx0 hx1
      obtain ⟨x, hx⟩ : ∃ x, bs t = x := ⟨_, rfl⟩
      rw [hx] at hdat hx0 hx1
      have HT : Hid (p + q = t) := ht
      clear hd hg hx ht hend hdig hz
      go_wp2_with fail
      go_quiet (fail)
      go_wp2
      go_roundg (k - (q + 1))
      case rel => exact ⟨q + 1, by omega, rfl, by rw [← Nat.add_assoc, HT.out]; exact ((HDD.out.drewN _).set1 (t + 1)), HG.out.trans ((grown_drewN _ _ _).trans (grown_set _ _ _ _))⟩
      case measure => omega
    · have hqk : q = k := by omega
      subst hqk
      have hx0 := hdig 0 hk
      have hd0 := hd.dat p (by omega)
      rw [Nat.add_zero] at hx0
      rw [ht] at hend
      obtain ⟨x, hx⟩ : ∃ x, bs t = x := ⟨_, rfl⟩
      obtain ⟨y, hy⟩ : ∃ y, bs p = y := ⟨_, rfl⟩
      rw [hx] at hdat hend
      rw [hy] at hd0 hx0 hz
      have HT : Hid (p + q = t) := ht
      have hpt : (p : Int) ≤ (t : Int) := by omega
      have hp0 : (0 : Int) ≤ (p : Int) := by omega
      have htn : (t : Int) ≤ (n : Int) := by omega
      have hqt : t - p = q := by omega
      have hq0 : ((q : Int) == 0) = false := by simp; omega
      have hnp : n ≠ p := by omega
      have hyz : ((y == 48) && decide (1 < (q : Int))) = false := by
        by_cases e : y = 48
        · have := hz e
          subst this
          simp
        · simp [e]
      clear hd hg hx hy ht hdig hlt
      rcases hend with hend | hend
      · have hb1 : decide (48 ≤ x) = false := by simp; omega
        go_wp2_with fail
        go_quiet (fail)
        go_wp2_with fail
        go_quiet (fail)
        go_wp2
        all_goals
          go_ret2
          exact ⟨rfl, HG.out.trans (grown_drewN _ _ _), by rw [HT.out]; exact HDD.out.drewN _⟩
      · have hb1 : decide (48 ≤ x) = true := by simp; omega
        have hb2 : decide (x ≤ 57) = false := by simp; omega
        go_wp2_with fail
        go_quiet (fail)
        go_wp2_with fail
        go_quiet (fail)
        go_wp2
        all_goals
          go_ret2
          exact ⟨rfl, HG.out.trans (grown_drewN _ _ _), by rw [HT.out]; exact HDD.out.drewN _⟩

set_option maxHeartbeats 2000000 in
set_option maxRecDepth 100000 in
/-- An integer that is not negative. -/
theorem integer_plain (B D n p d v k : Nat) (bs : Nat → Int) (u : Bool) (w : World) (h : Dec w B D n bs u p d v) (hk : 0 < k) (hp : p + 1 + k < n) (hdig : ∀ i, i < k → 48 ≤ bs (p + 1 + i) ∧ bs (p + 1 + i) ≤ 57) (hend : bs (p + 1 + k) = 101) (hz : bs (p + 1) = 48 → k = 1) :
    Calls Tryf.prog 21 #[.pointer (some ⟨B, 0, none⟩)] w fun e w' => (∃ t, e = .returned (.tuple #[t, .nilIface])) ∧ w.grownBy w' (some B) ∧ Dec w' B D n bs u (p + 1 + k + 1) d v := by
  have hnb := h.nb
  have c1 := h.c1
  have f1 := h.fz 1
  have HD : Hid (Dec w B D n bs u p d v) := h
  have hx := (hdig 0 hk).1
  have hx2 := (hdig 0 hk).2
  rw [Nat.add_zero] at hx hx2
  obtain ⟨s, hs⟩ : ∃ s, p + 1 = s := ⟨_, rfl⟩
  obtain ⟨t, ht⟩ : ∃ t, s + k = t := ⟨_, rfl⟩
  rw [hs] at hx hx2 hp hdig hend hz
  have HDI : Hid (∀ w, Dec w B D n bs u s d v → _) := fun w h => digits_any B D n s d v k bs u w h hk hp hdig (.inr (by rw [hend]; omega)) hz
  rw [ht] at hp hend HDI
  have HEX : Hid (∀ w, Dec w B D n bs u t d v → _) := fun w h => expect_any B D n t d v bs u 101 w h hp hend
  have c0' := (h.set1 s).c0
  have c1' := (h.set1 s).c1
  have cd' := (h.set1 s).dat s (by omega)
  obtain ⟨w0, hw0⟩ : ∃ w0, w.setCell ⟨B, 1, none⟩ (.int .i64 s) = w0 := ⟨_, rfl⟩
  have HD0 : Hid (Dec w0 B D n bs u s d v) := by rw [← hw0]; exact h.set1 s
  have HG0 : Hid (w.grownBy w0 (some B)) := by rw [← hw0]; exact grown_set _ _ _ _
  rw [hw0] at c0' c1' cd'
  have hsi : (p : Int) + 1 = (s : Int) := by omega
  obtain ⟨x, hxx⟩ : ∃ x, bs s = x := ⟨_, rfl⟩
  rw [hxx] at cd' hx hx2
  have hnn : (x == 45) = false := by simp; omega
  have hz0 : (0 : Int) ≤ (s : Int) := by omega
  have hz1 : (s : Int) < (n : Int) := by omega
  have hz2 : (s : Int) ≤ (t : Int) := by omega
  have hz3 : (t : Int) ≤ (n : Int) := by omega
  have hts : t ≠ s := by omega
  have HST : Hid (s + k = t) := ht
  have HS : Hid (p + 1 = s) := hs
  clear h hdig hend hz hs ht hxx
  go_enter Tryf.func21, Tryf.ntmps21
  go_upto_region 3 with fail
  go_quiet (fail)
  go_wp2_with fail
  refine Calls.mono (HDI.out _ (HD0.out.drewN _)) ?_
  rintro e w1 ⟨rfl, hg1, hd1⟩
  have HG1 : Hid _ := (HG0.out.trans (grown_drewN _ _ _)).trans hg1
  have HD1 : Hid (Dec w1 B D n bs u t d v) := hd1
  have e0 := hd1.c0
  have e1 := hd1.c1
  clear hg1 hd1 c0' c1' cd' c1 f1
  go_wp2_with fail
  go_quiet (fail)
  go_wp2_with fail
  refine Calls.mono (HEX.out _ (HD1.out.drewN _)) ?_
  rintro e w2 ⟨rfl, hg2, hd2⟩
  have HG2 : Hid _ := hg2
  have HD2 : Hid _ := hd2
  clear hg2 hd2
  go_wp2
  go_ret2
  exact ⟨⟨_, rfl⟩, (HG1.out.trans (grown_drewN _ _ _)).trans HG2.out, by have h9 := HD2.out; rw [← HST.out, ← HS.out] at h9; exact h9⟩

set_option maxHeartbeats 2000000 in
set_option maxRecDepth 100000 in
/-- A negative integer. -/
theorem integer_neg (B D n p d v k : Nat) (bs : Nat → Int) (u : Bool) (w : World) (h : Dec w B D n bs u p d v) (hk : 0 < k) (hm : bs (p + 1) = 45) (hp : p + 2 + k < n) (hdig : ∀ i, i < k → 48 ≤ bs (p + 2 + i) ∧ bs (p + 2 + i) ≤ 57) (hend : bs (p + 2 + k) = 101) (hz : bs (p + 2) ≠ 48) :
    Calls Tryf.prog 21 #[.pointer (some ⟨B, 0, none⟩)] w fun e w' => (∃ t, e = .returned (.tuple #[t, .nilIface])) ∧ w.grownBy w' (some B) ∧ Dec w' B D n bs u (p + 2 + k + 1) d v := by
  have hnb := h.nb
  have c1 := h.c1
  have f1 := h.fz 1
  obtain ⟨s, hs⟩ : ∃ s, p + 1 = s := ⟨_, rfl⟩
  obtain ⟨s2, hs2⟩ : ∃ s2, p + 2 = s2 := ⟨_, rfl⟩
  obtain ⟨t, ht⟩ : ∃ t, s2 + k = t := ⟨_, rfl⟩
  rw [hs] at hm
  rw [hs2] at hp hdig hend hz
  have HDI : Hid (∀ w, Dec w B D n bs u s2 d v → _) := fun w h => digits_any B D n s2 d v k bs u w h hk hp hdig (.inr (by rw [hend]; omega)) (fun e => absurd e hz)
  rw [ht] at hp hend HDI
  have HEX : Hid (∀ w, Dec w B D n bs u t d v → _) := fun w h => expect_any B D n t d v bs u 101 w h hp hend
  have c0' := (h.set1 s).c0
  have c1' := (h.set1 s).c1
  have f1' := (h.set1 s).fz 1
  have cd' := (h.set1 s).dat s (by omega)
  rw [hm] at cd'
  obtain ⟨w0, hw0⟩ : ∃ w0, w.setCell ⟨B, 1, none⟩ (.int .i64 s) = w0 := ⟨_, rfl⟩
  have HD0 : Hid (Dec w0 B D n bs u s d v) := by rw [← hw0]; exact h.set1 s
  have HG0 : Hid (w.grownBy w0 (some B)) := by rw [← hw0]; exact grown_set _ _ _ _
  rw [hw0] at c0' c1' cd' f1'
  have hsi : (p : Int) + 1 = (s : Int) := by omega
  have hsi2 : (s : Int) + 1 = (s2 : Int) := by omega
  have hz0 : (0 : Int) ≤ (s : Int) := by omega
  have hz1 : (s : Int) < (n : Int) := by omega
  have hz2 : (s : Int) ≤ (t : Int) := by omega
  have hz3 : (t : Int) ≤ (n : Int) := by omega
  have hnz : (bs s2 == 48) = false := by simpa using hz
  have HST : Hid (s2 + k = t) := ht
  have HS : Hid (p + 2 = s2) := hs2
  have hk2 : s2 < t := by omega
  have htn : t < n := hp
  have hki : (0 : Int) < (k : Int) := by omega
  clear h hdig hend hz hs hs2 ht
  go_enter Tryf.func21, Tryf.ntmps21
  go_upto_region 3 with fail
  go_quiet (fail)
  go_wp2_with fail
  refine Calls.mono (HDI.out _ ((HD0.out.drewN _).set1 s2)) ?_
  rintro e w1 ⟨rfl, hg1, hd1⟩
  have HG1 : Hid _ := ((HG0.out.trans (grown_drewN _ _ _)).trans (grown_set _ _ _ _)).trans hg1
  have HD1 : Hid (Dec w1 B D n bs u t d v) := hd1
  have e0 := hd1.c0
  have e1 := hd1.c1
  have e2 := hd1.dat s2 (by omega)
  obtain ⟨x, hxx⟩ : ∃ x, bs s2 = x := ⟨_, rfl⟩
  rw [hxx] at hnz e2
  clear hg1 hd1 c0' c1' cd' c1 f1 f1' hxx
  go_wp2_with fail
  go_quiet (fail)
  go_wp2_with fail
  refine Calls.mono (HEX.out _ (HD1.out.drewN _)) ?_
  rintro e w2 ⟨rfl, hg2, hd2⟩
  have HG2 : Hid _ := hg2
  have HD2 : Hid _ := hd2
  clear hg2 hd2
  go_wp2
  go_ret2
  exact ⟨⟨_, rfl⟩, (HG1.out.trans (grown_drewN _ _ _)).trans HG2.out, by have h9 := HD2.out; rw [← HST.out, ← HS.out] at h9; exact h9⟩
end Go.Proofs.Qxb6609549aFmt.Dec
