/- The decoder on the good road: byteString (25). -/
import Derived.Test.Qxb6609549aFmtDecB
namespace Go.Proofs.Qxb6609549aFmt.Dec
open Go.RowKit Go.ChangeShapes Go.WideShapes

/-- What the first j digits at p say. -/
def num (bs : Nat → Int) (p : Nat) : Nat → Nat
  | 0 => 0
  | j + 1 => num bs p j * 10 + (bs (p + j) - 48).toNat
theorem num_le (bs : Nat → Int) (p j k : Nat) (h : j ≤ k) : num bs p j ≤ num bs p k := by
  induction k with
  | zero => have : j = 0 := by omega
            rw [this]; exact Nat.le_refl _
  | succ k ih =>
    by_cases e : j = k + 1
    · rw [e]; exact Nat.le_refl _
    · have := ih (by omega)
      simp only [num]
      omega

set_option maxHeartbeats 2000000 in
set_option maxRecDepth 100000 in
/-- A byte string of m bytes, k digits ahead of it. -/
theorem bytes_any (B D n p d v k m : Nat) (bs : Nat → Int) (u : Bool) (w : World) (h : Dec w B D n bs u p d v) (hk : 0 < k) (hp : p + k < n) (hdig : ∀ i, i < k → 48 ≤ bs (p + i) ∧ bs (p + i) ≤ 57) (hend : bs (p + k) = 58) (hz : bs p = 48 → k = 1)
    (hm : num bs p k = m) (hmn : p + k + 1 + m ≤ n) :
    Calls Tryf.prog 25 #[.pointer (some ⟨B, 0, none⟩)] w fun e w' => ∃ o, e = .returned (.tuple #[.slice (some ⟨D, o, none⟩) m m, .nilIface]) ∧ (0 < m → o = p + k + 1) ∧ w.grownBy w' (some B) ∧ Dec w' B D n bs u (p + k + 1 + m) d v := by
  have hnb := h.nb
  obtain ⟨t, ht⟩ : ∃ t, p + k = t := ⟨_, rfl⟩
  have HDI : Hid _ := digits_any B D n p d v k bs u w h hk hp hdig (.inr (by rw [hend]; omega)) hz
  rw [ht] at hp hend HDI
  have HEX : Hid (∀ w, Dec w B D n bs u t d v → _) := fun w h => expect_any B D n t d v bs u 58 w h hp hend
  rw [ht] at hmn ⊢
  obtain ⟨b, hb⟩ : ∃ b, t + 1 = b := ⟨_, rfl⟩
  have HBB : Hid (t + 1 = b) := hb
  rw [hb] at hmn ⊢
  have HT : Hid (p + k = t) := ht
  clear h hend hz ht hb
  go_enter Tryf.func25, Tryf.ntmps25
  go_wp2_with fail
  refine Calls.mono HDI.out ?_
  rintro e w1 ⟨rfl, hg1, hd1⟩
  have HG1 : Hid _ := hg1
  have HD1 : Hid _ := hd1
  clear hg1 hd1 HDI
  go_wp2_with fail
  refine Calls.mono (HEX.out _ HD1.out) ?_
  rintro e w2 ⟨rfl, hg2, hd2⟩
  have HG2 : Hid _ := HG1.out.trans hg2
  rw [HBB.out] at hd2
  have HD2 : Hid (Dec w2 B D n bs u b d v) := hd2
  have c0 := hd2.c0
  have c1 := hd2.c1
  have hdat : ∀ i, i < k → w2.cell? ⟨D, p + i, none⟩ = some (.int .u8 (bs (p + i))) := fun i hi => hd2.dat (p + i) (by have := HT.out; omega)
  clear hg2 hd2 HG1 HD1 HEX
  go_wp2_with fail
  go_quiet (fail)
  go_wp2_with fail
  obtain ⟨W, hW⟩ : ∃ W, w2.drewN nq = W := ⟨_, rfl⟩
  have HDW : Hid (Dec W B D n bs u b d v) := by rw [← hW]; exact HD2.out.drewN _
  have HGW : Hid (w.grownBy W (some B)) := by rw [← hW]; exact HG2.out.trans (grown_drewN _ _ _)
  have hdW : ∀ i, i < k → W.cell? ⟨D, p + i, none⟩ = some (.int .u8 (bs (p + i))) := by rw [← hW]; exact hdat
  have HDIG : Hid (∀ i, i < k → 48 ≤ bs (p + i) ∧ bs (p + i) ≤ 57) := hdig
  have HDW2 : Hid (∀ i, i < k → W.cell? ⟨D, p + i, none⟩ = some (.int .u8 (bs (p + i)))) := hdW
  have HM : Hid (num bs p k = m) := hm
  rw [hW]
  clear hdat hdig hW HD2 HG2 c0 c1 hdW hm
  go_loopw [8, 37] (fun c i wx => W = wx ∧ ∃ j : Nat, j ≤ k ∧ i = .int .i64 j ∧ c = .int .i64 (num bs p j)) (fun _ i _ => k - (intOf i).toNat)
  case atStart => exact ⟨rfl, 0, Nat.zero_le _, rfl, rfl⟩
  case round =>
    obtain ⟨rfl, j, hj, rfl, rfl⟩ := hrel
    have hcm : num bs p j ≤ m := by rw [← HM.out]; exact num_le bs p j k hj
    have hkn : k ≤ n := by have := HT.out; omega
    by_cases hlt : j < k
    · have hy : num bs p (j + 1) ≤ m := by rw [← HM.out]; exact num_le bs p (j + 1) k hlt
      have hst : num bs p (j + 1) = num bs p j * 10 + (bs (p + j) - 48).toNat := rfl
      have hcx := HDW2.out j hlt
      obtain ⟨hx0, hx1⟩ := HDIG.out j hlt
      obtain ⟨x, hx⟩ : ∃ x, bs (p + j) = x := ⟨_, rfl⟩
      obtain ⟨c, hc⟩ : ∃ c, num bs p j = c := ⟨_, rfl⟩
      obtain ⟨y, hy2⟩ : ∃ y, num bs p (j + 1) = y := ⟨_, rfl⟩
      rw [hx] at hcx hx0 hx1 hst
      rw [hc] at hst hcm ⊢
      rw [hy2] at hst hy
      have HY : Hid (num bs p (j + 1) = y) := hy2
      have he : (c : Int) * 10 + (x - 48) = (y : Int) := by omega
      have hle : (y : Int) ≤ (n : Int) - (b : Int) := by omega
      have hz0 : (0 : Int) ≤ (j : Int) := by omega
      have hz1 : (j : Int) < (k : Int) := by omega
      clear hx hc hy2 hst
      go_wp2
      go_roundw
      case rel => exact ⟨trivial, j + 1, by omega, by go_num, by rw [HY.out]⟩
      case measure => simp [intOf]; omega
    · have hjk : k = j := by omega
      subst hjk
      rw [HM.out] at hcm ⊢
      have c0 := HDW.out.c0
      have c1 := HDW.out.c1
      have f1 := HDW.out.fz 1
      have hb0 : (0 : Int) ≤ (b : Int) := by omega
      have hb1 : (b : Int) ≤ (b : Int) + (m : Int) := by omega
      have hb2 : (b : Int) + (m : Int) ≤ (n : Int) := by omega
      clear hlt
      by_cases hm0 : m = 0
      · subst hm0
        go_wp2_with fail
        go_quiet (fail)
        go_wp2_with fail
        go_ret2
        exact ⟨0, rfl, fun h => absurd h (by omega), HGW.out.trans ((grown_drewN _ _ _).trans (grown_set _ _ _ _)), (HDW.out.drewN nq).set1 b⟩
      · have hmi : (m : Int) ≠ 0 := by omega
        go_wp2_with fail
        go_quiet (fail)
        go_wp2_with fail
        go_ret2
        exact ⟨b, by show Ending.returned (.tuple #[.slice (some ⟨D, b, none⟩) (b + m - b) (b + m - b), .nilIface]) = _; rw [Nat.add_sub_cancel_left], fun _ => rfl, HGW.out.trans ((grown_drewN _ _ _).trans (grown_set _ _ _ _)), (HDW.out.drewN nq).set1 (b + m)⟩
end Go.Proofs.Qxb6609549aFmt.Dec
