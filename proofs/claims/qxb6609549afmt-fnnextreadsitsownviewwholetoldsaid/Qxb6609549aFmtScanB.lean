/- The scanner's callees: zzIntAt (15). -/
import Derived.Test.Qxb6609549aFmtScanA
namespace Go.Proofs.Qxb6609549aFmt.Dec
open Go.RowKit Go.ChangeShapes Go.WideShapes

/-- What zzIntAt answers. -/
def IntAns (bs : Nat → Int) (n p : Nat) (e : Ending) : Prop :=
  e = .returned (.tuple #[.int .i64 0, .bool false]) ∨ ∃ q : Nat, IntAt bs p q ∧ q ≤ n ∧ e = .returned (.tuple #[.int .i64 q, .bool true])

set_option maxHeartbeats 4000000 in
set_option maxRecDepth 100000 in
/-- zzIntAt behind its sign: s: where the digits begin. -/
theorem intAt_any (D n p : Nat) (bs : Nat → Int) (w : World) (hdat : ∀ i, i < n → w.cell? ⟨D, i, none⟩ = some (.int .u8 (bs i))) (hnb : n ≤ 1048576) (hp : p < n) (hi : bs p = 105) :
    Calls Tryf.prog 15 #[.slice (some ⟨D, 0, none⟩) n n, .int .i64 p] w fun e w' => IntAns bs n p e ∧ w = w' := by
  have HDAT : Hid (∀ i, i < n → w.cell? ⟨D, i, none⟩ = some (.int .u8 (bs i))) := hdat
  clear hdat
  obtain ⟨s1, hs1⟩ : ∃ s1, p + 1 = s1 := ⟨_, rfl⟩
  have HS1 : Hid (p + 1 = s1) := hs1
  have hs1i : (p : Int) + 1 = (s1 : Int) := by omega
  have hs1n : s1 ≤ n := by omega
  clear hs1
  go_enter Tryf.func15, Tryf.ntmps15
  go_upto_region 2 with fail
  go_cut [7] (fun c wx => w = wx ∧ ∃ neg : Bool, c = .bool neg ∧ Hid (neg = true → s1 < n ∧ bs s1 = 45))
  case first =>
    by_cases htn : s1 = n
    · subst htn
      go_wp2_with fail
      go_meet
      exact ⟨rfl, false, by simp, fun h => by cases h⟩
    · have hlt : s1 < n := by omega
      have hct := HDAT.out s1 hlt
      obtain ⟨y, hy⟩ : ∃ y, bs s1 = y := ⟨_, rfl⟩
      have HY : Hid (bs s1 = y) := hy
      rw [hy] at hct
      have hz2 : (0 : Int) ≤ (s1 : Int) := by omega
      have hz3 : (s1 : Int) < (n : Int) := by omega
      clear hy htn
      go_wp2_with fail
      go_meet
      exact ⟨rfl, (y == 45), by simp, fun h => ⟨hlt, by rw [HY.out]; simpa using h⟩⟩
  case rest =>
    obtain ⟨rfl, neg, rfl, HN⟩ := hcut
    obtain ⟨s, hs⟩ : ∃ s, s1 + (if neg then 1 else 0) = s := ⟨_, rfl⟩
    have HS : Hid (s1 + (if neg then 1 else 0) = s) := hs
    have hsn : s ≤ n := by
      cases neg
      · simp at hs; omega
      · have := (HN.out rfl).1; simp at hs; omega
    clear hs
    go_upto_if 22 with fail
    go_cut [6] (fun q wx => q = .int .i64 s ∧ w = wx)
    case first =>
      cases neg
      · go_wp2_with fail
        go_meet
        exact ⟨by rw [← HS.out]; simp, rfl⟩
      · have hsi : (s1 : Int) + 1 = (s : Int) := by have := HS.out; simp at this; omega
        go_wp2_with fail
        go_meet
        exact ⟨rfl, rfl⟩
    case rest =>
      obtain ⟨rfl, rfl⟩ := hcut
      go_upto_block 0 with fail
      go_cut [6] (fun q wx => w = wx ∧ ∃ k : Nat, q = .int .i64 (s + k : Nat) ∧ s + k ≤ n ∧ (∀ i, i < k → 48 ≤ bs (s + i) ∧ bs (s + i) ≤ 57))
      case first =>
        go_wp2_with fail
        go_loopw [6] (fun q wx => w = wx ∧ ∃ k : Nat, q = .int .i64 (s + k : Nat) ∧ s + k ≤ n ∧ Hid (∀ i, i < k → 48 ≤ bs (s + i) ∧ bs (s + i) ≤ 57)) (fun q _ => n - (intOf q).toNat)
        case atStart => exact ⟨rfl, 0, rfl, hsn, fun i hi => by omega⟩
        case round =>
          obtain ⟨rfl, k, rfl, hk, HDG⟩ := hrel
          obtain ⟨t, ht⟩ : ∃ t, s + k = t := ⟨_, rfl⟩
          have HT : Hid (s + k = t) := ht
          rw [ht] at hk ⊢
          clear ht
          by_cases htn : t = n
          · subst htn
            go_wp2
            go_meet
            exact ⟨rfl, k, by rw [HT.out], by rw [HT.out]; exact Nat.le_refl _, HDG.out⟩
          · have hlt : t < n := by omega
            have hcx := HDAT.out t hlt
            obtain ⟨x, hx⟩ : ∃ x, bs t = x := ⟨_, rfl⟩
            have HX : Hid (bs t = x) := hx
            rw [hx] at hcx
            have hz0 : (0 : Int) ≤ (t : Int) := by omega
            have hz1 : (t : Int) < (n : Int) := by omega
            clear hx htn
            by_cases h1 : x < 48
            · go_wp2
              go_meet
              exact ⟨rfl, k, by rw [HT.out], by rw [HT.out]; exact hk, HDG.out⟩
            · have h1' : 48 ≤ x := by omega
              clear h1
              by_cases h2 : 57 < x
              · go_wp2
                go_meet
                exact ⟨rfl, k, by rw [HT.out], by rw [HT.out]; exact hk, HDG.out⟩
              · have h2' : x ≤ 57 := by omega
                clear h2
                go_wp2
                go_roundw
                case rel => exact ⟨trivial, k + 1, by rw [← Nat.add_assoc, HT.out]; go_num, by have := HT.out; omega, fun i hi => by
                  by_cases e : i = k
                  · subst e; rw [HT.out, HX.out]; exact ⟨h1', h2'⟩
                  · exact HDG.out i (by omega)⟩
                case measure => simp [intOf]; omega
      case rest =>
        obtain ⟨rfl, k, rfl, hk, hdg⟩ := hcut
        have HDG : Hid (∀ i, i < k → 48 ≤ bs (s + i) ∧ bs (s + i) ≤ 57) := hdg
        obtain ⟨t, ht⟩ : ∃ t, s + k = t := ⟨_, rfl⟩
        have HT : Hid (s + k = t) := ht
        rw [ht] at hk ⊢
        clear hdg ht
        by_cases hk0 : k = 0
        · have hb : ((t : Int) == (s : Int)) = true := by have := HT.out; simp; omega
          go_wp2
          go_ret2
          exact ⟨.inl rfl, rfl⟩
        · have hb : ((t : Int) == (s : Int)) = false := by have := HT.out; simp; omega
          have hkt : s < t := by have := HT.out; omega
          have hcp := HDAT.out s (by omega)
          obtain ⟨x, hx⟩ : ∃ x, bs s = x := ⟨_, rfl⟩
          have HX : Hid (bs s = x) := hx
          rw [hx] at hcp
          have hz0 : (0 : Int) ≤ (s : Int) := by omega
          have hz1 : (s : Int) < (n : Int) := by omega
          clear hx
          go_upto_region 10 with fail
          go_cut [62] (fun c wx => w = wx ∧ ∃ bad : Bool, c = .bool bad ∧ Hid (bad = false → bs s = 48 → k = 1 ∧ neg = false))
          case first =>
            by_cases e : x = 48
            · have hxb : (x == 48) = true := by simp [e]
              by_cases h1 : 1 < k
              · have hdf : (1 : Int) < (t : Int) - (s : Int) := by have := HT.out; omega
                clear e h1
                go_wp2_with fail
                go_meet
                exact ⟨rfl, true, by simp, fun h => by cases h⟩
              · have hdf : (t : Int) - (s : Int) ≤ 1 := by have := HT.out; omega
                clear e
                go_wp2_with fail
                go_meet
                exact ⟨rfl, neg, by simp; intro h; omega, fun h _ => ⟨by omega, h⟩⟩
            · have hxb : (x == 48) = false := by simp [e]
              go_wp2_with fail
              go_meet
              exact ⟨rfl, false, by simp, fun _ h => absurd (HX.out.symm.trans h) e⟩
          case rest =>
            obtain ⟨rfl, bad, rfl, HBD⟩ := hcut
            cases bad
            · by_cases htn : t = n
              · subst htn
                go_wp2
                go_ret2
                exact ⟨.inl rfl, rfl⟩
              · have hlt : t < n := by omega
                have hct := HDAT.out t hlt
                obtain ⟨y, hy⟩ : ∃ y, bs t = y := ⟨_, rfl⟩
                have HY : Hid (bs t = y) := hy
                rw [hy] at hct
                have hz2 : (0 : Int) ≤ (t : Int) := by omega
                have hz3 : (t : Int) < (n : Int) := by omega
                clear hy htn
                by_cases hc : y = 101
                · have hyb : (y != 101) = false := by simp [hc]
                  have HC : Hid (bs t = 101) := HY.out.trans hc
                  have HII : Hid (bs p = 105) := hi
                  clear hc
                  go_wp2
                  go_ret2
                  refine ⟨.inr ⟨t + 1, ⟨HII.out, ?_⟩, hlt, rfl⟩, rfl⟩
                  have a1 := HT.out
                  have a2 := HS.out
                  have a3 := HS1.out
                  cases neg with
                  | false =>
                    simp at a2
                    obtain rfl : s = p + 1 := by omega
                    exact .inl ⟨k, ⟨by omega, HDG.out, fun h => (HBD.out trivial h).1⟩, by rw [a1]; exact HC.out, by omega⟩
                  | true =>
                    simp at a2
                    obtain rfl : s = p + 2 := by omega
                    exact .inr ⟨k, by rw [a3]; exact (HN.out rfl).2, ⟨by omega, HDG.out, fun h => (HBD.out trivial h).1⟩, fun h => absurd (HBD.out trivial h).2 (by simp), by rw [a1]; exact HC.out, by omega⟩
                · have hyb : (y != 101) = true := by simp [hc]
                  clear hc
                  go_wp2
                  go_ret2
                  exact ⟨.inl rfl, rfl⟩
            · go_wp2
              go_ret2
              exact ⟨.inl rfl, rfl⟩
end Go.Proofs.Qxb6609549aFmt.Dec
