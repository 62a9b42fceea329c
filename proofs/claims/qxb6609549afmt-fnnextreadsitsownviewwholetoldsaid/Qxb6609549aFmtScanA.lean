/- The scanner's callees: zzStringAt (13). -/
import Derived.Test.Qxb6609549aFmtVal
namespace Go.Proofs.Qxb6609549aFmt.Dec
open Go.RowKit Go.ChangeShapes Go.WideShapes

/-- What zzStringAt answers. -/
def StrAns (bs : Nat → Int) (n p : Nat) (e : Ending) : Prop :=
  e = .returned (.tuple #[.int .i64 0, .int .i64 0, .bool false]) ∨ ∃ k m q : Nat, StrAt bs p k m q ∧ q ≤ n ∧ e = .returned (.tuple #[.int .i64 (p + k + 1 : Nat), .int .i64 q, .bool true])

set_option maxHeartbeats 4000000 in
set_option maxRecDepth 100000 in
theorem stringAt_any (D n p : Nat) (bs : Nat → Int) (w : World) (hdat : ∀ i, i < n → w.cell? ⟨D, i, none⟩ = some (.int .u8 (bs i))) (hnb : n ≤ 1048576) (hp : p ≤ n) :
    Calls Tryf.prog 13 #[.slice (some ⟨D, 0, none⟩) n n, .int .i64 p] w fun e w' => StrAns bs n p e ∧ w = w' := by
  have HDAT : Hid (∀ i, i < n → w.cell? ⟨D, i, none⟩ = some (.int .u8 (bs i))) := hdat
  clear hdat
  go_enter Tryf.func13, Tryf.ntmps13
  go_upto_block 0 with fail
  go_cut [7] (fun q wx => w = wx ∧ ∃ k : Nat, q = .int .i64 (p + k : Nat) ∧ p + k ≤ n ∧ (∀ i, i < k → 48 ≤ bs (p + i) ∧ bs (p + i) ≤ 57) ∧ (p + k < n → bs (p + k) < 48 ∨ 57 < bs (p + k)))
  case first =>
    go_wp2_with fail
    go_loopw [7] (fun q wx => w = wx ∧ ∃ k : Nat, q = .int .i64 (p + k : Nat) ∧ p + k ≤ n ∧ Hid (∀ i, i < k → 48 ≤ bs (p + i) ∧ bs (p + i) ≤ 57)) (fun q _ => n - (intOf q).toNat)
    case atStart => exact ⟨rfl, 0, rfl, hp, fun i hi => by omega⟩
    case round =>
      obtain ⟨rfl, k, rfl, hk, HDG⟩ := hrel
      obtain ⟨t, ht⟩ : ∃ t, p + k = t := ⟨_, rfl⟩
      have HT : Hid (p + k = t) := ht
      rw [ht] at hk ⊢
      clear ht
      by_cases htn : t = n
      · subst htn
        go_wp2
        go_meet
        exact ⟨rfl, k, by rw [HT.out], by rw [HT.out]; exact Nat.le_refl _, HDG.out, fun h => by have := HT.out; omega⟩
      · have hlt : t < n := by omega
        have hcx := HDAT.out t hlt
        obtain ⟨x, hx⟩ : ∃ x, bs t = x := ⟨_, rfl⟩
        have HX : Hid (bs t = x) := hx
        rw [hx] at hcx
        have hz0 : (0 : Int) ≤ (t : Int) := by omega
        have hz1 : (t : Int) < (n : Int) := by omega
        clear hx htn
        by_cases h1 : x < 48
        · go_wp2
          go_meet
          exact ⟨rfl, k, by rw [HT.out], by rw [HT.out]; exact hk, HDG.out, fun _ => by rw [HT.out, HX.out]; exact .inl h1⟩
        · have h1' : 48 ≤ x := by omega
          clear h1
          by_cases h2 : 57 < x
          · go_wp2
            go_meet
            exact ⟨rfl, k, by rw [HT.out], by rw [HT.out]; exact hk, HDG.out, fun _ => by rw [HT.out, HX.out]; exact .inr h2⟩
          · have h2' : x ≤ 57 := by omega
            clear h2
            go_wp2
            go_roundw
            case rel => exact ⟨trivial, k + 1, by rw [← Nat.add_assoc, HT.out]; go_num, by have := HT.out; omega, fun i hi => by
              by_cases e : i = k
              · subst e; rw [HT.out, HX.out]; exact ⟨h1', h2'⟩
              · exact HDG.out i (by omega)⟩
            case measure => simp [intOf]; omega
  case rest =>
    obtain ⟨rfl, k, rfl, hk, hdg, hnd⟩ := hcut
    have HDG : Hid (∀ i, i < k → 48 ≤ bs (p + i) ∧ bs (p + i) ≤ 57) := hdg
    obtain ⟨t, ht⟩ : ∃ t, p + k = t := ⟨_, rfl⟩
    have HT : Hid (p + k = t) := ht
    rw [ht] at hk hnd ⊢
    clear hdg hnd ht
    by_cases hk0 : k = 0
    · have hb : ((t : Int) == (p : Int)) = true := by have := HT.out; simp; omega
      go_wp2
      go_ret3
      exact ⟨.inl rfl, rfl⟩
    · have hb : ((t : Int) == (p : Int)) = false := by have := HT.out; simp; omega
      have hkt : p < t := by have := HT.out; omega
      have hcp := HDAT.out p (by omega)
      obtain ⟨x, hx⟩ : ∃ x, bs p = x := ⟨_, rfl⟩
      have HX : Hid (bs p = x) := hx
      rw [hx] at hcp
      have hz0 : (0 : Int) ≤ (p : Int) := by omega
      have hz1 : (p : Int) < (n : Int) := by omega
      clear hx
      by_cases hl : x = 48 ∧ 1 < k
      · have hxb : (x == 48) = true := by simp [hl.1]
        have hdf : (1 : Int) < (t : Int) - (p : Int) := by have := HT.out; omega
        clear hl
        go_wp2
        go_ret3
        exact ⟨.inl rfl, rfl⟩
      · have HLD : Hid (bs p = 48 → k = 1) := fun h => by rw [HX.out] at h; have : ¬ 1 < k := fun h2 => hl ⟨h, h2⟩; omega
        go_upto_region 6 with fail
        go_cut [46] (fun c wx => c = .bool false ∧ w = wx)
        case first =>
          by_cases e : x = 48
          · have hxb : (x == 48) = true := by simp [e]
            have hdf : (t : Int) - (p : Int) ≤ 1 := by have := HT.out; have : ¬ 1 < k := fun h => hl ⟨e, h⟩; omega
            clear hl e
            go_wp2_with fail
            go_meet
            exact ⟨by rw [decide_eq_false (by omega)], rfl⟩
          · have hxb : (x == 48) = false := by simp [e]
            clear hl e
            go_wp2_with fail
            go_meet
            exact ⟨rfl, rfl⟩
        case rest =>
          obtain ⟨rfl, rfl⟩ := hcut
          clear hl
          by_cases htn : t = n
          · subst htn
            go_wp2
            go_ret3
            exact ⟨.inl rfl, rfl⟩
          · have hlt : t < n := by omega
            have hct := HDAT.out t hlt
            obtain ⟨y, hy⟩ : ∃ y, bs t = y := ⟨_, rfl⟩
            have HY : Hid (bs t = y) := hy
            rw [hy] at hct
            have hz2 : (0 : Int) ≤ (t : Int) := by omega
            have hz3 : (t : Int) < (n : Int) := by omega
            clear hy htn
            by_cases hc : y = 58
            · have hyb : (y != 58) = false := by simp [hc]
              obtain ⟨b, hb2⟩ : ∃ b, t + 1 = b := ⟨_, rfl⟩
              have hbi : (t : Int) + 1 = (b : Int) := by omega
              have HB : Hid (t + 1 = b) := hb2
              have hbn : b ≤ n := by omega
              have HY2 : Hid (bs t = 58) := HY.out.trans hc
              clear hc hb2
              go_wp2_with fail
              go_loopw [10, 11] (fun c i wx => w = wx ∧ ∃ j : Nat, j ≤ k ∧ i = .int .i64 (p + j : Nat) ∧ c = .int .i64 (num bs p j) ∧ num bs p j ≤ n - b) (fun _ i _ => t - (intOf i).toNat)
              case atStart => exact ⟨rfl, 0, Nat.zero_le _, rfl, rfl, Nat.zero_le _⟩
              case round =>
                obtain ⟨rfl, j, hj, rfl, rfl, hle⟩ := hrel
                by_cases hjk : j < k
                · obtain ⟨hx0, hx1⟩ := HDG.out j hjk
                  have hcx := HDAT.out (p + j) (by have := HT.out; omega)
                  have hst : num bs p (j + 1) = num bs p j * 10 + (bs (p + j) - 48).toNat := rfl
                  obtain ⟨z, hz⟩ : ∃ z, bs (p + j) = z := ⟨_, rfl⟩
                  obtain ⟨c, hc⟩ : ∃ c, num bs p j = c := ⟨_, rfl⟩
                  obtain ⟨y2, hy2⟩ : ∃ y2, num bs p (j + 1) = y2 := ⟨_, rfl⟩
                  obtain ⟨r, hr⟩ : ∃ r, p + j = r := ⟨_, rfl⟩
                  rw [hz] at hcx hx0 hx1 hst
                  rw [hc] at hst hle ⊢
                  rw [hy2] at hst
                  rw [hr] at hcx ⊢
                  have HYY : Hid (num bs p (j + 1) = y2) := hy2
                  have HR : Hid (p + j = r) := hr
                  have he : (c : Int) * 10 + (z - 48) = (y2 : Int) := by omega
                  have hw0 : (0 : Int) ≤ (r : Int) := by omega
                  have hw1 : (r : Int) < (n : Int) := by have := HT.out; omega
                  have hw2 : (r : Int) < (t : Int) := by have := HT.out; omega
                  clear hz hc hy2 hst hr
                  by_cases hgt : y2 ≤ n - b
                  · have hgi : (y2 : Int) ≤ (n : Int) - (b : Int) := by omega
                    go_wp2
                    go_roundw
                    case rel => exact ⟨trivial, j + 1, by omega, by rw [← Nat.add_assoc, HR.out]; go_num, by rw [HYY.out], by rw [HYY.out]; exact hgt⟩
                    case measure => simp [intOf]; omega
                  · have hgi : (n : Int) - (b : Int) < (y2 : Int) := by omega
                    clear hgt
                    go_wp2
                    go_ret3
                    exact ⟨.inl rfl, rfl⟩
                · have hjk2 : k = j := by omega
                  subst hjk2
                  have hpt : ((p + k : Nat) : Int) = (t : Int) := by rw [HT.out]
                  rw [hpt]
                  obtain ⟨c, hc⟩ : ∃ c, num bs p k = c := ⟨_, rfl⟩
                  have HC : Hid (num bs p k = c) := hc
                  rw [hc] at hle ⊢
                  clear hjk hpt hc
                  go_wp2
                  go_ret3
                  refine ⟨.inr ⟨k, c, p + k + 1 + c, ⟨⟨by omega, HDG.out, HLD.out⟩, by rw [HT.out]; exact HY2.out, HC.out, rfl⟩, ?_, ?_⟩, rfl⟩
                  · have := HT.out; have := HB.out; omega
                  · rw [HT.out, HB.out]; rfl
            · have hyb : (y != 58) = true := by simp [hc]
              clear hc
              go_wp2
              go_ret3
              exact ⟨.inl rfl, rfl⟩
end Go.Proofs.Qxb6609549aFmt.Dec
