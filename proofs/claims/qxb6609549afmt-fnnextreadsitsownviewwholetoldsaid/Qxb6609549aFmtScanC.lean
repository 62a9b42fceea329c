/- The scanner's callees: zzMin2 (18), zzCompareSpans (14). -/
import Derived.Test.Qxb6609549aFmtVal
namespace Go.Proofs.Qxb6609549aFmt.Dec
open Go.RowKit Go.ChangeShapes Go.WideShapes

theorem cmp_drop : ∀ (k : Nat) (a b : List UInt8), a.take k = b.take k → k ≤ a.length → k ≤ b.length → Lib.compareBytes a b = Lib.compareBytes (a.drop k) (b.drop k)
  | 0, a, b, _, _, _ => by simp
  | k + 1, [], _, _, h, _ => by simp at h
  | k + 1, _ :: _, [], _, _, h => by simp at h
  | k + 1, x :: a, y :: b, h, ha, hb => by
    simp only [List.take_succ_cons, List.cons.injEq] at h
    obtain ⟨rfl, h⟩ := h
    simp only [List.drop_succ_cons]
    rw [← cmp_drop k a b h (by simpa using ha) (by simpa using hb)]
    simp [Lib.compareBytes, UInt8.lt_irrefl]
theorem bytesOf_length (K : List Int) : (Lib.bytesOf K).length = K.length := by simp [Lib.bytesOf]
theorem u8_lt {x y : Int} (h0 : 0 ≤ x) (h1 : x ≤ 255) (h2 : 0 ≤ y) (h3 : y ≤ 255) (h : x < y) : x.toNat.toUInt8 < y.toNat.toUInt8 := by
  rw [UInt8.lt_iff_toNat_lt]
  simp
  omega
theorem ord_at_lt {K L : List Int} {k : Nat} {x y : Int} (h : K.take k = L.take k) (hx : K[k]? = some x) (hy : L[k]? = some y) (h0 : 0 ≤ x) (h1 : x ≤ 255) (h2 : 0 ≤ y) (h3 : y ≤ 255) (hlt : x < y) : ord K L = -1 := by
  obtain ⟨hk, rfl⟩ := List.getElem?_eq_some_iff.1 hx
  obtain ⟨hl, rfl⟩ := List.getElem?_eq_some_iff.1 hy
  unfold ord
  have ht : (Lib.bytesOf K).take k = (Lib.bytesOf L).take k := by simp only [Lib.bytesOf, ← List.map_take, h]
  rw [cmp_drop k _ _ ht (by rw [bytesOf_length]; omega) (by rw [bytesOf_length]; omega), List.drop_eq_getElem_cons (l := Lib.bytesOf K) (i := k) (by rw [bytesOf_length]; exact hk), List.drop_eq_getElem_cons (l := Lib.bytesOf L) (i := k) (by rw [bytesOf_length]; exact hl)]
  unfold Lib.compareBytes
  rw [if_pos]
  simp only [Lib.bytesOf, List.getElem_map]
  exact u8_lt h0 h1 h2 h3 hlt
theorem ord_at_gt {K L : List Int} {k : Nat} {x y : Int} (h : K.take k = L.take k) (hx : K[k]? = some x) (hy : L[k]? = some y) (h0 : 0 ≤ x) (h1 : x ≤ 255) (h2 : 0 ≤ y) (h3 : y ≤ 255) (hlt : y < x) : ord K L = 1 := by
  obtain ⟨hk, rfl⟩ := List.getElem?_eq_some_iff.1 hx
  obtain ⟨hl, rfl⟩ := List.getElem?_eq_some_iff.1 hy
  unfold ord
  have ht : (Lib.bytesOf K).take k = (Lib.bytesOf L).take k := by simp only [Lib.bytesOf, ← List.map_take, h]
  rw [cmp_drop k _ _ ht (by rw [bytesOf_length]; omega) (by rw [bytesOf_length]; omega), List.drop_eq_getElem_cons (l := Lib.bytesOf K) (i := k) (by rw [bytesOf_length]; exact hk), List.drop_eq_getElem_cons (l := Lib.bytesOf L) (i := k) (by rw [bytesOf_length]; exact hl)]
  have hgt := u8_lt h2 h3 h0 h1 hlt
  unfold Lib.compareBytes
  simp only [Lib.bytesOf, List.getElem_map]
  rw [if_neg (fun h => UInt8.lt_irrefl _ (UInt8.lt_trans h hgt)), if_pos hgt]
theorem ord_end {K L : List Int} {k : Nat} (h : K.take k = L.take k) (hk : k = min K.length L.length) : ord K L = if K.length < L.length then -1 else if L.length < K.length then 1 else 0 := by
  unfold ord
  have ht : (Lib.bytesOf K).take k = (Lib.bytesOf L).take k := by simp only [Lib.bytesOf, ← List.map_take, h]
  rw [cmp_drop k _ _ ht (by rw [bytesOf_length]; omega) (by rw [bytesOf_length]; omega)]
  by_cases h1 : K.length < L.length
  · rw [if_pos h1, List.drop_eq_nil_of_le (by rw [bytesOf_length]; omega), List.drop_eq_getElem_cons (l := Lib.bytesOf L) (i := k) (by rw [bytesOf_length]; omega)]
    rfl
  · rw [if_neg h1]
    by_cases h2 : L.length < K.length
    · have e9 : List.drop k (Lib.bytesOf L) = [] := List.drop_eq_nil_of_le (by rw [bytesOf_length]; omega)
      rw [if_pos h2, e9, List.drop_eq_getElem_cons (l := Lib.bytesOf K) (i := k) (by rw [bytesOf_length]; omega)]
      rfl
    · rw [if_neg h2, List.drop_eq_nil_of_le (by rw [bytesOf_length]; omega), List.drop_eq_nil_of_le (by rw [bytesOf_length]; omega)]
      rfl
theorem seg_take_succ {bs : Nat → Int} {o m k : Nat} (h : k < m) : (seg bs o m).take (k + 1) = (seg bs o m).take k ++ [bs (o + k)] := by
  have hl : k < (seg bs o m).length := by rw [seg_length]; exact h
  rw [List.take_succ_eq_append_getElem hl]
  congr 2
  have := seg_get bs o m k h
  rw [List.getElem?_eq_getElem hl] at this
  simpa using this

theorem min2_any (a b n : Nat) (w : World) (h : min a b = n) : Calls Tryf.prog 18 #[.int .i64 a, .int .i64 b] w fun e w' => e = .returned (.int .i64 n) ∧ w = w' := by
  go_enter Tryf.func18, Tryf.ntmps18
  by_cases h1 : a < b
  · go_wp2
    go_ret
    exact ⟨by rw [show n = a from by omega]; rfl, rfl⟩
  · have h2 : b ≤ a := by omega
    clear h1
    go_wp2
    go_ret
    exact ⟨by rw [show n = b from by omega]; rfl, rfl⟩

set_option maxHeartbeats 4000000 in
set_option maxRecDepth 100000 in
theorem spans_any (D n a la b lb : Nat) (bs : Nat → Int) (w : World) (hdat : ∀ i, i < n → w.cell? ⟨D, i, none⟩ = some (.int .u8 (bs i))) (hby : ∀ i, i < n → 0 ≤ bs i ∧ bs i ≤ 255) (hnb : n ≤ 1048576) (ha : a + la ≤ n) (hb : b + lb ≤ n) :
    Calls Tryf.prog 14 #[.slice (some ⟨D, 0, none⟩) n n, .int .i64 a, .int .i64 (a + la : Nat), .int .i64 b, .int .i64 (b + lb : Nat)] w fun e w' => e = .returned (.int .i64 (ord (seg bs a la) (seg bs b lb))) ∧ w = w' := by
  obtain ⟨m, hm⟩ : ∃ m, min la lb = m := ⟨_, rfl⟩
  have HM2 : Hid _ := min2_any la lb m w hm
  have HM : Hid (min la lb = m) := hm
  have HDAT : Hid (∀ i, i < n → w.cell? ⟨D, i, none⟩ = some (.int .u8 (bs i))) := hdat
  have HBY : Hid (∀ i, i < n → 0 ≤ bs i ∧ bs i ≤ 255) := hby
  obtain ⟨ae, hae⟩ : ∃ ae, a + la = ae := ⟨_, rfl⟩
  obtain ⟨be, hbe⟩ : ∃ be, b + lb = be := ⟨_, rfl⟩
  have e1 : (ae : Int) - (a : Int) = (la : Int) := by omega
  have e2 : (be : Int) - (b : Int) = (lb : Int) := by omega
  have hmi : m ≤ 1048576 := by omega
  rw [hae] at ha ⊢
  rw [hbe] at hb ⊢
  have HAE : Hid (a + la = ae) := hae
  have HBE : Hid (b + lb = be) := hbe
  clear hdat hby hm hae hbe
  go_enter Tryf.func14, Tryf.ntmps14
  go_wp2_with fail
  refine Calls.mono HM2.out ?_
  rintro e w' ⟨rfl, rfl⟩
  clear HM2
  go_wp2_with fail
  go_loopw [14] (fun i wx => w = wx ∧ ∃ j : Nat, j ≤ m ∧ i = .int .i64 j ∧ Hid ((seg bs a la).take j = (seg bs b lb).take j)) (fun i _ => m - (intOf i).toNat)
  case atStart => exact ⟨rfl, 0, Nat.zero_le _, rfl, by show _ = _; simp⟩
  case round =>
    obtain ⟨rfl, j, hj, rfl, HTK⟩ := hrel
    by_cases hlt : j < m
    · have hja : a + j < n := by have := HM.out; have := HAE.out; omega
      have hjb : b + j < n := by have := HM.out; have := HBE.out; omega
      have hcx := HDAT.out _ hja
      have hcy := HDAT.out _ hjb
      obtain ⟨x0, x1⟩ := HBY.out _ hja
      obtain ⟨y0, y1⟩ := HBY.out _ hjb
      have HKX : Hid ((seg bs a la)[j]? = some (bs (a + j))) := seg_get _ _ _ _ (by have := HM.out; omega)
      have HLY : Hid ((seg bs b lb)[j]? = some (bs (b + j))) := seg_get _ _ _ _ (by have := HM.out; omega)
      have HS1 : Hid _ := seg_take_succ (bs := bs) (o := a) (m := la) (k := j) (by have := HM.out; omega)
      have HS2 : Hid _ := seg_take_succ (bs := bs) (o := b) (m := lb) (k := j) (by have := HM.out; omega)
      obtain ⟨x, hx⟩ : ∃ x, bs (a + j) = x := ⟨_, rfl⟩
      obtain ⟨y, hy⟩ : ∃ y, bs (b + j) = y := ⟨_, rfl⟩
      rw [hx] at hcx x0 x1 HKX HS1
      rw [hy] at hcy y0 y1 HLY HS2
      obtain ⟨p, hp⟩ : ∃ p, a + j = p := ⟨_, rfl⟩
      obtain ⟨q, hq⟩ : ∃ q, b + j = q := ⟨_, rfl⟩
      rw [hp] at hcx hja
      rw [hq] at hcy hjb
      have hpi : (a : Int) + (j : Int) = (p : Int) := by omega
      have hqi : (b : Int) + (j : Int) = (q : Int) := by omega
      have hz0 : (0 : Int) ≤ (p : Int) := by omega
      have hz1 : (p : Int) < (n : Int) := by omega
      have hz2 : (0 : Int) ≤ (q : Int) := by omega
      have hz3 : (q : Int) < (n : Int) := by omega
      clear hx hy hp hq
      by_cases h1 : x < y
      · have hne : (x != y) = true := by simp; omega
        go_wp2
        go_ret
        exact ⟨by rw [ord_at_lt HTK.out HKX.out HLY.out x0 x1 y0 y1 h1]; rfl, rfl⟩
      · by_cases h2 : y < x
        · have hne : (x != y) = true := by simp; omega
          have hle : y ≤ x := by omega
          clear h1
          go_wp2
          go_ret
          exact ⟨by rw [ord_at_gt HTK.out HKX.out HLY.out x0 x1 y0 y1 h2]; rfl, rfl⟩
        · obtain rfl : x = y := by omega
          have hne : (x != x) = false := by simp
          clear h1 h2
          go_wp2
          go_roundw
          case rel => exact ⟨trivial, j + 1, by omega, by go_num, by show _ = _; rw [HS1.out, HS2.out, HTK.out]⟩
          case measure => simp [intOf]; omega
    · have hjm : m = j := by omega
      subst hjm
      have HOE : Hid _ := ord_end HTK.out (by rw [seg_length, seg_length]; exact HM.out.symm)
      rw [seg_length, seg_length] at HOE
      clear hlt
      by_cases h1 : la < lb
      · rw [if_pos h1] at HOE
        go_wp2
        go_ret
        exact ⟨by rw [HOE.out]; rfl, rfl⟩
      · rw [if_neg h1] at HOE
        by_cases h2 : lb < la
        · rw [if_pos h2] at HOE
          have h1' : lb ≤ la := by omega
          clear h1
          go_wp2
          go_ret
          exact ⟨by rw [HOE.out]; rfl, rfl⟩
        · rw [if_neg h2] at HOE
          obtain rfl : la = lb := by omega
          clear h1 h2
          go_wp2
          go_ret
          exact ⟨by rw [HOE.out]; rfl, rfl⟩
end Go.Proofs.Qxb6609549aFmt.Dec
