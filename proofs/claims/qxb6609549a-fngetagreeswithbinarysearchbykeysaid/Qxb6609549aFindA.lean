/- FnGetAgreesWithBinarySearchByKey: the order of strings by their bytes, zzCompare, byKey. -/
import Derived.Test.Qxb6609549aGetB
import Derived.Lib.Bytealg
namespace Go.Proofs.Qxb6609549a.Get
open Go.RowKit

/-! ### The order -/
theorem cmp_refl (a : List UInt8) : Lib.compareBytes a a = 0 := by
  induction a with
  | nil => rfl
  | cons x a ih => simp [Lib.compareBytes, ih, UInt8.lt_irrefl]
theorem cmp_eq_zero : ∀ (a b : List UInt8), Lib.compareBytes a b = 0 → a = b
  | [], [], _ => rfl
  | [], _ :: _, h => by simp [Lib.compareBytes] at h
  | _ :: _, [], h => by simp [Lib.compareBytes] at h
  | x :: a, y :: b, h => by
    unfold Lib.compareBytes at h
    by_cases h1 : x < y
    · simp [h1] at h
    · by_cases h2 : y < x
      · simp [h1, h2] at h
      · simp only [h1, h2, if_false] at h
        have e : x = y := UInt8.le_antisymm (UInt8.not_lt.1 h2) (UInt8.not_lt.1 h1)
        rw [e, cmp_eq_zero a b h]
theorem cmp_flip : ∀ (a b : List UInt8), Lib.compareBytes b a = - Lib.compareBytes a b
  | [], [] => rfl
  | [], _ :: _ => rfl
  | _ :: _, [] => rfl
  | x :: a, y :: b => by
    unfold Lib.compareBytes
    by_cases h1 : x < y
    · have h2 : ¬ y < x := UInt8.not_lt.2 (UInt8.le_of_lt h1)
      simp [h1, h2]
    · by_cases h2 : y < x
      · simp [h1, h2]
      · simp [h1, h2, cmp_flip a b]
theorem cmp_trans : ∀ (a b c : List UInt8), Lib.compareBytes a b < 0 → Lib.compareBytes b c < 0 → Lib.compareBytes a c < 0
  | [], [], _, h, _ => by simp [Lib.compareBytes] at h
  | [], _ :: _, [], _, h => by simp [Lib.compareBytes] at h
  | [], _ :: _, _ :: _, _, _ => by simp [Lib.compareBytes]
  | _ :: _, [], _, h, _ => by simp [Lib.compareBytes] at h
  | _ :: _, _ :: _, [], _, h => by simp [Lib.compareBytes] at h
  | x :: a, y :: b, z :: c, h1, h2 => by
    have ih := cmp_trans a b c
    unfold Lib.compareBytes at h1 h2 ⊢
    by_cases xy : x < y
    · by_cases yz : y < z
      · simp [UInt8.lt_trans xy yz]
      · by_cases zy : z < y
        · simp [yz, zy] at h2
        · have e : y = z := UInt8.le_antisymm (UInt8.not_lt.1 zy) (UInt8.not_lt.1 yz)
          subst e
          simp [xy]
    · by_cases yx : y < x
      · simp [xy, yx] at h1
      · have e : x = y := UInt8.le_antisymm (UInt8.not_lt.1 yx) (UInt8.not_lt.1 xy)
        subst e
        by_cases yz : x < z
        · simp [yz]
        · by_cases zy : z < x
          · simp [yz, zy] at h2
          · simp only [xy, yz, zy, if_false] at h1 h2 ⊢
            exact ih h1 h2
theorem cmp_drop : ∀ (k : Nat) (a b : List UInt8), a.take k = b.take k → k ≤ a.length → k ≤ b.length → Lib.compareBytes a b = Lib.compareBytes (a.drop k) (b.drop k)
  | 0, a, b, _, _, _ => by simp
  | k + 1, [], _, _, h, _ => by simp at h
  | k + 1, _ :: _, [], _, _, h => by simp at h
  | k + 1, x :: a, y :: b, h, ha, hb => by
    simp only [List.take_succ_cons, List.cons.injEq] at h
    obtain ⟨rfl, h⟩ := h
    simp only [List.drop_succ_cons]
    rw [← cmp_drop k a b h (by simpa using ha) (by simpa using hb)]
    simp [Lib.compareBytes, UInt8.lt_irrefl]
theorem cmp_cases (a b : List UInt8) : Lib.compareBytes a b = -1 ∨ Lib.compareBytes a b = 0 ∨ Lib.compareBytes a b = 1 := by
  induction a generalizing b with
  | nil => cases b <;> simp [Lib.compareBytes]
  | cons x a ih =>
    cases b with
    | nil => simp [Lib.compareBytes]
    | cons y b =>
      unfold Lib.compareBytes
      by_cases h1 : x < y
      · simp [h1]
      · by_cases h2 : y < x
        · simp [h1, h2]
        · simp only [h1, h2, if_false]; exact ih b

/-- The bytes of a string. -/
def cmpS (a b : ByteArray) : Int := Lib.compareBytes a.data.toList b.data.toList
theorem cmpS_at_lt {a b : ByteArray} {k : Nat} (h : a.data.toList.take k = b.data.toList.take k) (ha : k < a.size) (hb : k < b.size) (hlt : a[k].toNat < b[k].toNat) : cmpS a b = -1 := by
  unfold cmpS
  rw [cmp_drop k _ _ h (by simp; omega) (by simp; omega), List.drop_eq_getElem_cons (l := a.data.toList) (i := k) (by simpa using ha), List.drop_eq_getElem_cons (l := b.data.toList) (i := k) (by simpa using hb)]
  unfold Lib.compareBytes
  rw [if_pos]
  exact UInt8.lt_iff_toNat_lt.2 hlt
theorem cmpS_at_gt {a b : ByteArray} {k : Nat} (h : a.data.toList.take k = b.data.toList.take k) (ha : k < a.size) (hb : k < b.size) (hlt : b[k].toNat < a[k].toNat) : cmpS a b = 1 := by
  unfold cmpS
  rw [cmp_drop k _ _ h (by simp; omega) (by simp; omega), List.drop_eq_getElem_cons (l := a.data.toList) (i := k) (by simpa using ha), List.drop_eq_getElem_cons (l := b.data.toList) (i := k) (by simpa using hb)]
  unfold Lib.compareBytes
  rw [if_neg, if_pos]
  · exact UInt8.lt_iff_toNat_lt.2 hlt
  · intro hh
    have := UInt8.lt_iff_toNat_lt.1 hh
    have e1 : a.data.toList[k]'(by simpa using ha) = a[k] := rfl
    have e2 : b.data.toList[k]'(by simpa using hb) = b[k] := rfl
    rw [e1, e2] at this
    omega
theorem take_snoc (s : ByteArray) (k : Nat) (h : k < s.size) : s.data.toList.take (k + 1) = s.data.toList.take k ++ [s[k]] := by
  rw [List.take_succ_eq_append_getElem (by simpa using h)]; rfl
theorem cmpS_end {a b : ByteArray} {k : Nat} (h : a.data.toList.take k = b.data.toList.take k) (hk : k = min a.size b.size) : cmpS a b = if a.size < b.size then -1 else if b.size < a.size then 1 else 0 := by
  unfold cmpS
  rw [cmp_drop k _ _ h (by simp; omega) (by simp; omega)]
  by_cases h1 : a.size < b.size
  · rw [if_pos h1]
    have e1 : a.data.toList.drop k = [] := List.drop_eq_nil_of_le (by simp; omega)
    have hb : k < b.data.toList.length := by simp; omega
    rw [e1, List.drop_eq_getElem_cons hb]
    rfl
  · rw [if_neg h1]
    by_cases h2 : b.size < a.size
    · rw [if_pos h2]
      have e1 : b.data.toList.drop k = [] := List.drop_eq_nil_of_le (by simp; omega)
      have ha : k < a.data.toList.length := by simp; omega
      rw [e1, List.drop_eq_getElem_cons ha]
      rfl
    · rw [if_neg h2]
      rw [List.drop_eq_nil_of_le (by simp; omega), List.drop_eq_nil_of_le (by simp; omega)]
      rfl
theorem toList_beq (a b : ByteArray) : (a.toList == b.toList) = decide (cmpS a b = 0) := by
  rw [Bool.eq_iff_iff]
  simp only [beq_iff_eq, decide_eq_true_eq, ByteArray.toList_eq]
  constructor
  · intro h; unfold cmpS; rw [h]; exact cmp_refl _
  · intro h; exact cmp_eq_zero _ _ h

/-! ### strings.Compare, byKey -/
theorem native_any (a b : ByteArray) (w : World) : Calls Try.prog 20 #[.string a, .string b] w fun e w' => e = .returned (.int .i64 (cmpS a b)) ∧ w' = w := by
  go_enter Try.func20, Try.ntmps20
  go_wp2
  rw [run_callFunc_extern Try.func21 (by kernel_rfl) (by kernel_rfl) (by kernel_rfl) (e := Extern.BytealgCompare.compare) (by kernel_rfl), Lib.run_compareString]
  simp only [Result.andThen]
  rw [Oper.upon_value]
  go_wp2
  go_ret
  exact ⟨rfl, rfl⟩
theorem compare_any (a b : ByteArray) (w : World) : Calls Try.prog 19 #[.string a, .string b] w fun e w' => e = .returned (.int .i64 (cmpS a b)) ∧ w' = w := by
  go_enter Try.func19, Try.ntmps19
  go_wp2_with (go_at_call 20; refine (native_any _ _ _).mono ?_; rintro e w' ⟨rfl, rfl⟩)
  go_ret
  exact ⟨rfl, rfl⟩
theorem bykey_any (a b va vb : ByteArray) (w : World) :
    Calls Try.prog 18 #[.agg #[.string a, .iface 9 (.string va)], .agg #[.string b, .iface 9 (.string vb)]] w fun e w' => e = .returned (.int .i64 (cmpS a b)) ∧ Below w.heap.size w w' := by
  go_enter Try.func18, Try.ntmps18
  go_wp2_with (go_at_call 19; refine (compare_any _ _ _).mono ?_; rintro e w' ⟨rfl, rfl⟩)
  go_ret
  exact ⟨rfl, ((Below.refl _ _).alloc (Nat.le_refl _) _).alloc (by simp) _⟩
theorem zbykey_any (a b va vb : ByteArray) (w : World) :
    Calls Try.prog 14 #[.agg #[.string a, .iface 9 (.string va)], .agg #[.string b, .iface 9 (.string vb)]] w fun e w' => e = .returned (.int .i64 (cmpS a b)) ∧ Below w.heap.size w w' := by
  go_enter Try.func14, Try.ntmps14
  go_wp2_with (go_at_call 18; refine (bykey_any _ _ _ _ _).mono ?_; rintro e w' ⟨rfl, hb⟩)
  go_ret
  exact ⟨rfl, (((Below.refl _ _).alloc (Nat.le_refl _) _).alloc (by simp) _).trans (hb.mono (by simp; omega))⟩

/-! ### zzCompare -/
theorem drew3 (w : World) (a b c : Nat) : ∃ j, ((w.drewN a).drewN b).drewN c = w.drewN j := ⟨a + (b + c), by rw [World.drewN_drewN, World.drewN_drewN]⟩

set_option maxHeartbeats 1000000 in
theorem zcompare_any (a b : ByteArray) (w : World) (ha : a.size ≤ maxLen) :
    Calls Try.prog 13 #[.string a, .string b] w fun e w' => e = .returned (.int .i64 (cmpS a b)) ∧ ∃ m, w' = w.drewN m := by
  unfold maxLen at ha
  obtain ⟨n, hn⟩ : ∃ n, min a.size b.size = n := ⟨_, rfl⟩
  have hna : n ≤ a.size := by omega
  have hnb : n ≤ b.size := by omega
  have HN : Hid (min a.size b.size = n) := hn
  clear hn
  go_enter Try.func13, Try.ntmps13
  go_wp2_with (go_at_call 9; refine (min_nat a.size b.size n _ HN.out).mono ?_; rintro e w' ⟨rfl, rfl⟩)
  go_loopw [6] (fun i wr => ∃ k : Nat, k ≤ n ∧ i = .int .i64 k ∧ a.data.toList.take k = b.data.toList.take k ∧ ∃ m, wr = w.drewN m) (fun i _ => n - (intOf i).toNat)
  case atStart => exact ⟨0, Nat.zero_le _, rfl, by simp, 0, rfl⟩
  case round =>
    obtain ⟨k, hk, rfl, htk, m, rfl⟩ := hrel
    have HT : Hid (a.data.toList.take k = b.data.toList.take k) := htk
    clear htk
    by_cases hlt : k < n
    · have hka : k < a.size := by omega
      have hkb : k < b.size := by omega
      have hz0 : (0 : Int) ≤ (k : Int) := by omega
      have hza : (k : Int) < (a.size : Int) := by omega
      have hzb : (k : Int) < (b.size : Int) := by omega
      by_cases heq : a[k].toNat = b[k].toNat
      · have hne : ((a[k].toNat : Int) != (b[k].toNat : Int)) = false := by simp [heq]
        have HE : Hid (a[k].toNat = b[k].toNat) := heq
        clear heq
        go_wp2_with fail
        go_quiet (fail)
        go_wp2
        go_roundw
        case rel =>
          refine ⟨k + 1, by omega, by go_num, ?_, _, rfl⟩
          rw [take_snoc a k hka, take_snoc b k hkb, HT.out, UInt8.toNat.inj HE.out]
        case measure => simp [intOf]; omega
      · have hne : ((a[k].toNat : Int) != (b[k].toNat : Int)) = true := by simp; omega
        by_cases hl : a[k].toNat < b[k].toNat
        · go_wp2_with fail
          go_quiet (fail)
          go_wp2_with fail
          go_quiet (fail)
          go_wp2
          go_ret
          exact ⟨by rw [cmpS_at_lt HT.out hka hkb hl]; rfl, drew3 _ _ _ _⟩
        · have hg : b[k].toNat < a[k].toNat := by omega
          clear hl
          go_wp2_with fail
          go_quiet (fail)
          go_wp2_with fail
          go_quiet (fail)
          go_wp2
          go_ret
          exact ⟨by rw [cmpS_at_gt HT.out hka hkb hg]; rfl, drew3 _ _ _ _⟩
    · have hkn : n = k := by omega
      subst hkn
      have he := cmpS_end HT.out HN.out.symm
      have HE : Hid _ := he
      clear he hlt
      by_cases h1 : a.size < b.size
      · go_wp2
        go_ret
        exact ⟨by rw [HE.out, if_pos h1]; rfl, m, rfl⟩
      · by_cases h2 : b.size < a.size
        · have h1' : b.size ≤ a.size := by omega
          clear h1
          go_wp2
          go_ret
          exact ⟨by rw [HE.out, if_neg (by omega), if_pos h2]; rfl, m, rfl⟩
        · have h1' : b.size ≤ a.size := by omega
          have h2' : a.size ≤ b.size := by omega
          clear h1 h2
          go_wp2
          go_ret
          exact ⟨by rw [HE.out, if_neg (by omega), if_neg (by omega)]; rfl, m, rfl⟩
end Go.Proofs.Qxb6609549a.Get
