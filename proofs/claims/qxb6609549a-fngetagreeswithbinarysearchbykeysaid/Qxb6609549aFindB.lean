/- The law FnGetAgreesWithBinarySearchByKey (4). -/
import Derived.Test.Qxb6609549aFindA
namespace Go.Proofs.Qxb6609549a.Get
open Go.RowKit

/-! ### The plain side -/
def Asc (K : Nat → ByteArray) (n : Nat) : Prop := ∀ i j, i < j → j < n → cmpS (K i) (K j) < 0
theorem cmpS_trans {a b c : ByteArray} (h : cmpS a b < 0) (k : cmpS b c < 0) : cmpS a c < 0 := cmp_trans _ _ _ h k
theorem cmpS_flip (a b : ByteArray) : cmpS b a = - cmpS a b := cmp_flip _ _
theorem asc_of {K : Nat → ByteArray} {n : Nat} (h : ∀ j, j + 1 < n → cmpS (K j) (K (j + 1)) < 0) : Asc K n := by
  intro i j hij hj
  induction j with
  | zero => omega
  | succ j ih =>
    by_cases e : i = j
    · subst e; exact h i hj
    · exact cmpS_trans (ih (by omega) (by omega)) (h j hj)
theorem below_mid {K : Nat → ByteArray} {n m : Nat} {key : ByteArray} (ha : Asc K n) (hm : m < n) (h : cmpS (K m) key < 0) : ∀ i, i < m + 1 → cmpS (K i) key < 0 := by
  intro i hi
  by_cases e : i = m
  · subst e; exact h
  · exact cmpS_trans (ha i m (by omega) hm) h
theorem above_mid {K : Nat → ByteArray} {n m : Nat} {key : ByteArray} (ha : Asc K n) (h : 0 < cmpS (K m) key) : ∀ i, m ≤ i → i < n → 0 < cmpS (K i) key := by
  intro i hi hn
  by_cases e : i = m
  · subst e; exact h
  · have h1 : cmpS key (K m) < 0 := by rw [cmpS_flip]; omega
    have h2 := cmpS_trans h1 (ha m i (by omega) hn)
    rw [cmpS_flip] at h2
    omega
theorem hit_of {K : Nat → ByteArray} {m : Nat} {key : ByteArray} (h : cmpS (K m) key = 0) : ((K m).toList == key.toList) = true := by rw [toList_beq]; simpa using h
theorem miss_of {K : Nat → ByteArray} {m : Nat} {key : ByteArray} (h : cmpS (K m) key ≠ 0) : ((K m).toList == key.toList) = false := by rw [toList_beq]; simpa using h
theorem before_of {K : Nat → ByteArray} {n m : Nat} {key : ByteArray} (ha : Asc K n) (hm : m < n) (h : cmpS (K m) key = 0) : ∀ j, j < m → ((K j).toList == key.toList) = false := by
  intro j hj
  refine miss_of fun h0 => ?_
  have h1 := ha j m hj hm
  have e1 : (K m).data.toList = key.data.toList := cmp_eq_zero _ _ h
  have e2 : (K j).data.toList = key.data.toList := cmp_eq_zero _ _ h0
  unfold cmpS at h1
  rw [e1, e2, cmp_refl] at h1
  omega

/-- What the binary search comes to. -/
def Found (K : Nat → ByteArray) (n : Nat) (key : ByteArray) (q : Int) : Prop := (q = -1 ∧ ∀ i, i < n → cmpS (K i) key ≠ 0) ∨ ∃ m : Nat, m < n ∧ q = m ∧ cmpS (K m) key = 0


set_option maxHeartbeats 4000000 in
theorem bytes12 (a0 : Option Addr) (l0 c0 : Nat) (K : Nat → ByteArray) (a1 : Option Addr) (l1 c1 : Nat) (V : Nat → ByteArray) (key : ByteArray) (w : World) (h0 : StrRow w a0 l0 K) (h1 : StrRow w a1 l1 V) (hk : key.size ≤ maxLen) :
    Calls Try.prog 12 #[.slice a0 l0 c0, .slice a1 l1 c1, .string key] w fun e w' => SomeBool e ∧ w = w' := by
  have hl0 := h0.le
  have hl1 := h1.le
  unfold maxLen at hl0 hl1 hk
  have H0 : Hid (StrRow w a0 l0 K) := h0
  have H1 : Hid (StrRow w a1 l1 V) := h1
  clear h0 h1
  by_cases hb0 : l0 ≤ 1048576
  · go_enter Try.func12, Try.ntmps12
    go_upto_block 0 with fail
    go_cut [7] (fun z wx => ∃ n : Int, z = .int .i64 n ∧ 0 ≤ n ∧ n ≤ 1048576 ∧ w = wx)
    case first =>
      by_cases hl : 0 < l0
      · obtain ⟨b, o, rfl, hb, hc⟩ := H0.out.pos hl
        have hS := H0.out.each
        clear H0
        go_wp2_with fail
        go_loop [7, 8] (fun t i => ∃ (k : Nat) (n : Int), k ≤ l0 ∧ i = .int .i64 k ∧ t = .int .i64 n ∧ 0 ≤ n ∧ n ≤ 1048576) (fun _ i => l0 - (intOf i).toNat)
        case atStart => exact ⟨0, _, Nat.zero_le _, rfl, rfl, by omega, by omega⟩
        case round =>
          obtain ⟨k, n, hk, rfl, rfl, hn0, hn1⟩ := hrel
          by_cases hlt : k < l0
          · have hcx := hc k hlt
            have hsz := hS k hlt
            unfold maxLen at hsz
            clear hS hc
            by_cases h1 : (K k).size ≤ 1048576
            · by_cases h2 : n + (K k).size ≤ 1048576
              · go_wp2
                go_round
                case rel => exact ⟨k + 1, n + (K k).size, by omega, by go_num, rfl, by omega, by omega⟩
                case measure => simp [intOf]; omega
              · have h2' : 1048576 < n + ((K k).size : Int) := by omega
                clear h2
                go_wp2
                go_ret
                exact ⟨someBool _, rfl⟩
            · have h1' : 1048576 < ((K k).size : Int) := by omega
              clear h1
              go_wp2
              go_ret
              exact ⟨someBool _, rfl⟩
          · have hge : l0 ≤ k := by omega
            clear hlt hS hc
            go_wp2
            go_meet
            exact ⟨n, rfl, hn0, hn1, rfl⟩
      · have e0 : l0 = 0 := by omega
        subst e0
        clear H0
        go_wp2_with fail
        refine wp_loop_rounds 1 ?_
        rw [rounds_succ]
        go_wp2
        go_meet
        exact ⟨_, rfl, by omega, by omega, rfl⟩
    case rest =>
      obtain ⟨z, rfl, hz0, hz1, rfl⟩ := hcut
      clear H0
      by_cases hb1 : z + l1 ≤ 1048576
      · go_upto_block 2 with fail
        go_cut [7] (fun z wx => ∃ n : Int, z = .int .i64 n ∧ 0 ≤ n ∧ n ≤ 1048576 ∧ w = wx)
        case first =>
          by_cases hl : 0 < l1
          · obtain ⟨b, o, rfl, hb, hc⟩ := H1.out.pos hl
            have hS := H1.out.each
            clear H1
            go_wp2_with fail
            go_loop [7, 9] (fun t i => ∃ (k : Nat) (n : Int), k ≤ l1 ∧ i = .int .i64 k ∧ t = .int .i64 n ∧ 0 ≤ n ∧ n ≤ 1048576) (fun _ i => l1 - (intOf i).toNat)
            case atStart => exact ⟨0, _, Nat.zero_le _, rfl, rfl, by omega, by omega⟩
            case round =>
              obtain ⟨k, n, hk, rfl, rfl, hn0, hn1⟩ := hrel
              by_cases hlt : k < l1
              · have hcx := hc k hlt
                have hsz := hS k hlt
                unfold maxLen at hsz
                clear hS hc
                by_cases h1 : (V k).size ≤ 1048576
                · by_cases h2 : n + (V k).size ≤ 1048576
                  · go_wp2
                    go_round
                    case rel => exact ⟨k + 1, n + (V k).size, by omega, by go_num, rfl, by omega, by omega⟩
                    case measure => simp [intOf]; omega
                  · have h2' : 1048576 < n + ((V k).size : Int) := by omega
                    clear h2
                    go_wp2
                    go_ret
                    exact ⟨someBool _, rfl⟩
                · have h1' : 1048576 < ((V k).size : Int) := by omega
                  clear h1
                  go_wp2
                  go_ret
                  exact ⟨someBool _, rfl⟩
              · have hge : l1 ≤ k := by omega
                clear hlt hS hc
                go_wp2
                go_meet
                exact ⟨n, rfl, hn0, hn1, rfl⟩
          · have e0 : l1 = 0 := by omega
            subst e0
            clear H1
            go_wp2_with fail
            refine wp_loop_rounds 1 ?_
            rw [rounds_succ]
            go_wp2
            go_meet
            exact ⟨_, rfl, by omega, by omega, rfl⟩
        case rest =>
          obtain ⟨z, rfl, hz0, hz1, rfl⟩ := hcut
          clear H1
          go_wp2
          all_goals (go_ret; exact ⟨someBool _, rfl⟩)
      · have hb1' : 1048576 < z + (l1 : Int) := by omega
        clear hb1
        go_wp2
        all_goals (go_ret; exact ⟨someBool _, rfl⟩)
  · have hb0' : 1048576 < (l0 : Int) := by omega
    clear hb0
    go_enter Try.func12, Try.ntmps12
    go_wp2
    go_ret
    exact ⟨someBool _, rfl⟩

set_option maxRecDepth 100000 in
theorem law4_early (a0 : Option Addr) (l0 c0 : Nat) (K : Nat → ByteArray) (a1 : Option Addr) (l1 c1 : Nat) (V : Nat → ByteArray) (key : ByteArray) (w : World) (h0 : StrRow w a0 l0 K) (h1 : StrRow w a1 l1 V) (hk : key.size ≤ maxLen)
    (hne : 1048576 < l0 ∨ 1048576 < l1 ∨ 1048576 < key.size) :
    Calls Try.prog 4 #[.slice a0 l0 c0, .slice a1 l1 c1, .string key] w fun e w' => e = .returned (.bool true) ∧ Below w.heap.size w w' := by
  have hl0 := h0.le
  have hl1 := h1.le
  have hk' := hk
  unfold maxLen at hl0 hl1 hk'
  have hby := bytes12 a0 l0 c0 K a1 l1 c1 V key w h0 h1 hk
  have HBY : Hid _ := hby
  clear hby h0 h1
  go_enter Try.func4, Try.ntmps4
  go_wp2_with fail
  refine Calls.mono HBY.out ?_
  rintro e w' ⟨⟨ok, rfl⟩, rfl⟩
  go_wp2
  all_goals (go_ret; exact ⟨rfl, Below.refl _ _⟩)

set_option maxHeartbeats 8000000 in
set_option maxRecDepth 100000 in
theorem law4_main (b0 o0 l0 c0 : Nat) (K : Nat → ByteArray) (b1 o1 l1 c1 : Nat) (V : Nat → ByteArray) (key : ByteArray) (n : Nat) (w : World) (h0 : StrRow w (some ⟨b0, o0, none⟩) l0 K) (h1 : StrRow w (some ⟨b1, o1, none⟩) l1 V) (hk : key.size ≤ 1048576)
    (hl0 : l0 ≤ 1048576) (hl1 : l1 ≤ 1048576) (hmin : min l0 l1 = n) (hn : 0 < n)
    (hK : ∀ i, i < n → w.cell? ⟨b0, o0 + i, none⟩ = some (.string (K i))) (hb0 : b0 < w.heap.size) (hV : ∀ i, i < n → w.cell? ⟨b1, o1 + i, none⟩ = some (.string (V i))) (hb1 : b1 < w.heap.size) :
    Calls Try.prog 4 #[.slice (some ⟨b0, o0, none⟩) l0 c0, .slice (some ⟨b1, o1, none⟩) l1 c1, .string key] w fun e w' => e = .returned (.bool true) ∧ Below w.heap.size w w' := by
  obtain ⟨i0, hi, hz0, hz1, hz2⟩ := info_parts info29
  have HBY : Hid _ := bytes12 (some ⟨b0, o0, none⟩) l0 c0 K (some ⟨b1, o1, none⟩) l1 c1 V key w h0 h1 (by unfold maxLen; omega)
  have HC0 : Hid _ := count_any (some ⟨b0, o0, none⟩) l0 c0 K w h0
  have HC1 : Hid _ := count_any (some ⟨b1, o1, none⟩) l1 c1 V w h1
  have HMIN : Hid _ := min_nat l0 l1 n w hmin
  have hnb : n ≤ 1048576 := by omega
  have hn0 : n ≤ l0 := by omega
  have hn1 : n ≤ l1 := by omega
  have HSZ : Hid (∀ i, i < n → (K i).size ≤ maxLen) := fun i hi => h0.each i (by omega)
  clear h0 h1 hmin
  go_enter Try.func4, Try.ntmps4
  go_wp2_with fail
  refine Calls.mono HBY.out ?_
  rintro e w' ⟨⟨ok, rfl⟩, rfl⟩
  cases ok
  · go_wp2
    go_ret
    exact ⟨rfl, Below.refl _ _⟩
  · clear HBY
    go_wp2_with fail
    refine Calls.mono HC0.out ?_
    rintro e w' ⟨⟨t0, rfl, ht0, ht0'⟩, rfl⟩
    go_wp2_with fail
    refine Calls.mono HC1.out ?_
    rintro e w' ⟨⟨t1, rfl, ht1, ht1'⟩, rfl⟩
    clear HC0 HC1
    by_cases hsum : t0 + t1 + key.size ≤ 1048576
    · go_wp2_with fail
      refine Calls.mono HMIN.out ?_
      rintro e w' ⟨rfl, rfl⟩
      clear HMIN
      go_wp2_with fail
      go_loopw [8] (fun i wr => ∃ k : Nat, k + 1 ≤ n ∧ i = .int .i64 (k + 1 : Nat) ∧ (∀ j, j + 1 < k + 1 → cmpS (K j) (K (j + 1)) < 0) ∧ Below w.heap.size w wr) (fun i _ => n - (intOf i).toNat)
      case atStart => exact ⟨0, by omega, rfl, fun j hj => by omega, Below.refl _ _⟩
      case round =>
        obtain ⟨k, hk1, rfl, hasc, hbq⟩ := hrel
        have HAS : Hid (∀ j, j + 1 < k + 1 → cmpS (K j) (K (j + 1)) < 0) := hasc
        clear hasc
        by_cases hlt : k + 1 < n
        · have hck := (hbq.cell (p := ⟨b0, o0 + k, none⟩) hb0).trans (hK k (by omega))
          have hck1 := (hbq.cell (p := ⟨b0, o0 + (k + 1), none⟩) hb0).trans (hK (k + 1) hlt)
          have HBQ : Hid (Below w.heap.size w wr) := hbq
          clear hbq
          have HCMP : Hid (∀ w, Calls Try.prog 13 #[.string (K k), .string (K (k + 1))] w fun e w' => e = .returned (.int .i64 (cmpS (K k) (K (k + 1)))) ∧ ∃ m, w' = w.drewN m) := fun w => zcompare_any _ _ w (HSZ.out k (by omega))
          have hz0' : (0 : Int) ≤ (k : Int) := by omega
          have hzk0 : (k : Int) < (l0 : Int) := by omega
          have hzk1 : (k : Int) + 1 < (l0 : Int) := by omega
          have hw1 : IntKind.i64.wrap ((k : Int) + 1 - 1) = (k : Int) := by rw [IntKind.wrap_i64]; omega
          have hz1' : (0 : Int) ≤ (k : Int) + 1 := by omega
          have htn : ((k : Int) + 1).toNat = k + 1 := by omega
          have hw2 : IntKind.i64.wrap (k : Int) = (k : Int) := by rw [IntKind.wrap_i64]; omega
          obtain ⟨c, hc⟩ : ∃ c, cmpS (K k) (K (k + 1)) = c := ⟨_, rfl⟩
          have HC : Hid (cmpS (K k) (K (k + 1)) = c) := hc
          rw [hc] at HCMP
          clear hc
          by_cases hneg : c < 0
          · go_wp2_with fail
            go_quiet ((go_at_call 13; exact Calls.quiet_of (HCMP.out _)))
            go_wp2
            go_roundw
            case rel =>
              refine ⟨k + 1, by omega, by go_num, fun j hj => ?_, below_drewN HBQ.out _⟩
              by_cases e : j = k
              · subst e; rw [HC.out]; exact hneg
              · exact HAS.out j (by omega)
            case measure => simp [intOf]; omega
          · have hneg' : 0 ≤ c := by omega
            clear hneg
            go_wp2_with fail
            go_quiet ((go_at_call 13; exact Calls.quiet_of (HCMP.out _)))
            go_wp2
            go_ret
            exact ⟨rfl, below_drewN HBQ.out _⟩
        · have hkn : n ≤ k + 1 := by omega
          have hasc : Asc K n := asc_of (fun j hj => HAS.out j (by omega))
          have HASC : Hid (Asc K n) := hasc
          have hbd' : Hid (Below w.heap.size w wr) := hbq
          have hqs := hbq.size
          clear hasc HAS HSZ hbq
          go_wp2_with (at_make; refine wpList_make_own _ rfl _ _ 27 rfl w.heap.size 29 i0 (.agg #[.string ⟨#[]⟩, .nilIface]) 2 Try.underlying27 hi hz0 hz1 .i64 .i64 _ n rfl rfl rfl (by rw [hz2]; omega) (by unfold maxLen; omega) hqs ?_; intro w1 hown1 hgrow1)
          obtain ⟨B, hB⟩ : ∃ B, w.heap.size = B := ⟨_, rfl⟩
          have hbw1 : Below B w w1 := by rw [← hB]; exact hbd'.out.grown hgrow1 hqs (fun k hk => by cases hk)
          rw [hB] at hown1 hb0 hb1
          clear hgrow1
          go_loopw [9, 10] (fun v i wr => ∃ k : Nat, k ≤ n ∧ i = .int .i64 k ∧ wr.ownsRow B 29 2 v k (ents K V k) ∧ Below B w wr) (fun _ i _ => n - (intOf i).toNat)
          case atStart => exact ⟨0, Nat.zero_le _, rfl, hown1, hbw1⟩
          case round =>
            clear hown1 hbw1
            obtain ⟨k, hk, rfl, hown, hbel⟩ := hrel
            by_cases hlt : k < n
            · have hck : wr.cell? ⟨b0, o0 + k, none⟩ = some (.string (K k)) := (hbel.cell hb0).trans (hK k hlt)
              have hcv : wr.cell? ⟨b1, o1 + k, none⟩ = some (.string (V k)) := (hbel.cell hb1).trans (hV k hlt)
              have hzk : (0 : Int) ≤ (k : Int) := by omega
              have hzk0 : (k : Int) < (l0 : Int) := by omega
              have hzk1 : (k : Int) < (l1 : Int) := by omega
              have hws : B ≤ wr.heap.size := by have := hbel.size; omega
              have lk := World.block_lt_of_cell? wr _ hck
              have lv := World.block_lt_of_cell? wr _ hcv
              have hrows : ∀ j, u9.ownBlock = some j → B ≤ j := fun j hj => (hown.lt j hj).1
              have ak : u9.ownBlock ≠ some b0 := fun e => by have := hrows _ e; omega
              have av : u9.ownBlock ≠ some b1 := fun e => by have := hrows _ e; omega
              have hnk := World.new_ne wr _ hck
              have hnv := World.new_ne wr _ hcv
              have HO : Hid (wr.ownsRow B 29 2 u9 k (ents K V k)) := hown
              have HBl : Hid (Below B w wr) := hbel
              have HRW : Hid (∀ j, u9.ownBlock = some j → B ≤ j) := hrows
              clear hown hbel hrows
              go_wp2_with fail
              go_region_held3 (fun w' => w'.cell? ⟨b0, o0 + k, none⟩ = some (.string (K k)) ∧ w'.cell? ⟨b1, o1 + k, none⟩ = some (.string (V k)))
                (first
                  | go_keep
                  | (go_split_ands
                     refine ⟨?_, ?_⟩
                     · (rw [hgrow.cell_far _ (by simp; omega) (Ne.symm ak)]; assumption)
                     · (rw [hgrow.cell_far _ (by simp; omega) (Ne.symm av)]; assumption)))
                (first
                  | (go_at_call 10; refine (entry_any _ _ _).mono ?_; rintro e w' ⟨rfl, rfl⟩)
                  | (refine step_append_lies _ (by rfl) _ _ _ (by rfl) B 29 i0 _ 2 32 Try.underlying27 hi hz0 hz1 hz2 rfl (by omega) u9 k (ents K V k) (by rfl) (((HO.out.alloc _).alloc _).drew) ⟨wr.heap.size + 1, 0, none⟩ 1 1 [.string (K k), .iface 9 (.string (V k))] (by rfl) (by rfl) (two_new wr _ (.string (K k)) (.iface 9 (.string (V k)))) (by simp [Value.oneCell']) (by omega) (by unfold maxLen; omega) (by omega) (by simp; omega) (wr.heap.size + 2) (by simp) ?_; intro g cap w2 hown2 hgrow hat hglt))
              go_wp2
              go_roundw
              case rel => exact ⟨k + 1, by omega, by go_num, hown2, (((HBl.out.alloc hws _).alloc (by simp; omega) _).drew).grown hgrow (by simp; omega) HRW.out⟩
              case measure => simp [intOf]; omega
            · have hkn : n = k := by omega
              subst hkn
              obtain ⟨g, cap, hv, hgb, hgl⟩ := hown.form hn
              subst hv
              have hent := entries_of hown hgl
              clear hown hlt
              have hwsz : B ≤ wr.heap.size := by have := hbel.size; omega
              obtain ⟨A, hA⟩ : ∃ A, wr.heap.size = A := ⟨_, rfl⟩
              rw [hA] at hgl hwsz
              have HBW : Hid (Below B w wr) := hbel
              clear hbel
              go_upto_block 4 with (go_at_call 10; refine (entry_any _ _ _).mono ?_; rintro e w' ⟨rfl, rfl⟩)
              obtain ⟨wp, hwp⟩ : ∃ wp, (wr.alloc (.cells #[.string key, .iface 9 (.string ⟨#[]⟩)] 29)).alloc (.cells #[.string key, .iface 9 (.string ⟨#[]⟩)] 29) = wp := ⟨_, rfl⟩
              rw [hwp]
              have hps : wp.heap.size = A + 2 := by rw [← hwp, ← hA]; simp
              have HP0 : Hid (wp.cell? ⟨A + 1, 0, none⟩ = some (.string key)) := by rw [← hwp, ← hA]; show _ = _; simp
              have HP1 : Hid (wp.cell? ⟨A + 1, 1, none⟩ = some (.iface 9 (.string ⟨#[]⟩))) := by rw [← hwp, ← hA]; show _ = _; simp
              have hbr : Below A wr wp := by rw [← hwp, ← hA]; exact ((Below.refl _ _).alloc (Nat.le_refl _) _).alloc (by simp) _
              have HEN : Hid (Entries wp g n K V) := ⟨by omega, fun i hi => ⟨(hbr.cell (by exact hgl)).trans (hent.2 i hi).1, (hbr.cell (by exact hgl)).trans (hent.2 i hi).2⟩⟩
              have HBP : Hid (Below B w wp) := HBW.out.trans (hbr.mono hwsz)
              clear hwp hent HBW hbr
              try rw [hA]
              clear hA
              go_cut [14] (fun p wx => ∃ q : Int, p = .int .i64 q ∧ Found K n key q ∧ Below wp.heap.size wp wx)
              case first =>
                go_wp2_with fail
                go_loopw [12, 13, 14] (fun lo hi p wx => ∃ l h : Nat, l ≤ h ∧ h ≤ n ∧ lo = .int .i64 l ∧ hi = .int .i64 h ∧ p = .int .i64 (-1) ∧ (∀ i, i < l → cmpS (K i) key < 0) ∧ (∀ i, h ≤ i → i < n → 0 < cmpS (K i) key) ∧ Below wp.heap.size wp wx) (fun lo hi _ _ => (intOf hi).toNat - (intOf lo).toNat)
                case atStart => exact ⟨0, n, Nat.zero_le _, Nat.le_refl _, rfl, rfl, rfl, fun i hi => by omega, fun i h1 h2 => by omega, Below.refl _ _⟩
                case round =>
                  obtain ⟨l, h, hlh, hhn, rfl, rfl, rfl, hlo, hhi, hbx⟩ := hrel
                  have HLO : Hid (∀ i, i < l → cmpS (K i) key < 0) := hlo
                  have HHI : Hid (∀ i, h ≤ i → i < n → 0 < cmpS (K i) key) := hhi
                  clear hlo hhi
                  have hgx : g < wr.heap.size := by have := hbx.size; omega
                  have hax : A + 1 < wr.heap.size := by have := hbx.size; omega
                  have HBX : Hid (Below wp.heap.size wp wr) := hbx
                  by_cases hlt : l < h
                  · have hmn : l + (h - l) / 2 < n := by omega
                    have hml : l ≤ l + (h - l) / 2 := by omega
                    have hmh : l + (h - l) / 2 < h := by omega
                    obtain ⟨e0, e1⟩ := HEN.out.2 (l + (h - l) / 2) hmn
                    have d0 : wr.cell? ⟨g, (l + (h - l) / 2) * 2, none⟩ = some (.string (K (l + (h - l) / 2))) := (hbx.cell (by show g < _; omega)).trans e0
                    have d1 : wr.cell? ⟨g, (l + (h - l) / 2) * 2 + 1, none⟩ = some (.iface 9 (.string (V (l + (h - l) / 2)))) := (hbx.cell (by show g < _; omega)).trans e1
                    have d2 : wr.cell? ⟨A + 1, 0, none⟩ = some (.string key) := (hbx.cell (by show A + 1 < _; omega)).trans HP0.out
                    have d3 : wr.cell? ⟨A + 1, 1, none⟩ = some (.iface 9 (.string ⟨#[]⟩)) := (hbx.cell (by show A + 1 < _; omega)).trans HP1.out
                    have hi0 : (0 : Int) ≤ (l : Int) + ((h : Int) - (l : Int)) / 2 := by omega
                    have hi1 : (l : Int) + ((h : Int) - (l : Int)) / 2 < (n : Int) := by omega
                    have hi2 : ((l : Int) + ((h : Int) - (l : Int)) / 2).toNat = l + (h - l) / 2 := by omega
                    obtain ⟨c, hc⟩ : ∃ c, cmpS (K (l + (h - l) / 2)) key = c := ⟨_, rfl⟩
                    have HC : Hid (cmpS (K (l + (h - l) / 2)) key = c) := hc
                    clear hc e0 e1
                    have hsx := hbx.size
                    go_wp2_with fail
                    go_region_held3 (fun w' => w'.cell? ⟨g, (l + (h - l) / 2) * 2, none⟩ = some (.string (K (l + (h - l) / 2))) ∧ w'.cell? ⟨g, (l + (h - l) / 2) * 2 + 1, none⟩ = some (.iface 9 (.string (V (l + (h - l) / 2)))) ∧ w'.cell? ⟨A + 1, 0, none⟩ = some (.string key) ∧ w'.cell? ⟨A + 1, 1, none⟩ = some (.iface 9 (.string ⟨#[]⟩)))
                      (first | go_keep | exact ⟨(hbc.cell (by exact hgx)).trans d0, (hbc.cell (by exact hgx)).trans d1, (hbc.cell (by exact hax)).trans d2, (hbc.cell (by exact hax)).trans d3⟩)
                      (first | (go_at_call 14; refine (zbykey_any _ _ _ _ _).mono ?_; rintro e w4 ⟨rfl, hbc⟩))
                    rw [HC.out]
                    clear hbx
                    rcases (show c = 0 ∨ c < 0 ∨ 0 < c from by omega) with hc0 | hc0 | hc0
                    · have hcb : (c == 0) = true := by simp [hc0]
                      have HC0 : Hid (c = 0) := hc0
                      clear hc0
                      go_wp2
                      go_meet
                      exact ⟨_, rfl, .inr ⟨l + (h - l) / 2, hmn, by omega, by rw [HC.out]; exact HC0.out⟩, HBX.out.trans (Below.trans (Below.refl _ _).drew (hbc.mono (by simpa using hsx)))⟩
                    · have hcb : (c == 0) = false := by simp; omega
                      go_wp2
                      go_roundw
                      case rel => exact ⟨l + (h - l) / 2 + 1, h, by omega, hhn, by go_num, rfl, rfl, below_mid HASC.out hmn (by rw [HC.out]; exact hc0), HHI.out, HBX.out.trans (Below.trans (Below.refl _ _).drew (hbc.mono (by simpa using hsx)))⟩
                      case measure => simp [intOf]; omega
                    · have hcb : (c == 0) = false := by simp; omega
                      go_wp2
                      go_roundw
                      case rel => exact ⟨l, l + (h - l) / 2, hml, by omega, rfl, by go_num, rfl, HLO.out, above_mid HASC.out (by rw [HC.out]; exact hc0), HBX.out.trans (Below.trans (Below.refl _ _).drew (hbc.mono (by simpa using hsx)))⟩
                      case measure => simp [intOf]; omega
                  · have hge : h ≤ l := by omega
                    clear hlt hbx
                    go_wp2
                    go_meet
                    refine ⟨-1, rfl, .inl ⟨rfl, fun i hi => ?_⟩, HBX.out⟩
                    by_cases e : i < l
                    · have := HLO.out i e; omega
                    · have := HHI.out i (by omega) hi; omega
              case rest =>
                obtain ⟨q, rfl, hfound, hbx⟩ := hcut
                have hsx := hbx.size
                have hbc : Below B w wc := HBP.out.trans (hbx.mono (by omega))
                have hent : Entries wc g n K V := ⟨by omega, fun i hi => ⟨(hbx.cell (by show g < _; omega)).trans (HEN.out.2 i hi).1, (hbx.cell (by show g < _; omega)).trans (HEN.out.2 i hi).2⟩⟩
                have hgx : g < wc.heap.size := by omega
                rcases hfound with ⟨rfl, hno⟩ | ⟨m, hm, rfl, hz⟩
                · have HZ : Hid _ := zget_miss (some ⟨g, 0, none⟩) g n cap K V key wc (by omega) (fun _ => rfl) hent (fun j hj => miss_of (hno j hj))
                  have HBC : Hid (Below B w wc) := hbc
                  have hbs : B ≤ wc.heap.size := by omega
                  clear hent hbx hno hbc HEN HBP HP0 HP1 HASC
                  go_wp2_with fail
                  refine Calls.mono HZ.out ?_
                  rintro e w5 ⟨rfl, hb5⟩
                  clear HZ
                  go_wp2
                  go_ret
                  exact ⟨rfl, by rw [hB]; exact HBC.out.trans (hb5.mono hbs)⟩
                · have HZ : Hid _ := zget_hit g n cap K V key m wc (by omega) hent hm (hit_of hz) (before_of HASC.out hm hz)
                  have HBC : Hid (Below B w wc) := hbc
                  have hbs : B ≤ wc.heap.size := by omega
                  have HV : Hid (w.cell? ⟨b1, o1 + m, none⟩ = some (.string (V m))) := hV m hm
                  clear hent hbx hbc HEN HBP HP0 HP1 HASC hK hV hz
                  go_wp2_with fail
                  refine Calls.mono HZ.out ?_
                  rintro e w5 ⟨rfl, hb5⟩
                  clear HZ
                  have hcv : w5.cell? ⟨b1, o1 + m, none⟩ = some (.string (V m)) := (hb5.cell (by show b1 < _; omega)).trans ((HBC.out.cell hb1).trans HV.out)
                  have hz0' : (0 : Int) ≤ (m : Int) := by omega
                  have hz1' : (m : Int) < (l1 : Int) := by omega
                  have HB5 : Hid (Below B w w5) := HBC.out.trans (hb5.mono hbs)
                  clear hb5
                  go_wp2
                  go_ret
                  exact ⟨rfl, by rw [hB]; exact HB5.out⟩
    · have hsum' : 1048576 < t0 + t1 + (key.size : Int) := by omega
      clear hsum
      go_wp2
      go_ret
      exact ⟨rfl, Below.refl _ _⟩
end Go.Proofs.Qxb6609549a.Get
