/- The law FnGetReturnsFirstEntryOfKey (3). -/
import Derived.Test.Qxb6609549aGetA
namespace Go.Proofs.Qxb6609549a.Get
open Go.RowKit

def ents (K V : Nat → ByteArray) : Nat → List Value
  | 0 => []
  | k + 1 => ents K V k ++ [.string (K k), .iface 9 (.string (V k))]
theorem ents_length (K V : Nat → ByteArray) (k : Nat) : (ents K V k).length = 2 * k := by
  induction k with
  | zero => rfl
  | succ k ih => simp [ents, ih]; omega
theorem ents_get (K V : Nat → ByteArray) (n i : Nat) (h : i < n) : (ents K V n)[2 * i]? = some (.string (K i)) ∧ (ents K V n)[2 * i + 1]? = some (.iface 9 (.string (V i))) := by
  induction n with
  | zero => omega
  | succ n ih =>
    have hl := ents_length K V n
    by_cases e : i = n
    · subst e
      simp only [ents]
      rw [List.getElem?_append_right (by omega), List.getElem?_append_right (by omega), hl]
      simp [show 2 * i + 1 - 2 * i = 1 from by omega]
    · have := ih (by omega)
      simp only [ents]
      rw [List.getElem?_append_left (by omega), List.getElem?_append_left (by omega)]
      exact this
theorem entries_of {w : World} {base g n cap : Nat} {K V : Nat → ByteArray} (h : w.ownsRow base 29 2 (.slice (some ⟨g, 0, none⟩) n cap) n (ents K V n)) (hg : g < w.heap.size) : Entries w g n K V := by
  refine ⟨hg, fun i hi => ?_⟩
  have he := ents_get K V n i hi
  rw [h.cellAt (i * 2) (by omega), h.cellAt (i * 2 + 1) (by omega), Nat.mul_comm i 2]
  exact he

/-- The model that the law itself makes, from the back. -/
def Back (K V : Nat → ByteArray) (key : ByteArray) (n j : Nat) (fd : Bool) (wt : ByteArray) : Prop :=
  (fd = false ∧ ∀ l, j ≤ l → l < n → ((K l).toList == key.toList) = false) ∨
  (fd = true ∧ ∃ m, j ≤ m ∧ m < n ∧ ((K m).toList == key.toList) = true ∧ (∀ l, j ≤ l → l < m → ((K l).toList == key.toList) = false) ∧ wt = V m)
theorem back_miss {K V : Nat → ByteArray} {key : ByteArray} {n : Nat} {fd : Bool} {wt : ByteArray} (h : Back K V key n 0 fd wt) (hno : ∀ j, j < n → ((K j).toList == key.toList) = false) : fd = false := by
  rcases h with ⟨h, _⟩ | ⟨_, m, _, hm, hh, _⟩
  · exact h
  · rw [hno m hm] at hh; cases hh
theorem back_hit {K V : Nat → ByteArray} {key : ByteArray} {n i : Nat} {fd : Bool} {wt : ByteArray} (h : Back K V key n 0 fd wt) (hi : i < n) (hh : ((K i).toList == key.toList) = true) (hno : ∀ j, j < i → ((K j).toList == key.toList) = false) : fd = true ∧ wt = V i := by
  rcases h with ⟨_, h⟩ | ⟨h, m, _, hm, hhm, hl, hw⟩
  · rw [h i (Nat.zero_le _) hi] at hh; cases hh
  · have : m = i := by
      rcases Nat.lt_trichotomy m i with c | c | c
      · rw [hno m c] at hhm; cases hhm
      · exact c
      · rw [hl i (Nat.zero_le _) c] at hh; cases hh
    subst this
    exact ⟨h, hw⟩
theorem back_step_hit {K V : Nat → ByteArray} {key : ByteArray} {n j : Nat} (hj : j < n) (hh : ((K j).toList == key.toList) = true) : Back K V key n j true (V j) :=
  .inr ⟨rfl, j, Nat.le_refl _, hj, hh, fun l h1 h2 => by omega, rfl⟩
theorem back_step_miss {K V : Nat → ByteArray} {key : ByteArray} {n j : Nat} {fd : Bool} {wt : ByteArray} (h : Back K V key n (j + 1) fd wt) (hh : ((K j).toList == key.toList) = false) : Back K V key n j fd wt := by
  rcases h with ⟨h, hl⟩ | ⟨h, m, h1, h2, h3, hl, hw⟩
  · refine .inl ⟨h, fun l a b => ?_⟩
    by_cases e : l = j
    · subst e; exact hh
    · exact hl l (by omega) b
  · refine .inr ⟨h, m, by omega, h2, h3, fun l a b => ?_, hw⟩
    by_cases e : l = j
    · subst e; exact hh
    · exact hl l (by omega) b
/-- There is a first entry of the key, or none. -/
theorem first_or (p : Nat → Bool) (n : Nat) : (∀ j, j < n → p j = false) ∨ ∃ i, i < n ∧ p i = true ∧ ∀ j, j < i → p j = false := by
  induction n with
  | zero => exact .inl fun j h => by omega
  | succ n ih =>
    rcases ih with h | ⟨i, hi, hp, hl⟩
    · cases hp : p n
      · refine .inl fun j hj => ?_
        by_cases e : j = n
        · subst e; exact hp
        · exact h j (by omega)
      · exact .inr ⟨n, by omega, hp, h⟩
    · exact .inr ⟨i, by omega, hp, hl⟩

theorem min_nat (a b n : Nat) (w : World) (h : min a b = n) : Calls Try.prog 9 #[.int .i64 a, .int .i64 b] w fun e w' => e = .returned (.int .i64 n) ∧ w = w' := by
  refine (min_any a b w).mono ?_
  rintro e w' ⟨rfl, rfl⟩
  refine ⟨?_, rfl⟩
  rw [show min (a : Int) (b : Int) = (n : Int) from by omega]

theorem info29 : (Try.prog.info? 29).map (fun i => (i.zero, i.size, i.bytes)) = some (some (.agg #[.string ⟨#[]⟩, .nilIface]), 2, 32) := by kernel_rfl

theorem two_new (w : World) (o : Obj) (x y : Value) : ∀ j u, [x, y][j]? = some u → ((w.alloc o).alloc (.cells #[x, y] 29)).drew.cell? ((⟨w.heap.size + 1, 0, none⟩ : Addr).add j) = some u := by
  intro j u hu
  match j, hu with
  | 0, hu => simp at hu; subst hu; simp [Addr.add]
  | 1, hu => simp at hu; subst hu; simp [Addr.add]

set_option maxRecDepth 100000 in
theorem law3_early (a0 : Option Addr) (l0 c0 : Nat) (K : Nat → ByteArray) (a1 : Option Addr) (l1 c1 : Nat) (V : Nat → ByteArray) (key : ByteArray) (w : World) (h0 : StrRow w a0 l0 K) (h1 : StrRow w a1 l1 V) (hk : key.size ≤ maxLen)
    (hne : 1048576 < l0 ∨ 1048576 < l1 ∨ 1048576 < key.size) :
    Calls Try.prog 3 #[.slice a0 l0 c0, .slice a1 l1 c1, .string key] w fun e w' => e = .returned (.bool true) ∧ Below w.heap.size w w' := by
  have hl0 := h0.le
  have hl1 := h1.le
  have hk' := hk
  unfold maxLen at hl0 hl1 hk'
  have hby := bytes7 a0 l0 c0 K a1 l1 c1 V key w h0 h1 hk
  have HBY : Hid _ := hby
  clear hby h0 h1
  go_enter Try.func3, Try.ntmps3
  go_wp2_with fail
  refine Calls.mono HBY.out ?_
  rintro e w' ⟨⟨ok, rfl⟩, rfl⟩
  go_wp2
  all_goals (go_ret; exact ⟨rfl, Below.refl _ _⟩)

set_option maxHeartbeats 4000000 in
set_option maxRecDepth 100000 in
theorem law3_main (b0 o0 l0 c0 : Nat) (K : Nat → ByteArray) (b1 o1 l1 c1 : Nat) (V : Nat → ByteArray) (key : ByteArray) (n : Nat) (w : World) (h0 : StrRow w (some ⟨b0, o0, none⟩) l0 K) (h1 : StrRow w (some ⟨b1, o1, none⟩) l1 V) (hk : key.size ≤ 1048576)
    (hl0 : l0 ≤ 1048576) (hl1 : l1 ≤ 1048576) (hmin : min l0 l1 = n) (hn : 0 < n)
    (hK : ∀ i, i < n → w.cell? ⟨b0, o0 + i, none⟩ = some (.string (K i))) (hb0 : b0 < w.heap.size) (hV : ∀ i, i < n → w.cell? ⟨b1, o1 + i, none⟩ = some (.string (V i))) (hb1 : b1 < w.heap.size) :
    Calls Try.prog 3 #[.slice (some ⟨b0, o0, none⟩) l0 c0, .slice (some ⟨b1, o1, none⟩) l1 c1, .string key] w fun e w' => e = .returned (.bool true) ∧ Below w.heap.size w w' := by
  obtain ⟨i0, hi, hz0, hz1, hz2⟩ := info_parts info29
  have HBY : Hid _ := bytes7 (some ⟨b0, o0, none⟩) l0 c0 K (some ⟨b1, o1, none⟩) l1 c1 V key w h0 h1 (by unfold maxLen; omega)
  have HC0 : Hid _ := count_any (some ⟨b0, o0, none⟩) l0 c0 K w h0
  have HC1 : Hid _ := count_any (some ⟨b1, o1, none⟩) l1 c1 V w h1
  have HMIN : Hid _ := min_nat l0 l1 n w hmin
  have hnb : n ≤ 1048576 := by omega
  have hn0 : n ≤ l0 := by omega
  have hn1 : n ≤ l1 := by omega
  clear h0 h1 hmin
  go_enter Try.func3, Try.ntmps3
  go_wp2_with fail
  refine Calls.mono HBY.out ?_
  rintro e w' ⟨⟨ok, rfl⟩, rfl⟩
  cases ok
  · go_wp2
    go_ret
    exact ⟨rfl, Below.refl _ _⟩
  · clear HBY
    go_wp2_with fail
    refine Calls.mono HC0.out ?_
    rintro e w' ⟨⟨t0, rfl, ht0, ht0'⟩, rfl⟩
    go_wp2_with fail
    refine Calls.mono HC1.out ?_
    rintro e w' ⟨⟨t1, rfl, ht1, ht1'⟩, rfl⟩
    clear HC0 HC1
    by_cases hsum : t0 + t1 + key.size ≤ 1048576
    · go_wp2_with fail
      refine Calls.mono HMIN.out ?_
      rintro e w' ⟨rfl, rfl⟩
      clear HMIN
      go_wp2_with (at_make; refine wpList_make_own _ rfl _ _ 27 rfl w.heap.size 29 i0 (.agg #[.string ⟨#[]⟩, .nilIface]) 2 Try.underlying27 hi hz0 hz1 .i64 .i64 _ n rfl rfl rfl (by rw [hz2]; omega) (by unfold maxLen; omega) (Nat.le_refl _) ?_; intro w1 hown1 hgrow1)
      obtain ⟨B, hB⟩ : ∃ B, w.heap.size = B := ⟨_, rfl⟩
      have hbw1 : Below B w w1 := by rw [← hB]; exact (Below.refl _ _).grown hgrow1 (Nat.le_refl _) (fun k hk => by cases hk)
      rw [hB] at hown1 hb0 hb1
      rw [hB]
      clear hgrow1
      go_loopw [8, 9] (fun v i wr => ∃ k : Nat, k ≤ n ∧ i = .int .i64 k ∧ wr.ownsRow B 29 2 v k (ents K V k) ∧ Below B w wr) (fun _ i _ => n - (intOf i).toNat)
      case atStart => exact ⟨0, Nat.zero_le _, rfl, hown1, hbw1⟩
      case round =>
        clear hown1 hbw1
        obtain ⟨k, hk, rfl, hown, hbel⟩ := hrel
        by_cases hlt : k < n
        · have hck : wr.cell? ⟨b0, o0 + k, none⟩ = some (.string (K k)) := (hbel.cell hb0).trans (hK k hlt)
          have hcv : wr.cell? ⟨b1, o1 + k, none⟩ = some (.string (V k)) := (hbel.cell hb1).trans (hV k hlt)
          have hzk : (0 : Int) ≤ (k : Int) := by omega
          have hzk0 : (k : Int) < (l0 : Int) := by omega
          have hzk1 : (k : Int) < (l1 : Int) := by omega
          have hws : B ≤ wr.heap.size := by have := hbel.size; omega
          have lk := World.block_lt_of_cell? wr _ hck
          have lv := World.block_lt_of_cell? wr _ hcv
          have hrows : ∀ j, u8.ownBlock = some j → B ≤ j := fun j hj => (hown.lt j hj).1
          have ak : u8.ownBlock ≠ some b0 := fun e => by have := hrows _ e; omega
          have av : u8.ownBlock ≠ some b1 := fun e => by have := hrows _ e; omega
          have hnk := World.new_ne wr _ hck
          have hnv := World.new_ne wr _ hcv
          have HO : Hid (wr.ownsRow B 29 2 u8 k (ents K V k)) := hown
          have HBl : Hid (Below B w wr) := hbel
          have HRW : Hid (∀ j, u8.ownBlock = some j → B ≤ j) := hrows
          clear hown hbel hrows
          go_wp2_with fail
          go_region_held3 (fun w' => w'.cell? ⟨b0, o0 + k, none⟩ = some (.string (K k)) ∧ w'.cell? ⟨b1, o1 + k, none⟩ = some (.string (V k)))
            (first
              | go_keep
              | (go_split_ands
                 refine ⟨?_, ?_⟩
                 · (rw [hgrow.cell_far _ (by simp; omega) (Ne.symm ak)]; assumption)
                 · (rw [hgrow.cell_far _ (by simp; omega) (Ne.symm av)]; assumption)))
            (first
              | (go_at_call 10; refine (entry_any _ _ _).mono ?_; rintro e w' ⟨rfl, rfl⟩)
              | (refine step_append_lies _ (by rfl) _ _ _ (by rfl) B 29 i0 _ 2 32 Try.underlying27 hi hz0 hz1 hz2 rfl (by omega) u8 k (ents K V k) (by rfl) (((HO.out.alloc _).alloc _).drew) ⟨wr.heap.size + 1, 0, none⟩ 1 1 [.string (K k), .iface 9 (.string (V k))] (by rfl) (by rfl) (two_new wr _ (.string (K k)) (.iface 9 (.string (V k)))) (by simp [Value.oneCell']) (by omega) (by unfold maxLen; omega) (by omega) (by simp; omega) (wr.heap.size + 2) (by simp) ?_; intro g cap w2 hown2 hgrow hat hglt))
          go_wp2
          go_roundw
          case rel => exact ⟨k + 1, by omega, by go_num, hown2, (((HBl.out.alloc hws _).alloc (by simp; omega) _).drew).grown hgrow (by simp; omega) HRW.out⟩
          case measure => simp [intOf]; omega
        · have hkn : n = k := by omega
          subst hkn
          obtain ⟨g, cap, hv, hgb, hgl⟩ := hown.form hn
          subst hv
          have hent := entries_of hown hgl
          clear hown hlt
          rcases first_or (fun j => (K j).toList == key.toList) n with hno | ⟨im, him, hhit, hno⟩
          · have HZ : Hid _ := zget_miss (some ⟨g, 0, none⟩) g n cap K V key wr (by omega) (fun _ => rfl) hent hno
            have hbel' : Below B w wr := hbel
            have hwsz : B ≤ wr.heap.size := by have := hbel.size; omega
            clear hbel hent
            go_wp2_with fail
            refine Calls.mono HZ.out ?_
            rintro e w3 ⟨rfl, hb3⟩
            clear HZ
            have hbel3 : Below B w w3 := hbel'.trans (hb3.mono hwsz)
            have HB3 : Hid (Below B w w3) := hbel3
            have hK3 : Hid (∀ i, i < n → w3.cell? ⟨b0, o0 + i, none⟩ = some (.string (K i))) := fun i hi => (hbel3.cell hb0).trans (hK i hi)
            have hV3 : Hid (∀ i, i < n → w3.cell? ⟨b1, o1 + i, none⟩ = some (.string (V i))) := fun i hi => (hbel3.cell hb1).trans (hV i hi)
            have HNO : Hid _ := hno
            clear hbel' hb3 hbel3 hK hV hno
            go_wp2_with fail
            go_loop [14, 15, 16] (fun fd wt i => ∃ (j : Nat) (f : Bool) (t : ByteArray), j ≤ n ∧ i = .int .i64 ((j : Int) - 1) ∧ fd = .bool f ∧ wt = .string t ∧ Back K V key n j f t) (fun _ _ i => (intOf i + 1).toNat)
            case atStart => exact ⟨n, false, _, Nat.le_refl _, rfl, rfl, rfl, .inl ⟨rfl, fun l h1 h2 => by omega⟩⟩
            case round =>
              obtain ⟨j, f, t, hj, rfl, rfl, rfl, hback⟩ := hrel
              have HBK : Hid (Back K V key n j f t) := hback
              clear hback
              match j, hj, HBK with
              | 0, hj, HBK =>
                obtain rfl := back_miss HBK.out HNO.out
                go_wp2
                go_ret
                exact ⟨rfl, HB3.out⟩
              | m + 1, hj, HBK =>
                have hm : ((m + 1 : Nat) : Int) - 1 = (m : Int) := by omega
                rw [hm]
                have hck := hK3.out m (by omega)
                have hcv := hV3.out m (by omega)
                have hz0 : (0 : Int) ≤ (m : Int) := by omega
                cases hhm : ((K m).toList == key.toList)
                · go_wp2
                  go_round
                  case rel => exact ⟨m, f, t, by omega, rfl, rfl, rfl, back_step_miss HBK.out hhm⟩
                  case measure => simp [intOf]
                · go_wp2
                  go_round
                  case rel => exact ⟨m, true, V m, by omega, rfl, rfl, rfl, back_step_hit (by omega) hhm⟩
                  case measure => simp [intOf]
          · have HZ : Hid _ := zget_hit g n cap K V key im wr (by omega) hent him hhit hno
            have hbel' : Below B w wr := hbel
            have hwsz : B ≤ wr.heap.size := by have := hbel.size; omega
            clear hbel hent
            go_wp2_with fail
            refine Calls.mono HZ.out ?_
            rintro e w3 ⟨rfl, hb3⟩
            clear HZ
            have hbel3 : Below B w w3 := hbel'.trans (hb3.mono hwsz)
            have HB3 : Hid (Below B w w3) := hbel3
            have hK3 : Hid (∀ i, i < n → w3.cell? ⟨b0, o0 + i, none⟩ = some (.string (K i))) := fun i hi => (hbel3.cell hb0).trans (hK i hi)
            have hV3 : Hid (∀ i, i < n → w3.cell? ⟨b1, o1 + i, none⟩ = some (.string (V i))) := fun i hi => (hbel3.cell hb1).trans (hV i hi)
            have HNO : Hid _ := hno
            clear hbel' hb3 hbel3 hK hV hno
            go_wp2_with fail
            go_loop [14, 15, 16] (fun fd wt i => ∃ (j : Nat) (f : Bool) (t : ByteArray), j ≤ n ∧ i = .int .i64 ((j : Int) - 1) ∧ fd = .bool f ∧ wt = .string t ∧ Back K V key n j f t) (fun _ _ i => (intOf i + 1).toNat)
            case atStart => exact ⟨n, false, _, Nat.le_refl _, rfl, rfl, rfl, .inl ⟨rfl, fun l h1 h2 => by omega⟩⟩
            case round =>
              obtain ⟨j, f, t, hj, rfl, rfl, rfl, hback⟩ := hrel
              have HBK : Hid (Back K V key n j f t) := hback
              clear hback
              match j, hj, HBK with
              | 0, hj, HBK =>
                obtain ⟨rfl, rfl⟩ := back_hit HBK.out him hhit HNO.out
                go_wp2
                go_ret
                exact ⟨rfl, HB3.out⟩
              | m + 1, hj, HBK =>
                have hm : ((m + 1 : Nat) : Int) - 1 = (m : Int) := by omega
                rw [hm]
                have hck := hK3.out m (by omega)
                have hcv := hV3.out m (by omega)
                have hz0 : (0 : Int) ≤ (m : Int) := by omega
                cases hhm : ((K m).toList == key.toList)
                · go_wp2
                  go_round
                  case rel => exact ⟨m, f, t, by omega, rfl, rfl, rfl, back_step_miss HBK.out hhm⟩
                  case measure => simp [intOf]
                · go_wp2
                  go_round
                  case rel => exact ⟨m, true, V m, by omega, rfl, rfl, rfl, back_step_hit (by omega) hhm⟩
                  case measure => simp [intOf]
    · have hsum' : 1048576 < t0 + t1 + (key.size : Int) := by omega
      clear hsum
      go_wp2
      go_ret
      exact ⟨rfl, Below.refl _ _⟩
end Go.Proofs.Qxb6609549a.Get
