/- The law FnGetAgreesWithBinarySearchByKey (4): no entry at all; the whole walk. -/
import Derived.Test.Qxb6609549aFindB
namespace Go.Proofs.Qxb6609549a.Get
open Go.RowKit

set_option maxHeartbeats 4000000 in
set_option maxRecDepth 100000 in
theorem law4_empty (a0 : Option Addr) (l0 c0 : Nat) (K : Nat → ByteArray) (a1 : Option Addr) (l1 c1 : Nat) (V : Nat → ByteArray) (key : ByteArray) (w : World) (h0 : StrRow w a0 l0 K) (h1 : StrRow w a1 l1 V) (hk : key.size ≤ 1048576)
    (hl0 : l0 ≤ 1048576) (hl1 : l1 ≤ 1048576) (hmin : min l0 l1 = 0) :
    Calls Try.prog 4 #[.slice a0 l0 c0, .slice a1 l1 c1, .string key] w fun e w' => e = .returned (.bool true) ∧ Below w.heap.size w w' := by
  obtain ⟨i0, hi, hz0, hz1, hz2⟩ := info_parts info29
  have HBY : Hid _ := bytes12 a0 l0 c0 K a1 l1 c1 V key w h0 h1 (by unfold maxLen; omega)
  have HC0 : Hid _ := count_any a0 l0 c0 K w h0
  have HC1 : Hid _ := count_any a1 l1 c1 V w h1
  have HMIN : Hid _ := min_nat l0 l1 0 w hmin
  clear h0 h1 hmin
  go_enter Try.func4, Try.ntmps4
  go_wp2_with fail
  refine Calls.mono HBY.out ?_
  rintro e w' ⟨⟨ok, rfl⟩, rfl⟩
  cases ok
  · go_wp2
    go_ret
    exact ⟨rfl, Below.refl _ _⟩
  · clear HBY
    go_wp2_with fail
    refine Calls.mono HC0.out ?_
    rintro e w' ⟨⟨t0, rfl, ht0, ht0'⟩, rfl⟩
    go_wp2_with fail
    refine Calls.mono HC1.out ?_
    rintro e w' ⟨⟨t1, rfl, ht1, ht1'⟩, rfl⟩
    clear HC0 HC1
    by_cases hsum : t0 + t1 + key.size ≤ 1048576
    · go_wp2_with fail
      refine Calls.mono HMIN.out ?_
      rintro e w' ⟨rfl, rfl⟩
      clear HMIN
      go_wp2_with fail
      refine wp_loop_rounds 1 ?_
      rw [rounds_succ]
      go_wp2_with (at_make; refine wpList_make_own _ rfl _ _ 27 rfl w.heap.size 29 i0 (.agg #[.string ⟨#[]⟩, .nilIface]) 2 Try.underlying27 hi hz0 hz1 .i64 .i64 _ 0 rfl rfl rfl (by rw [hz2]; omega) (by unfold maxLen; omega) (Nat.le_refl _) ?_; intro w1 hown1 hgrow1)
      have hbw1 : Below w.heap.size w w1 := (Below.refl _ _).grown hgrow1 (Nat.le_refl _) (fun k hk => by cases hk)
      obtain ⟨_, hcase⟩ := hown1
      have hlt : w.heap.size < w1.heap.size := by
        rcases hcase with ⟨h, _⟩ | ⟨g, cap, cur, hv, _, hh, _⟩
        · cases h
        · cases hv
          exact Nat.lt_of_not_le fun h => by rw [Array.getElem?_eq_none h] at hh; cases hh
      clear hcase hgrow1
      refine wp_loop_rounds 1 ?_
      rw [rounds_succ]
      go_wp2_with (go_at_call 10; refine (entry_any _ _ _).mono ?_; rintro e w' ⟨rfl, rfl⟩)
      refine wp_loop_rounds 1 ?_
      rw [rounds_succ]
      go_wp2_with fail
      refine (zget_miss _ w.heap.size 0 _ K V key _ (by omega) (fun h => by omega) ⟨by simp; omega, fun i hi => by omega⟩ (fun j hj => by omega)).mono ?_
      rintro e w3 ⟨rfl, hb3⟩
      go_wp2
      go_ret
      exact ⟨rfl, ((hbw1.alloc (by omega) _).alloc (by simp; omega) _).trans (hb3.mono (by simp; omega))⟩
    · have hsum' : 1048576 < t0 + t1 + (key.size : Int) := by omega
      clear hsum
      go_wp2
      go_ret
      exact ⟨rfl, Below.refl _ _⟩

theorem law4_any (a0 : Option Addr) (l0 c0 : Nat) (K : Nat → ByteArray) (a1 : Option Addr) (l1 c1 : Nat) (V : Nat → ByteArray) (key : ByteArray) (w : World) (h0 : StrRow w a0 l0 K) (h1 : StrRow w a1 l1 V) (hk : key.size ≤ maxLen) :
    Calls Try.prog 4 #[.slice a0 l0 c0, .slice a1 l1 c1, .string key] w fun e w' => e = .returned (.bool true) ∧ Below w.heap.size w w' := by
  by_cases hne : 1048576 < l0 ∨ 1048576 < l1 ∨ 1048576 < key.size
  · exact law4_early a0 l0 c0 K a1 l1 c1 V key w h0 h1 hk hne
  by_cases hmin : min l0 l1 = 0
  · exact law4_empty a0 l0 c0 K a1 l1 c1 V key w h0 h1 (by omega) (by omega) (by omega) hmin
  obtain ⟨b0, o0, rfl, hb0, hc0⟩ := h0.pos (by omega)
  obtain ⟨b1, o1, rfl, hb1, hc1⟩ := h1.pos (by omega)
  exact law4_main b0 o0 l0 c0 K b1 o1 l1 c1 V key (min l0 l1) w h0 h1 (by omega) (by omega) (by omega) rfl (by omega) (fun i hi => hc0 i (by omega)) hb0 (fun i hi => hc1 i (by omega)) hb1
end Go.Proofs.Qxb6609549a.Get
