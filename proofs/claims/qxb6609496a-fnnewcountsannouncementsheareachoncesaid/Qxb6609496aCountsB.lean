/- The law FnNewCountsAnnouncementsHearEachOnce (3): its plain side, and its walk. -/
import Derived.Test.Qxb6609496aCountsA
namespace Go.Proofs.Qxb6609496a.Counts
open Go.RowKit

/-! ### The plain side -/
def Agree (n : Nat) (X : Nat → Nat) (sn : Nat → Bool) : Prop := ∀ g, 1 ≤ g → g ≤ n → hasB (X ((g - 1) / 64)) g = sn g
theorem agree_start (n : Nat) : Agree n (fun _ => 0) (fun _ => false) := fun g _ _ => by simp [hasB]
theorem agree_step {n : Nat} {X : Nat → Nat} {sn : Nat → Bool} (h : Agree n X sn) (f : Nat) (hf : 1 ≤ f) :
    Agree n (fun j => if j = (f - 1) / 64 then X j ||| bitOf f else X j) (fun g => if g = f then true else sn g) := by
  intro g hg hn
  have h0 := h g hg hn
  by_cases e : (g - 1) / 64 = (f - 1) / 64
  · simp only [e, if_true, hasB_or]
    rw [e] at h0
    rw [h0]
    by_cases e2 : g = f
    · simp [e2]
    · have e3 : ¬ (f - 1) % 64 = (g - 1) % 64 := by omega
      simp [e2, e3]
  · have e2 : ¬ g = f := fun x => e (by rw [x])
    simp only [e, if_false, e2, h0]

/-- What holds at the head of each round of the second loop, and behind it. -/
structure State (w wr : World) (B H S nw n c va vb : Nat) (X : Nat → Nat) (sn : Nat → Bool) : Prop where
  tal : Tally wr B H nw c va vb
  row : wr.rowIs H 40 nw (fun j => .int .u64 (X j))
  seen : wr.rowIs S 4 (n + 1) (fun g => .bool (sn g))
  small : ∀ j, X j < 18446744073709551616
  agree : Agree n X sn
  below : Below w.heap.size w wr
  hw : w.heap.size ≤ H
  hB : H < B
  bS : B < S

theorem State.drewN {w wr : World} {B H S nw n c va vb : Nat} {X : Nat → Nat} {sn : Nat → Bool} (h : State w wr B H S nw n c va vb X sn) (m : Nat) : State w (wr.drewN m) B H S nw n c va vb X sn :=
  ⟨h.tal.drewN m, h.row, h.seen, h.small, h.agree, below_drewN h.below m, h.hw, h.hB, h.bS⟩

theorem State.no {w wr w' : World} {B H S nw n c va vb f : Nat} {X : Nat → Nat} {sn : Nat → Bool} {q val : Int} (h : State w wr B H S nw n c va vb X sn) (ha : Added wr w' B H nw f X c va vb q val false) : State w w' B H S nw n c va vb X sn := by
  obtain ⟨_, ho, hno, _⟩ := ha
  obtain ⟨h1, h2⟩ := hno rfl
  have := h.hw; have := h.hB; have := h.bS
  exact ⟨h1, h2, h.seen.of_block (ho.block S (by omega) (by omega)), h.small, h.agree, h.below.trans (ho.below _ (by omega) (by omega)), h.hw, h.hB, h.bS⟩

theorem State.yes {w wr w' : World} {B H S nw n c va vb f : Nat} {X : Nat → Nat} {sn : Nat → Bool} {q val : Int} (h : State w wr B H S nw n c va vb X sn) (hf : 1 ≤ f) (ha : Added wr w' B H nw f X c va vb q val true) (va' vb' : Nat)
    (ea : (va' : Int) = va + if val = 0 then 1 else 0) (eb : (vb' : Int) = vb + if val = 1 then 1 else 0) :
    State w (w'.setCell ⟨S, f, none⟩ (.bool true)) B H S nw n (c + 1) va' vb' (fun j => if j = (f - 1) / 64 then X j ||| bitOf f else X j) (fun g => if g = f then true else sn g) := by
  obtain ⟨_, ho, _, hyes⟩ := ha
  obtain ⟨h1, h2⟩ := hyes rfl
  have a1 := h.hw; have a2 := h.hB; have a3 := h.bS
  refine ⟨?_, h2.setOther (a := ⟨S, f, none⟩) (by show H ≠ S; omega) _, ?_, ?_, agree_step h.agree f hf, (h.below.trans (ho.below _ (by omega) (by omega))).setCell (p := ⟨S, f, none⟩) (by show w.heap.size ≤ S; omega) _, h.hw, h.hB, h.bS⟩
  · have : Tally (w'.setCell ⟨S, f, none⟩ (.bool true)) B H nw ((c : Int) + 1) (va + if val = 0 then 1 else 0) (vb + if val = 1 then 1 else 0) := h1.of_block (Below.heap_setCell _ _ _ _ (by show B ≠ S; omega))
    rw [← ea, ← eb] at this
    exact_mod_cast this
  · refine ((h.seen.of_block (ho.block S (by omega) (by omega))).set f (.bool true)).congr ?_
    intro g _
    by_cases e : g = f <;> simp [e]
  · intro j
    by_cases e : j = (f - 1) / 64
    · simp only [e, if_true]; exact or_lt _ _ (h.small _)
    · simp only [e, if_false]; exact h.small j

theorem info4 : (Try.prog.info? 4).map (fun i => (i.zero, i.size, i.bytes)) = some (some (.bool false), 1, 1) := by kernel_rfl

/-! ### The walk -/
set_option maxRecDepth 100000 in
/-- A test ahead of the work fails: true at once. -/
theorem law_early (n : Int) (a1 : Option Addr) (l1 c1 : Nat) (a2 : Option Addr) (l2 c2 : Nat) (q : Int) (w : World) (h1 : l1 ≤ maxLen) (h2 : l2 ≤ maxLen)
    (hne : l2 ≠ l1 ∨ 65536 < l1 ∨ n < 1 ∨ 65536 < n) :
    Calls Try.prog 3 #[.int .i64 n, .slice a1 l1 c1, .slice a2 l2 c2, .int .i64 q] w fun e w' => e = .returned (.bool true) ∧ Below w.heap.size w w' := by
  unfold maxLen at h1 h2
  go_enter Try.func3, Try.ntmps3
  go_wp2_with (go_at_call 5; refine (bytes_any n a1 l1 c1 a2 l2 c2 q _ (by unfold maxLen; omega) (by unfold maxLen; omega)).mono ?_; rintro e w' ⟨⟨ok, rfl⟩, rfl⟩)
  all_goals (go_ret; exact ⟨rfl, Below.refl _ _⟩)

set_option maxHeartbeats 4000000 in
set_option maxRecDepth 100000 in
/-- At least one message. -/
theorem law_main (n : Nat) (b1 o1 l c1 b2 o2 c2 : Nat) (q : Int) (F V : Nat → Int) (w : World) (hn1 : 1 ≤ n) (hn2 : n ≤ 65536) (hl : 0 < l) (hl1 : l ≤ 65536)
    (hF : ∀ i, i < l → w.cell? ⟨b1, o1 + i, none⟩ = some (.int .i64 (F i))) (hb1 : b1 < w.heap.size) (hV : ∀ i, i < l → w.cell? ⟨b2, o2 + i, none⟩ = some (.int .u32 (V i))) (hb2 : b2 < w.heap.size) (hV0 : ∀ i, i < l → 0 ≤ V i) :
    Calls Try.prog 3 #[.int .i64 n, .slice (some ⟨b1, o1, none⟩) l c1, .slice (some ⟨b2, o2, none⟩) l c2, .int .i64 q] w fun e w' => e = .returned (.bool true) ∧ Below w.heap.size w w' := by
  have hmk := run_make_row' (P := Try.prog) 29 4 (.bool false) 1 Try.underlying29 info4 rfl .i64 .i64 (n + 1) (by omega) (by omega)
  rw [show ((n + 1 : Nat) : Int) = (n : Int) + 1 from by omega] at hmk
  go_enter Try.func3, Try.ntmps3
  go_wp2_with (go_at_call 5; refine (bytes_any n (some ⟨b1, o1, none⟩) l c1 (some ⟨b2, o2, none⟩) l c2 q _ (by unfold maxLen; omega) (by unfold maxLen; omega)).mono ?_; rintro e w' ⟨⟨ok, rfl⟩, rfl⟩)
  · go_ret
    exact ⟨rfl, Below.refl _ _⟩
  · go_loop [9] (fun i => ∃ k : Nat, k ≤ l ∧ i = .int .i64 k ∧ ∀ j, j < k → 1 ≤ F j ∧ F j ≤ n) (fun i => l - (intOf i).toNat)
    case atStart => exact ⟨0, Nat.zero_le _, rfl, fun j hj => by omega⟩
    case round =>
      obtain ⟨k, hk, rfl, hall⟩ := hrel
      by_cases hlt : k < l
      · have hcx := hF k hlt
        have HA : Hid (∀ j, j < k → 1 ≤ F j ∧ F j ≤ n) := hall
        clear hall
        by_cases hz : F k < 1
        · go_wp2
          go_ret
          exact ⟨rfl, Below.refl _ _⟩
        · have hz1 : 1 ≤ F k := by omega
          clear hz
          by_cases hb : F k ≤ n
          · go_wp2
            go_round
            case rel =>
              refine ⟨k + 1, by omega, by go_num, fun j hj => ?_⟩
              by_cases e : j = k
              · subst e; omega
              · exact HA.out j (by omega)
            case measure => simp [intOf]; omega
          · have hb1 : (n : Int) < F k := by omega
            clear hb
            go_wp2
            go_ret
            exact ⟨rfl, Below.refl _ _⟩
      · have hkn : l = k := by omega
        subst hkn
        have HA : Hid (∀ j, j < l → 1 ≤ F j ∧ F j ≤ n) := hall
        have HF : Hid (∀ i, i < l → w.cell? ⟨b1, o1 + i, none⟩ = some (.int .i64 (F i))) := hF
        have HV : Hid (∀ i, i < l → w.cell? ⟨b2, o2 + i, none⟩ = some (.int .u32 (V i))) := hV
        have HV0 : Hid (∀ i, i < l → 0 ≤ V i) := hV0
        clear hall hF hV hV0 hlt
        go_wp2_with (first | (go_at_call 6; refine (znewc_any n _ hn1 hn2).mono ?_; rintro e w1 ⟨B, H, rfl, hbel1, hwH, hHB, hBw, htal1, hrow1⟩) | (go_at_call 7; refine (ann_any _ _).mono ?_; rintro e w2 ⟨rfl, rfl⟩))
        obtain ⟨S, hS⟩ : ∃ S, w2.heap.size = S := ⟨_, rfl⟩
        have HS0 : Hid (State w (w2.alloc (.cells (madeCells #[.bool false] (n + 1)) 4)) B H S ((n + 63) / 64) n 0 0 0 (fun _ => 0) (fun _ => false)) := by
          rw [← hS]
          exact ⟨htal1.of_block (Below.heap_alloc _ _ _ hBw), (hrow1.alloc _), World.rowIs_made _ _ _ _, fun _ => by decide, agree_start n, hbel1.alloc hbel1.size _, hwH, hHB, hBw⟩
        clear hmk htal1 hrow1 hbel1
        rw [hS]
        go_loopw [13, 14, 15, 16] (fun cc ca cb i wr => ∃ k : Nat, k ≤ l ∧ i = .int .i64 k ∧ ∃ (X : Nat → Nat) (sn : Nat → Bool) (c va vb : Nat), cc = .int .i64 c ∧ ca = .int .i64 va ∧ cb = .int .i64 vb ∧ c ≤ k ∧ va ≤ k ∧ vb ≤ k ∧
            State w wr B H S ((n + 63) / 64) n c va vb X sn) (fun _ _ _ i _ => l - (intOf i).toNat)
        case atStart => exact ⟨0, Nat.zero_le _, rfl, _, _, 0, 0, 0, rfl, rfl, rfl, Nat.le_refl _, Nat.le_refl _, Nat.le_refl _, HS0.out⟩
        case round =>
          clear HS0
          obtain ⟨k, hk, rfl, X, sn, c, va, vb, rfl, rfl, rfl, hck, hak, hbk, hst⟩ := hrel
          by_cases hlt : k < l
          · obtain ⟨f, hf⟩ : ∃ f : Nat, F k = f := ⟨(F k).toNat, by have := HA.out k hlt; omega⟩
            have hfb := HA.out k hlt
            rw [hf] at hfb
            have hcf : wr.cell? ⟨b1, o1 + k, none⟩ = some (.int .i64 f) := by rw [← hf]; exact (hst.below.cell (by exact hb1)).trans (HF.out k hlt)
            obtain ⟨v, hv⟩ : ∃ v, V k = v := ⟨_, rfl⟩
            have hcv : wr.cell? ⟨b2, o2 + k, none⟩ = some (.int .u32 v) := by rw [← hv]; exact (hst.below.cell (by exact hb2)).trans (HV.out k hlt)
            have hv0 : 0 ≤ v := by rw [← hv]; exact HV0.out k hlt
            have hf1 : 1 ≤ f := by omega
            have hf2 : f ≤ n := by omega
            clear hf hv hfb
            have hcs : wr.cell? ⟨S, f, none⟩ = some (.bool (sn f)) := hst.seen.cell (by omega)
            have hag := hst.agree f hf1 hf2
            have hza := zadd_any B H ((n + 63) / 64) f X c va vb q v wr hf1 (by omega) (by omega) hst.small (by have := hst.hB; omega) (by omega) (by omega) (by omega) hv0 hst.tal hst.row
            have HZ : Hid _ := hza
            clear hza
            have hBS := hst.bS
            have hcw : ∀ w3 ans, Added wr w3 B H ((n + 63) / 64) f X c va vb q v ans → w3.cell? ⟨S, f, none⟩ = some (.bool (sn f)) ∧ w3.frozen? ⟨S, f, none⟩ = false ∧ w3.cell? ⟨b2, o2 + k, none⟩ = some (.int .u32 v) := by
              intro w3 ans ha
              have e1 := ha.2.1.block S (by omega) (by omega)
              have e2 := ha.2.1.block b2 (by omega) (by omega)
              exact ⟨(World.cell?_of_block e1).trans hcs, (World.frozen?_of_block e1).trans (hst.seen.frozen f), (World.cell?_of_block e2).trans hcv⟩
            have HCW : Hid _ := hcw
            clear hcw
            have HST : Hid (State w wr B H S ((n + 63) / 64) n c va vb X sn) := hst
            clear hst
            cases hs : sn f
            · rw [hs] at hcs hag
              by_cases hq : (c : Int) < q
              · go_wp2_with fail
                refine Calls.mono HZ.out ?_
                rintro e w3 ⟨ans, rfl, hadd⟩
                obtain rfl : ans = true := by rw [hadd.1, hag]; simp [hq]
                obtain ⟨g1, g2, g3⟩ := HCW.out w3 true hadd
                rw [hs] at g1
                have HADD : Hid (Added wr w3 B H ((n + 63) / 64) f X c va vb q v true) := hadd
                clear hadd
                have hv3 : v = 0 ∨ v = 1 ∨ 2 ≤ v := by omega
                rcases hv3 with rfl | rfl | hv3
                · go_wp2
                  go_roundw
                  case rel => exact ⟨k + 1, by omega, by go_num, _, _, c + 1, va + 1, vb, by go_num, by go_num, rfl, by omega, by omega, by omega, HST.out.yes hf1 HADD.out (va + 1) vb (by simp) (by simp)⟩
                  case measure => simp [intOf]; omega
                · go_wp2
                  go_roundw
                  case rel => exact ⟨k + 1, by omega, by go_num, _, _, c + 1, va, vb + 1, by go_num, rfl, by go_num, by omega, by omega, by omega, HST.out.yes hf1 HADD.out va (vb + 1) (by simp) (by simp)⟩
                  case measure => simp [intOf]; omega
                · go_wp2
                  go_roundw
                  case rel => exact ⟨k + 1, by omega, by go_num, _, _, c + 1, va, vb, by go_num, rfl, rfl, by omega, by omega, by omega, HST.out.yes hf1 HADD.out va vb (by rw [if_neg (by omega)]; omega) (by rw [if_neg (by omega)]; omega)⟩
                  case measure => simp [intOf]; omega
              · have hq' : q ≤ (c : Int) := by omega
                clear hq
                go_wp2_with fail
                refine Calls.mono HZ.out ?_
                rintro e w3 ⟨ans, rfl, hadd⟩
                obtain rfl : ans = false := by rw [hadd.1]; simp; omega
                have HADD : Hid (Added wr w3 B H ((n + 63) / 64) f X c va vb q v false) := hadd
                clear hadd
                go_wp2
                go_roundw
                case rel => exact ⟨k + 1, by omega, by go_num, _, _, c, va, vb, rfl, rfl, rfl, by omega, by omega, by omega, HST.out.no HADD.out⟩
                case measure => simp [intOf]; omega
            · rw [hs] at hcs hag
              go_wp2_with fail
              refine Calls.mono HZ.out ?_
              rintro e w3 ⟨ans, rfl, hadd⟩
              obtain rfl : ans = false := by rw [hadd.1, hag]; simp
              have HADD : Hid (Added wr w3 B H ((n + 63) / 64) f X c va vb q v false) := hadd
              clear hadd
              go_wp2
              go_roundw
              case rel => exact ⟨k + 1, by omega, by go_num, _, _, c, va, vb, rfl, rfl, rfl, by omega, by omega, by omega, HST.out.no HADD.out⟩
              case measure => simp [intOf]; omega
          · have HST : Hid (State w wr B H S ((n + 63) / 64) n c va vb X sn) := hst
            clear hst
            go_wp2_with fail
            go_loopw [19] (fun f wx => ∃ g : Nat, 1 ≤ g ∧ g ≤ n + 1 ∧ f = .int .i64 g ∧ State w wx B H S ((n + 63) / 64) n c va vb X sn) (fun f _ => n + 1 - (intOf f).toNat)
            case atStart => exact ⟨1, Nat.le_refl _, by omega, rfl, HST.out⟩
            case round =>
              clear HST
              obtain ⟨g, hg1, hg2, rfl, hst⟩ := hrel
              by_cases hgn : g ≤ n
              · have hcs : wr.cell? ⟨S, g, none⟩ = some (.bool (sn g)) := hst.seen.cell (by omega)
                have hag := hst.agree g hg1 hgn
                have hzh : ∀ m, Calls Try.prog 9 #[.pointer (some ⟨B, 4, none⟩), .int .i64 g] (wr.drewN m) fun e w' => e = .returned (.bool (sn g)) ∧ ∃ j, w' = (wr.drewN m).drewN j := by
                  intro m
                  rw [← hag]
                  exact zhas_any B H ((n + 63) / 64) g (X ((g - 1) / 64)) (wr.drewN m) hg1 (by omega) (by omega) (hst.small _) hst.tal.c4 (hst.row.cell (by omega))
                have HZ : Hid _ := hzh
                have HST : Hid (State w wr B H S ((n + 63) / 64) n c va vb X sn) := hst
                have hz0 : (0 : Int) ≤ (g : Int) := by omega
                have hz1 : (g : Int) < (n : Int) + 1 := by omega
                clear hzh hst hag
                go_wp2_with fail
                go_quiet ((go_at_call 9; exact Calls.quiet_of (HZ.out _)))
                go_wp2
                go_roundw
                case rel => exact ⟨g + 1, by omega, by omega, by go_num, HST.out.drewN _⟩
                case measure => simp [intOf]; omega
              · have hgn' : n < g := by omega
                clear hgn
                have hBw' : B < wr.heap.size := by have := hst.seen.lt; have := hst.bS; omega
                have HST : Hid (State w wr B H S ((n + 63) / 64) n c va vb X sn) := hst
                clear hst
                go_wp2_with (first | (go_at_call 10; refine (fields_any B H _ _ _ _ _ HST.out.tal hBw').mono ?_; rintro e w4 ⟨rfl, hb4⟩) | (go_at_call 11; refine (words_any n _ hn1 hn2).mono ?_; rintro e w5 ⟨rfl, rfl⟩))
                go_ret
                have hz1 := HST.out.below.size
                have hz2 := hb4.size
                exact ⟨rfl, (HST.out.below.trans (hb4.mono hz1)).alloc (by omega) _⟩
end Go.Proofs.Qxb6609496a.Counts
