/- The law FnNewCountsAnnouncementsHearEachOnce (3): no message at all. -/
import Derived.Test.Qxb6609496aCountsB
namespace Go.Proofs.Qxb6609496a.Counts
open Go.RowKit

set_option maxHeartbeats 4000000 in
set_option maxRecDepth 100000 in
theorem law_empty (n : Nat) (a1 : Option Addr) (c1 : Nat) (a2 : Option Addr) (c2 : Nat) (q : Int) (w : World) (hn1 : 1 ≤ n) (hn2 : n ≤ 65536) :
    Calls Try.prog 3 #[.int .i64 n, .slice a1 0 c1, .slice a2 0 c2, .int .i64 q] w fun e w' => e = .returned (.bool true) ∧ Below w.heap.size w w' := by
  have hmk := run_make_row' (P := Try.prog) 29 4 (.bool false) 1 Try.underlying29 info4 rfl .i64 .i64 (n + 1) (by omega) (by omega)
  rw [show ((n + 1 : Nat) : Int) = (n : Int) + 1 from by omega] at hmk
  go_enter Try.func3, Try.ntmps3
  go_wp2_with (go_at_call 5; refine (bytes_any n a1 0 c1 a2 0 c2 q _ (by unfold maxLen; omega) (by unfold maxLen; omega)).mono ?_; rintro e w' ⟨⟨ok, rfl⟩, rfl⟩)
  · go_ret
    exact ⟨rfl, Below.refl _ _⟩
  · refine wp_loop_rounds 1 ?_
    rw [rounds_succ]
    go_wp2_with (first | (go_at_call 6; refine (znewc_any n _ hn1 hn2).mono ?_; rintro e w1 ⟨B, H, rfl, hbel1, hwH, hHB, hBw, htal1, hrow1⟩) | (go_at_call 7; refine (ann_any _ _).mono ?_; rintro e w2 ⟨rfl, rfl⟩))
    obtain ⟨S, hS⟩ : ∃ S, w2.heap.size = S := ⟨_, rfl⟩
    have HST : Hid (State w (w2.alloc (.cells (madeCells #[.bool false] (n + 1)) 4)) B H S ((n + 63) / 64) n 0 0 0 (fun _ => 0) (fun _ => false)) := by
      rw [← hS]
      exact ⟨htal1.of_block (Below.heap_alloc _ _ _ hBw), (hrow1.alloc _), World.rowIs_made _ _ _ _, fun _ => by decide, agree_start n, hbel1.alloc hbel1.size _, hwH, hHB, hBw⟩
    clear hmk htal1 hrow1 hbel1
    rw [hS]
    refine wp_loop_rounds 1 ?_
    rw [rounds_succ]
    go_wp2_with fail
    go_loopw [19] (fun f wx => ∃ g : Nat, 1 ≤ g ∧ g ≤ n + 1 ∧ f = .int .i64 g ∧ State w wx B H S ((n + 63) / 64) n 0 0 0 (fun _ => 0) (fun _ => false)) (fun f _ => n + 1 - (intOf f).toNat)
    case atStart => exact ⟨1, Nat.le_refl _, by omega, rfl, HST.out⟩
    case round =>
      clear HST
      obtain ⟨g, hg1, hg2, rfl, hst⟩ := hrel
      by_cases hgn : g ≤ n
      · have hcs : wr.cell? ⟨S, g, none⟩ = some (.bool (false)) := hst.seen.cell (by omega)
        have hag := hst.agree g hg1 hgn
        have hzh : ∀ m, Calls Try.prog 9 #[.pointer (some ⟨B, 4, none⟩), .int .i64 g] (wr.drewN m) fun e w' => e = .returned (.bool (false)) ∧ ∃ j, w' = (wr.drewN m).drewN j := by
          intro m
          rw [← hag]
          exact zhas_any B H ((n + 63) / 64) g (0) (wr.drewN m) hg1 (by omega) (by omega) (by decide) hst.tal.c4 (hst.row.cell (by omega))
        have HZ : Hid _ := hzh
        have HST : Hid (State w wr B H S ((n + 63) / 64) n 0 0 0 (fun _ => 0) (fun _ => false)) := hst
        have hz0 : (0 : Int) ≤ (g : Int) := by omega
        have hz1 : (g : Int) < (n : Int) + 1 := by omega
        clear hzh hst hag
        go_wp2_with fail
        go_quiet ((go_at_call 9; exact Calls.quiet_of (HZ.out _)))
        go_wp2
        go_roundw
        case rel => exact ⟨g + 1, by omega, by omega, by go_num, HST.out.drewN _⟩
        case measure => simp [intOf]; omega
      · have hgn' : n < g := by omega
        clear hgn
        have hBw' : B < wr.heap.size := by have := hst.seen.lt; have := hst.bS; omega
        have HST : Hid (State w wr B H S ((n + 63) / 64) n 0 0 0 (fun _ => 0) (fun _ => false)) := hst
        clear hst
        go_wp2_with (first | (go_at_call 10; refine (fields_any B H _ _ _ _ _ HST.out.tal hBw').mono ?_; rintro e w4 ⟨rfl, hb4⟩) | (go_at_call 11; refine (words_any n _ hn1 hn2).mono ?_; rintro e w5 ⟨rfl, rfl⟩))
        go_ret
        have hz1 := HST.out.below.size
        have hz2 := hb4.size
        exact ⟨rfl, (HST.out.below.trans (hb4.mono hz1)).alloc (by omega) _⟩
end Go.Proofs.Qxb6609496a.Counts
