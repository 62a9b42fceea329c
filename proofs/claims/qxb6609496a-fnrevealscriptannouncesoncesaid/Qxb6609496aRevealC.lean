/- The law FnRevealScriptAnnouncesOnce (4): the empty script. -/
import Derived.Test.Qxb6609496aRevealB
namespace Go.Proofs.Qxb6609496a.Reveal
open Go.RowKit

theorem clone_zero (x : Addr) (cap : Nat) (w : World) :
    Calls Try.prog 13 #[.slice (some x) 0 cap] w fun e w' => e = .returned (.slice (some ⟨w.heap.size, 0, none⟩) 0 0) ∧ Below w.heap.size w w' := by
  have hs := @Lib.run_eql_slice_nil Try.prog
  have hmk := run_make_row' (P := Try.prog) 33 40 (.int .u64 0) 8 Try.underlying33 info40 rfl .i64 .i64 0 (by omega) (by omega)
  rw [show ((0 : Nat) : Int) = 0 from rfl] at hmk
  go_enter Try.func13, Try.ntmps13
  go_wp2
  refine wp_loop_rounds 1 ?_
  rw [rounds_succ]
  go_wp2
  go_ret
  exact ⟨rfl, (Below.refl _ _).alloc (Nat.le_refl _) _⟩

set_option maxHeartbeats 4000000 in
set_option maxRecDepth 100000 in
/-- The empty script. -/
theorem law_empty (a0 : Option Addr) (l0 c0 : Nat) (an : Bool) (dv dr : Int) (a4 : Option Addr) (c4 : Nat) (a5 : Option Addr) (c5 : Nat) (Z : Nat → Int) (w : World)
    (hl0 : l0 ≤ 65536) (hdv : 0 ≤ dv) (hdv1 : dv ≤ 1) (hdr : 0 ≤ dr)
    (ha0 : (a0 = none ∧ l0 = 0 ∧ c0 = 0) ∨ (∃ x, a0 = some x ∧ l0 = 0) ∨ ∃ b0 o0, a0 = some ⟨b0, o0, none⟩ ∧ (∀ i, i < l0 → w.cell? ⟨b0, o0 + i, none⟩ = some (.int .u64 (Z i))) ∧ (0 < l0 → b0 < w.heap.size)) :
    Calls Try.prog 4 #[.slice a0 l0 c0, .bool an, .int .u8 dv, .int .i64 dr, .slice a4 0 c4, .slice a5 0 c5] w fun e w' => e = .returned (.bool true) ∧ Below w.heap.size w w' := by
  have hcl : Calls Try.prog 13 #[.slice a0 l0 c0] w fun e w' => ∃ a' c', e = .returned (.slice a' l0 c') ∧ Below w.heap.size w w' := by
    rcases ha0 with ⟨rfl, rfl, rfl⟩ | ⟨x, rfl, rfl⟩ | ⟨b0, o0, rfl, hsh, hb0⟩
    · refine (clone_nil w).mono ?_
      rintro e w' ⟨rfl, rfl⟩
      exact ⟨none, 0, rfl, Below.refl _ _⟩
    · refine (clone_zero x c0 w).mono ?_
      rintro e w' ⟨rfl, hb⟩
      exact ⟨_, _, rfl, hb⟩
    · refine (clone_some b0 o0 l0 c0 Z w hl0 hsh hb0).mono ?_
      rintro e w' ⟨rfl, hb, _⟩
      exact ⟨_, _, rfl, hb⟩
  have HC : Hid _ := hcl
  clear hcl ha0
  go_enter Try.func4, Try.ntmps4
  go_wp2_with (go_at_call 12; refine (bytes_any a0 l0 c0 an dv dr a4 0 c4 a5 0 c5 _ (by unfold maxLen; omega) (by unfold maxLen; omega) (by unfold maxLen; omega)).mono ?_; rintro e w' ⟨⟨ok, rfl⟩, rfl⟩)
  · go_ret
    exact ⟨rfl, Below.refl _ _⟩
  · refine wp_loop_rounds 1 ?_
    rw [rounds_succ]
    go_wp2_with fail
    refine Calls.mono HC.out ?_
    rintro e w1 ⟨a', c', rfl, hb1⟩
    go_wp2_with fail
    refine (new_any _ _ _ _ _ _ _).mono ?_
    rintro e w2 ⟨rfl, hsz2, hb2, hnode⟩
    have hc18 := hnode.c18
    have HB : Hid (Below w.heap.size w w2) := hb1.trans (hb2.mono hb1.size)
    clear hb1 hb2 hnode
    go_wp2_with fail
    refine wp_loop_rounds 1 ?_
    rw [rounds_succ]
    cases an
    · go_wp2_with fail
      refine wp_loop_rounds 1 ?_
      rw [rounds_succ]
      go_wp2_with fail
      refine wp_loop_rounds 1 ?_
      rw [rounds_succ]
      go_wp2_with (go_at_call 16; refine (announced_any w1.heap.size _ _ hc18).mono ?_; rintro e w' ⟨rfl, rfl⟩)
      go_ret
      exact ⟨rfl, HB.out⟩
    · go_wp2_with fail
      refine wp_loop_rounds 1 ?_
      rw [rounds_succ]
      go_wp2_with (go_at_call 16; refine (announced_any w1.heap.size _ _ hc18).mono ?_; rintro e w' ⟨rfl, rfl⟩)
      go_ret
      exact ⟨rfl, HB.out⟩
end Go.Proofs.Qxb6609496a.Reveal
