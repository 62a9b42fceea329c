/- The callees of FnNewCountsAnnouncementsHearEachOnce. -/
import Derived.Test.Qxb6609496aRows
import Derived.WalkKit
import Derived.ProofKit
import Derived.WalkSpells
import Derived.Below
import Derived.Deep.OwnRows
import Derived.WalkSmall
import Derived.Deep.RegionHeld3
import Derived.Deep.QuietTactic
import Derived.BigQuiet
import Derived.Deep.DeepCutAuto
import Derived.Deep.CutBlock
import Derived.Laws.BitsAllLaws
namespace Go.Proofs.Qxb6609496a.Counts
open Go.RowKit

theorem bytes_any (n : Int) (a1 : Option Addr) (l1 c1 : Nat) (a2 : Option Addr) (l2 c2 : Nat) (q : Int) (w : World) (h1 : l1 ≤ maxLen) (h2 : l2 ≤ maxLen) :
    Calls Try.prog 5 #[.int .i64 n, .slice a1 l1 c1, .slice a2 l2 c2, .int .i64 q] w fun e w' => (∃ b, e = .returned (.bool b)) ∧ w = w' := by
  unfold maxLen at h1 h2
  go_enter Try.func5, Try.ntmps5
  go_wp2
  all_goals (go_ret; exact ⟨⟨_, rfl⟩, rfl⟩)

theorem info40 : (Try.prog.info? 40).map (fun i => (i.zero, i.size, i.bytes)) = some (some (.int .u64 0), 1, 8) := by kernel_rfl

theorem tallies_any (n : Nat) (w : World) :
    Calls Try.prog 21 #[.int .i64 n, .int .i64 3] w fun e w' => e = .returned (.agg #[.int .i64 n, .int .i64 3, .map (some (w.heap.size + 1)), .slice none 0 0]) ∧ Below w.heap.size w w' := by
  have hmm := @run_makeMap Try.prog
  go_enter Try.func21, Try.ntmps21
  go_wp2
  exact bodyPost_ret (v := .agg #[.int .i64 n, .int .i64 3, .map (some (w.heap.size + 1)), .slice none 0 0]) (by simp [results, Try.results21, go_sem]) rfl ⟨rfl, ((Below.refl _ _).alloc (Nat.le_refl _) _).alloc (by simp) _⟩

theorem tally_any (n : Nat) (w : World) (h1 : 1 ≤ n) (h2 : n ≤ 65536) :
    Calls Try.prog 22 #[.int .i64 n] w fun e w' => e = .returned (.agg #[.slice (some ⟨w.heap.size + 1, 0, none⟩) ((n + 63) / 64) ((n + 63) / 64), .int .i64 0, .int .i64 0, .int .i64 0, .slice none 0 0]) ∧
      Below w.heap.size w w' ∧ w'.rowIs (w.heap.size + 1) 40 ((n + 63) / 64) (fun _ => .int .u64 0) := by
  have hmk := run_make_row' (P := Try.prog) 33 40 (.int .u64 0) 8 Try.underlying33 info40 rfl .i64 .i64 ((n + 63) / 64) (by omega) (by omega)
  have e1 : (((n + 63) / 64 : Nat) : Int) = ((n : Int) + 63) / 64 := by omega
  rw [e1] at hmk
  clear e1
  go_enter Try.func22, Try.ntmps22
  go_wp2
  exact bodyPost_ret (v := .agg #[.slice (some ⟨w.heap.size + 1, 0, none⟩) ((n + 63) / 64) ((n + 63) / 64), .int .i64 0, .int .i64 0, .int .i64 0, .slice none 0 0]) (by simp [results, Try.results22, go_sem]) rfl ⟨rfl, ((Below.refl _ _).alloc (Nat.le_refl _) _).alloc (by simp) _, by simpa using World.rowIs_made (w.alloc (.cells #[.slice (some ⟨w.heap.size + 1, 0, none⟩) ((n + 63) / 64) ((n + 63) / 64), .int .i64 0, .int .i64 0, .int .i64 0, .slice none 0 0] 54)) (.int .u64 0) ((n + 63) / 64) 40⟩

/-- The tally in block B from cell 4 on; its words lie in block H. -/
structure Tally (w : World) (B H nw : Nat) (c v0 v1 : Int) : Prop where
  c4 : w.cell? ⟨B, 4, none⟩ = some (.slice (some ⟨H, 0, none⟩) nw nw)
  c5 : w.cell? ⟨B, 5, none⟩ = some (.int .i64 c)
  c6 : w.cell? ⟨B, 6, none⟩ = some (.int .i64 v0)
  c7 : w.cell? ⟨B, 7, none⟩ = some (.int .i64 v1)
  c8 : w.cell? ⟨B, 8, none⟩ = some (.slice none 0 0)
  fz : ∀ j, w.frozen? ⟨B, j, none⟩ = false

theorem newc_any (n : Nat) (w : World) (h1 : 1 ≤ n) (h2 : n ≤ 65536) :
    Calls Try.prog 17 #[.int .i64 n] w fun e w' => ∃ B H : Nat, e = .returned (.pointer (some ⟨B, 0, none⟩)) ∧ Below w.heap.size w w' ∧ w.heap.size ≤ H ∧ H < B ∧ B < w'.heap.size ∧ Tally w' B H ((n + 63) / 64) 0 0 0 ∧ w'.rowIs H 40 ((n + 63) / 64) (fun _ => .int .u64 0) := by
  go_enter Try.func17, Try.ntmps17
  go_wp2_with (first | (go_at_call 21; refine (tallies_any _ _).mono ?_; rintro e w1 ⟨rfl, hb1⟩; have hs1 := hb1.size) | (go_at_call 22; refine (tally_any _ _ h1 h2).mono ?_; rintro e w2 ⟨rfl, hb2, hr2⟩; have hs2 := hb2.size; have hl2 := hr2.lt))
  go_ret
  refine ⟨w2.heap.size, w1.heap.size + 1, rfl, (hb1.trans (hb2.mono hs1)).alloc (by omega) _, by omega, by omega, by simp, ⟨by simp, by simp, by simp, by simp, by simp, by simp⟩, ?_⟩
  exact hr2.alloc _

theorem znewc_any (n : Nat) (w : World) (h1 : 1 ≤ n) (h2 : n ≤ 65536) :
    Calls Try.prog 6 #[.int .i64 n] w fun e w' => ∃ B H : Nat, e = .returned (.pointer (some ⟨B, 0, none⟩)) ∧ Below w.heap.size w w' ∧ w.heap.size ≤ H ∧ H < B ∧ B < w'.heap.size ∧ Tally w' B H ((n + 63) / 64) 0 0 0 ∧ w'.rowIs H 40 ((n + 63) / 64) (fun _ => .int .u64 0) := by
  go_enter Try.func6, Try.ntmps6
  go_wp2_with fail
  refine (newc_any n w h1 h2).mono ?_
  rintro e w' ⟨B, H, rfl, h⟩
  go_wp2
  go_ret
  exact ⟨B, H, rfl, h⟩

theorem ann_any (B : Nat) (w : World) : Calls Try.prog 7 #[.pointer (some ⟨B, 0, none⟩)] w fun e w' => e = .returned (.pointer (some ⟨B, 4, none⟩)) ∧ w' = w := by
  go_enter Try.func7, Try.ntmps7
  go_wp2
  go_ret
  exact ⟨rfl, rfl⟩

theorem ret_int {k : IntKind} {a b : Int} (h : a = b) : Ending.returned (.int k a) = .returned (.int k b) := by rw [h]
theorem ret_bool {a b : Bool} (h : a = b) : Ending.returned (.bool a) = .returned (.bool b) := by rw [h]

theorem words_any (n : Nat) (w : World) (h1 : 1 ≤ n) (h2 : n ≤ 65536) : Calls Try.prog 11 #[.int .i64 n] w fun e w' => e = .returned (.int .i64 ((n + 63) / 64 : Nat)) ∧ w' = w := by
  go_enter Try.func11, Try.ntmps11
  go_wp2
  · go_ret
    exact ⟨ret_int (by omega), rfl⟩
  · go_ret
    exact ⟨ret_int (by omega), rfl⟩

/-- Node f's bit in its word. -/
def bitOf (f : Nat) : Nat := 2 ^ ((f - 1) % 64)
def hasB (X f : Nat) : Bool := X.testBit ((f - 1) % 64)
theorem bitOf_lt (f : Nat) : bitOf f < 18446744073709551616 := by
  have h : (f - 1) % 64 < 64 := Nat.mod_lt _ (by decide)
  exact Nat.lt_of_lt_of_le (Nat.pow_lt_pow_right (by decide) h) (by decide)
theorem wrap_bit (f : Nat) : IntKind.u64.wrap ((2 : Int) ^ ((f - 1) % 64)) = (bitOf f : Int) := by
  have h := bitOf_lt f
  have e : (2 : Int) ^ ((f - 1) % 64) = (bitOf f : Int) := by unfold bitOf; simp
  rw [e, IntKind.wrap_u64]
  omega
theorem hasB_is (X f : Nat) : (X &&& bitOf f != 0) = hasB X f := by
  unfold bitOf hasB
  rw [Bool.eq_iff_iff, bne_iff_ne]
  constructor
  · intro h
    cases ht : X.testBit ((f - 1) % 64) with
    | true => rfl
    | false =>
      exfalso; apply h
      apply Nat.eq_of_testBit_eq
      intro i
      rw [Nat.testBit_and, Nat.testBit_two_pow]
      by_cases e : (f - 1) % 64 = i
      · subst e; simp [ht]
      · simp [e]
  · intro h h0
    have := congrArg (fun y => Nat.testBit y ((f - 1) % 64)) h0
    simp [Nat.testBit_and, h] at this
theorem hasB_or (X f g : Nat) : hasB (X ||| bitOf f) g = (hasB X g || decide ((f - 1) % 64 = (g - 1) % 64)) := by
  unfold hasB bitOf
  rw [Nat.testBit_or, Nat.testBit_two_pow]
theorem and_is (X f : Nat) (hX : X < 18446744073709551616) : (bits .and .u64 (X : Int) (bitOf f : Int) != 0) = hasB X f := by
  rw [u64_and_nat X (bitOf f) hX (bitOf_lt f), ← hasB_is]
  cases h : (X &&& bitOf f) with
  | zero => rfl
  | succ m => rfl
theorem or_is (X f : Nat) (hX : X < 18446744073709551616) : bits .or .u64 (X : Int) (bitOf f : Int) = ((X ||| bitOf f : Nat) : Int) := u64_or_nat X (bitOf f) hX (bitOf_lt f)
theorem or_lt (X f : Nat) (hX : X < 18446744073709551616) : X ||| bitOf f < 18446744073709551616 := Nat.or_lt_two_pow (n := 64) hX (bitOf_lt f)

theorem bit_any (f : Nat) (w : World) (h1 : 1 ≤ f) (h2 : f ≤ 65536) : Calls Try.prog 23 #[.int .i64 f] w fun e w' => e = .returned (.int .u64 (bitOf f)) ∧ w' = w := by
  go_enter Try.func23, Try.ntmps23
  go_wp2
  go_ret
  exact ⟨ret_int (wrap_bit f), rfl⟩

theorem has_any (B H nw f X : Nat) (w : World) (h1 : 1 ≤ f) (h2 : f ≤ 65536) (hf : (f - 1) / 64 < nw) (hX : X < 18446744073709551616)
    (c4 : w.cell? ⟨B, 4, none⟩ = some (.slice (some ⟨H, 0, none⟩) nw nw)) (cx : w.cell? ⟨H, (f - 1) / 64, none⟩ = some (.int .u64 X)) :
    Calls Try.prog 19 #[.pointer (some ⟨B, 4, none⟩), .int .i64 f] w fun e w' => e = .returned (.bool (hasB X f)) ∧ ∃ n, w' = w.drewN n := by
  have hf0 : (0 : Int) ≤ ((f : Int) - 1) / 64 := by omega
  have hf1 : ((f : Int) - 1) / 64 < (nw : Int) := by omega
  go_enter Try.func19, Try.ntmps19
  go_wp2
  go_quiet ((go_at_call 23; exact Calls.quiet_of_same (bit_any _ _ h1 h2)))
  go_wp2
  go_ret
  exact ⟨ret_bool (and_is X f hX), nq, rfl⟩

theorem zhas_any (B H nw f X : Nat) (w : World) (h1 : 1 ≤ f) (h2 : f ≤ 65536) (hf : (f - 1) / 64 < nw) (hX : X < 18446744073709551616)
    (c4 : w.cell? ⟨B, 4, none⟩ = some (.slice (some ⟨H, 0, none⟩) nw nw)) (cx : w.cell? ⟨H, (f - 1) / 64, none⟩ = some (.int .u64 X)) :
    Calls Try.prog 9 #[.pointer (some ⟨B, 4, none⟩), .int .i64 f] w fun e w' => e = .returned (.bool (hasB X f)) ∧ ∃ n, w' = w.drewN n := by
  go_enter Try.func9, Try.ntmps9
  go_wp2_with fail
  refine (has_any B H nw f X w h1 h2 hf hX c4 cx).mono ?_
  rintro e w' ⟨rfl, n, rfl⟩
  go_wp2
  go_ret
  exact ⟨rfl, n, rfl⟩

/-- Only blocks B and H may have turned. -/
structure Only (B H : Nat) (w w' : World) : Prop where
  os : w'.os = w.os
  tape : w'.tape = w.tape
  output : w'.output = w.output
  size : w'.heap.size = w.heap.size
  block : ∀ k, k ≠ B → k ≠ H → w'.heap[k]? = w.heap[k]?
theorem Only.refl (B H : Nat) (w : World) : Only B H w w := ⟨rfl, rfl, rfl, rfl, fun _ _ _ => rfl⟩
theorem Only.drewN {B H : Nat} {w w' : World} (h : Only B H w w') (n : Nat) : Only B H w (w'.drewN n) := ⟨h.os, h.tape, h.output, h.size, h.block⟩
theorem Only.drew {B H : Nat} {w w' : World} (h : Only B H w w') : Only B H w w'.drew := ⟨h.os, h.tape, h.output, h.size, h.block⟩
theorem Only.setCell {B H : Nat} {w w' : World} (h : Only B H w w') (a : Addr) (ha : a.block = B ∨ a.block = H) (v : Value) : Only B H w (w'.setCell a v) :=
  ⟨h.os, h.tape, h.output, by simpa [World.setCell] using h.size, fun k h1 h2 => (Below.heap_setCell _ _ _ _ (by rcases ha with e | e <;> (rw [e]; assumption))).trans (h.block k h1 h2)⟩
theorem Only.below {B H : Nat} {w w' : World} (h : Only B H w w') (n : Nat) (hB : n ≤ B) (hH : n ≤ H) : Below n w w' :=
  ⟨h.os, h.tape, h.output, Nat.le_of_eq h.size.symm, fun k hk => h.block k (by omega) (by omega)⟩

theorem Tally.drewN {w : World} {B H nw : Nat} {c v0 v1 : Int} (h : Tally w B H nw c v0 v1) (n : Nat) : Tally (w.drewN n) B H nw c v0 v1 := ⟨h.c4, h.c5, h.c6, h.c7, h.c8, h.fz⟩
theorem Tally.drew {w : World} {B H nw : Nat} {c v0 v1 : Int} (h : Tally w B H nw c v0 v1) : Tally w.drew B H nw c v0 v1 := ⟨h.c4, h.c5, h.c6, h.c7, h.c8, h.fz⟩
theorem Tally.of_block {w w' : World} {B H nw : Nat} {c v0 v1 : Int} (h : Tally w B H nw c v0 v1) (e : w'.heap[B]? = w.heap[B]?) : Tally w' B H nw c v0 v1 :=
  have k : ∀ j, w'.cell? ⟨B, j, none⟩ = w.cell? ⟨B, j, none⟩ := fun _ => World.cell?_of_block e
  ⟨(k _).trans h.c4, (k _).trans h.c5, (k _).trans h.c6, (k _).trans h.c7, (k _).trans h.c8, fun j => (World.frozen?_of_block e).trans (h.fz j)⟩

theorem Tally.set5 {w : World} {B H nw : Nat} {c v0 v1 : Int} (h : Tally w B H nw c v0 v1) (x : Int) : Tally (w.setCell ⟨B, 5, none⟩ (.int .i64 x)) B H nw x v0 v1 :=
  ⟨(World.cell?_setCell_other _ _ _ _ (by simp)).trans h.c4, World.cell?_setCell_same _ _ _ h.c5, (World.cell?_setCell_other _ _ _ _ (by simp)).trans h.c6, (World.cell?_setCell_other _ _ _ _ (by simp)).trans h.c7, (World.cell?_setCell_other _ _ _ _ (by simp)).trans h.c8, fun j => by rw [World.frozen?_setCell]; exact h.fz j⟩
theorem Tally.set6 {w : World} {B H nw : Nat} {c v0 v1 : Int} (h : Tally w B H nw c v0 v1) (x : Int) : Tally (w.setCell ⟨B, 6, none⟩ (.int .i64 x)) B H nw c x v1 :=
  ⟨(World.cell?_setCell_other _ _ _ _ (by simp)).trans h.c4, (World.cell?_setCell_other _ _ _ _ (by simp)).trans h.c5, World.cell?_setCell_same _ _ _ h.c6, (World.cell?_setCell_other _ _ _ _ (by simp)).trans h.c7, (World.cell?_setCell_other _ _ _ _ (by simp)).trans h.c8, fun j => by rw [World.frozen?_setCell]; exact h.fz j⟩
theorem Tally.set7 {w : World} {B H nw : Nat} {c v0 v1 : Int} (h : Tally w B H nw c v0 v1) (x : Int) : Tally (w.setCell ⟨B, 7, none⟩ (.int .i64 x)) B H nw c v0 x :=
  ⟨(World.cell?_setCell_other _ _ _ _ (by simp)).trans h.c4, (World.cell?_setCell_other _ _ _ _ (by simp)).trans h.c5, (World.cell?_setCell_other _ _ _ _ (by simp)).trans h.c6, World.cell?_setCell_same _ _ _ h.c7, (World.cell?_setCell_other _ _ _ _ (by simp)).trans h.c8, fun j => by rw [World.frozen?_setCell]; exact h.fz j⟩

/-- What an add leaves. -/
def Added (w w' : World) (B H nw f : Nat) (X : Nat → Nat) (c v0 v1 q val : Int) (ans : Bool) : Prop :=
  ans = (decide (c < q) && !hasB (X ((f - 1) / 64)) f) ∧ Only B H w w' ∧
    (ans = false → Tally w' B H nw c v0 v1 ∧ w'.rowIs H 40 nw (fun j => .int .u64 (X j))) ∧
    (ans = true → Tally w' B H nw (c + 1) (v0 + if val = 0 then 1 else 0) (v1 + if val = 1 then 1 else 0) ∧
      w'.rowIs H 40 nw (fun j => .int .u64 (if j = (f - 1) / 64 then X j ||| bitOf f else X j : Nat)))

theorem add_full (B H nw f : Nat) (X : Nat → Nat) (c v0 v1 q val : Int) (w : World) (ht : Tally w B H nw c v0 v1) (hrow : w.rowIs H 40 nw (fun j => .int .u64 (X j))) (hq : q ≤ c) :
    Calls Try.prog 18 #[.pointer (some ⟨B, 4, none⟩), .int .i64 f, .int .u32 val, .int .i64 q] w fun e w' => ∃ ans, e = .returned (.bool ans) ∧ Added w w' B H nw f X c v0 v1 q val ans := by
  have HT : Hid (Tally w B H nw c v0 v1) := ht
  obtain ⟨c4, c5, c6, c7, c8, fz⟩ := ht
  go_enter Try.func18, Try.ntmps18
  go_wp2
  go_ret
  have hd : decide (c < q) = false := by simp; omega
  exact ⟨false, rfl, by simp [hd], Only.refl _ _ _, fun _ => ⟨HT.out, hrow⟩, fun h => by cases h⟩

theorem add_heard (B H nw f : Nat) (X : Nat → Nat) (c v0 v1 q val : Int) (w : World) (h1 : 1 ≤ f) (h2 : f ≤ 65536) (hf : (f - 1) / 64 < nw) (hX : ∀ j, X j < 18446744073709551616)
    (ht : Tally w B H nw c v0 v1) (hrow : w.rowIs H 40 nw (fun j => .int .u64 (X j))) (hq : c < q) (hh : hasB (X ((f - 1) / 64)) f = true) :
    Calls Try.prog 18 #[.pointer (some ⟨B, 4, none⟩), .int .i64 f, .int .u32 val, .int .i64 q] w fun e w' => ∃ ans, e = .returned (.bool ans) ∧ Added w w' B H nw f X c v0 v1 q val ans := by
  have HT : Hid (Tally w B H nw c v0 v1) := ht
  obtain ⟨c4, c5, c6, c7, c8, fz⟩ := ht
  have cx := hrow.cell hf
  have hc := has_any B H nw f (X ((f - 1) / 64)) w h1 h2 hf (hX _) c4 cx
  rw [hh] at hc
  have HC : Hid _ := hc
  clear hc
  go_enter Try.func18, Try.ntmps18
  go_wp2_with fail
  refine Calls.mono HC.out ?_
  rintro e w' ⟨rfl, n, rfl⟩
  go_wp2
  go_ret
  exact ⟨false, rfl, by simp [hh], (Only.refl _ _ _).drewN _, fun _ => ⟨HT.out.drewN _, hrow⟩, fun h => by cases h⟩

theorem add_new (B H nw f : Nat) (X : Nat → Nat) (c v0 v1 q val : Int) (w : World) (h1 : 1 ≤ f) (h2 : f ≤ 65536) (hf : (f - 1) / 64 < nw) (hX : ∀ j, X j < 18446744073709551616)
    (hHB : H ≠ B) (hc0 : 0 ≤ c ∧ c ≤ 65536) (hv0 : 0 ≤ v0 ∧ v0 ≤ 65536) (hv1 : 0 ≤ v1 ∧ v1 ≤ 65536) (hval : 0 ≤ val)
    (ht : Tally w B H nw c v0 v1) (hrow : w.rowIs H 40 nw (fun j => .int .u64 (X j))) (hq : c < q) (hh : hasB (X ((f - 1) / 64)) f = false) :
    Calls Try.prog 18 #[.pointer (some ⟨B, 4, none⟩), .int .i64 f, .int .u32 val, .int .i64 q] w fun e w' => ∃ ans, e = .returned (.bool ans) ∧ Added w w' B H nw f X c v0 v1 q val ans := by
  have HT : Hid (Tally w B H nw c v0 v1) := ht
  have HR : Hid (w.rowIs H 40 nw (fun j => .int .u64 (X j))) := hrow
  obtain ⟨c4, c5, c6, c7, c8, fz⟩ := ht
  have cx := hrow.cell hf
  have fx := hrow.frozen ((f - 1) / 64)
  have hc := has_any B H nw f (X ((f - 1) / 64)) w h1 h2 hf (hX _) c4 cx
  rw [hh] at hc
  have HC : Hid _ := hc
  clear hc hrow
  have hf0 : (0 : Int) ≤ ((f : Int) - 1) / 64 := by omega
  have hf1 : ((f : Int) - 1) / 64 < (nw : Int) := by omega
  have hw1 : IntKind.i64.wrap ((f : Int) - 1) = (f : Int) - 1 := by rw [IntKind.wrap_i64]; omega
  have hw2 : ((f : Int) - 1).tdiv 64 = ((f : Int) - 1) / 64 := Int.tdiv_eq_ediv_of_nonneg (by omega)
  have hw3 : IntKind.i64.wrap (((f : Int) - 1) / 64) = ((f : Int) - 1) / 64 := by rw [IntKind.wrap_i64]; omega
  have hw4 : (((f : Int) - 1) / 64).toNat = (f - 1) / 64 := by omega
  have hor := or_is (X ((f - 1) / 64)) f (hX _)
  go_enter Try.func18, Try.ntmps18
  go_wp2_with fail
  refine Calls.mono HC.out ?_
  rintro e w' ⟨rfl, n, rfl⟩
  go_wp2_with fail
  go_cut [] (fun wx => wx = (w.drewN (n + 1)).setCell ⟨H, (f - 1) / 64, none⟩ (.int .u64 (X ((f - 1) / 64) ||| bitOf f : Nat)))
  case first =>
    go_region_with (go_at_call 23; refine (bit_any _ _ h1 h2).mono ?_; rintro e w' ⟨rfl, rfl⟩)
    all_goals (go_wp2_with fail; go_meet; rfl)
  case rest =>
    have hcut' : wc = (w.drewN (n + 1)).setCell ⟨H, (f - 1) / 64, none⟩ (.int .u64 (X ((f - 1) / 64) ||| bitOf f : Nat)) := hcut
    clear hcut
    have HO : Hid (Only B H w wc) := by rw [hcut']; exact ((Only.refl B H w).drewN _).setCell _ (.inr rfl) _
    have HR' : Hid (wc.rowIs H 40 nw (fun j => .int .u64 (if j = (f - 1) / 64 then X j ||| bitOf f else X j : Nat))) := by
      rw [hcut']
      refine (World.rowIs.set (w := w.drewN (n + 1)) (by exact HR.out) ((f - 1) / 64) _).congr ?_
      intro j _
      by_cases e : j = (f - 1) / 64
      · simp [e]
      · simp [e]
    have ht' : Tally wc B H nw c v0 v1 := by
      rw [hcut']
      exact (HT.out.drewN _).of_block (Below.heap_setCell _ _ _ _ (by exact fun e => hHB e.symm))
    clear hcut' HR HC cx fx c4 c5 c6 c7 c8 fz
    have HT' : Hid (Tally wc B H nw c v0 v1) := ht'
    obtain ⟨c4, c5, c6, c7, c8, fz⟩ := ht'
    clear HT
    have hans : true = (decide (c < q) && !hasB (X ((f - 1) / 64)) f) := by simp [hh, hq]
    have HA : Hid (true = (decide (c < q) && !hasB (X ((f - 1) / 64)) f)) := hans
    clear hans
    have hval3 : val = 0 ∨ val = 1 ∨ 2 ≤ val := by omega
    rcases hval3 with rfl | rfl | hv
    · go_wp2
      go_region
      all_goals go_wp2
      all_goals go_ret
      all_goals exact ⟨true, rfl, HA.out, ((HO.out.setCell ⟨B, 5, none⟩ (.inl rfl) _).setCell ⟨B, 6, none⟩ (.inl rfl) _).drew, (fun h => by cases h), fun _ => ⟨by simpa using ((HT'.out.set5 (c + 1)).set6 (v0 + 1)).drew, (HR'.out.setOther (a := ⟨B, 5, none⟩) hHB _).setOther (a := ⟨B, 6, none⟩) hHB _⟩⟩
    · go_wp2
      go_region
      all_goals go_wp2
      all_goals go_ret
      all_goals exact ⟨true, rfl, HA.out, ((HO.out.setCell ⟨B, 5, none⟩ (.inl rfl) _).setCell ⟨B, 7, none⟩ (.inl rfl) _).drew, (fun h => by cases h), fun _ => ⟨by simpa using ((HT'.out.set5 (c + 1)).set7 (v1 + 1)).drew, (HR'.out.setOther (a := ⟨B, 5, none⟩) hHB _).setOther (a := ⟨B, 7, none⟩) hHB _⟩⟩
    · go_wp2
      go_ret
      have e0 : ¬ val = 0 := by omega
      have e1 : ¬ val = 1 := by omega
      exact ⟨true, rfl, HA.out, (HO.out.setCell ⟨B, 5, none⟩ (.inl rfl) _), (fun h => by cases h), fun _ => ⟨by simpa [e0, e1] using (HT'.out.set5 (c + 1)), (HR'.out.setOther (a := ⟨B, 5, none⟩) hHB _)⟩⟩

theorem add_any (B H nw f : Nat) (X : Nat → Nat) (c v0 v1 q val : Int) (w : World) (h1 : 1 ≤ f) (h2 : f ≤ 65536) (hf : (f - 1) / 64 < nw) (hX : ∀ j, X j < 18446744073709551616)
    (hHB : H ≠ B) (hc0 : 0 ≤ c ∧ c ≤ 65536) (hv0 : 0 ≤ v0 ∧ v0 ≤ 65536) (hv1 : 0 ≤ v1 ∧ v1 ≤ 65536) (hval : 0 ≤ val)
    (ht : Tally w B H nw c v0 v1) (hrow : w.rowIs H 40 nw (fun j => .int .u64 (X j))) :
    Calls Try.prog 18 #[.pointer (some ⟨B, 4, none⟩), .int .i64 f, .int .u32 val, .int .i64 q] w fun e w' => ∃ ans, e = .returned (.bool ans) ∧ Added w w' B H nw f X c v0 v1 q val ans := by
  by_cases hq : c < q
  · cases hh : hasB (X ((f - 1) / 64)) f
    · exact add_new B H nw f X c v0 v1 q val w h1 h2 hf hX hHB hc0 hv0 hv1 hval ht hrow hq hh
    · exact add_heard B H nw f X c v0 v1 q val w h1 h2 hf hX ht hrow hq hh
  · exact add_full B H nw f X c v0 v1 q val w ht hrow (by omega)

theorem zadd_any (B H nw f : Nat) (X : Nat → Nat) (c v0 v1 q val : Int) (w : World) (h1 : 1 ≤ f) (h2 : f ≤ 65536) (hf : (f - 1) / 64 < nw) (hX : ∀ j, X j < 18446744073709551616)
    (hHB : H ≠ B) (hc0 : 0 ≤ c ∧ c ≤ 65536) (hv0 : 0 ≤ v0 ∧ v0 ≤ 65536) (hv1 : 0 ≤ v1 ∧ v1 ≤ 65536) (hval : 0 ≤ val)
    (ht : Tally w B H nw c v0 v1) (hrow : w.rowIs H 40 nw (fun j => .int .u64 (X j))) :
    Calls Try.prog 8 #[.pointer (some ⟨B, 4, none⟩), .int .i64 f, .int .u32 val, .int .i64 q] w fun e w' => ∃ ans, e = .returned (.bool ans) ∧ Added w w' B H nw f X c v0 v1 q val ans := by
  go_enter Try.func8, Try.ntmps8
  go_wp2_with fail
  refine (add_any B H nw f X c v0 v1 q val w h1 h2 hf hX hHB hc0 hv0 hv1 hval ht hrow).mono ?_
  rintro e w' ⟨ans, rfl, h⟩
  go_wp2
  go_ret
  exact ⟨ans, rfl, h⟩

theorem fields_any (B H nw : Nat) (c v0 v1 : Int) (w : World) (ht : Tally w B H nw c v0 v1) (hB : B < w.heap.size) :
    Calls Try.prog 10 #[.pointer (some ⟨B, 4, none⟩)] w fun e w' => e = .returned (.tuple #[.slice (some ⟨H, 0, none⟩) nw nw, .int .i64 c, .agg #[.int .i64 v0, .int .i64 v1], .slice none 0 0]) ∧ Below w.heap.size w w' := by
  obtain ⟨c4, c5, c6, c7, c8, fz⟩ := ht
  go_enter Try.func10, Try.ntmps10
  go_wp2
  go_region
  all_goals go_wp2
  exact bodyPost_ret (v := .tuple #[.slice (some ⟨H, 0, none⟩) nw nw, .int .i64 c, .agg #[.int .i64 v0, .int .i64 v1], .slice none 0 0]) (by simp [results, Try.results10, go_sem]) rfl ⟨rfl, ((Below.refl _ _).alloc (Nat.le_refl _) _).drew⟩
end Go.Proofs.Qxb6609496a.Counts
