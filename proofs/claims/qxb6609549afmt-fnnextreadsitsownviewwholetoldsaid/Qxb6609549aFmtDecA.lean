/- The decoder on the good road: its state; peek (26), expect (29), kindOf (17), begin (20). -/
import Derived.Test.Qxb6609549aFmtRows
import Derived.WalkKit
import Derived.ProofKit
import Derived.WalkSpells
import Derived.WalkLawsBesides
import Derived.Below
import Derived.WalkSmall
import Derived.Deep.RegionHeld3
import Derived.Deep.QuietTactic
import Derived.BigQuiet
import Derived.Deep.DeepCutAuto
import Derived.Deep.CutBlock
namespace Go.Proofs.Qxb6609549aFmt.Dec
open Go.RowKit Go.ChangeShapes Go.WideShapes

/-- The decoder at block B over the n bytes bs at block D: it stands at p, d deep, v values counted. -/
structure Dec (w : World) (B D n : Nat) (bs : Nat → Int) (u : Bool) (p d v : Nat) : Prop where
  c0 : w.cell? ⟨B, 0, none⟩ = some (.slice (some ⟨D, 0, none⟩) n n)
  c1 : w.cell? ⟨B, 1, none⟩ = some (.int .i64 p)
  c2 : w.cell? ⟨B, 2, none⟩ = some (.int .i64 d)
  c3 : w.cell? ⟨B, 3, none⟩ = some (.int .i64 v)
  c4 : w.cell? ⟨B, 4, none⟩ = some (.bool u)
  fz : ∀ j, w.frozen? ⟨B, j, none⟩ = false
  dat : ∀ i, i < n → w.cell? ⟨D, i, none⟩ = some (.int .u8 (bs i))
  ne : D ≠ B
  nb : n ≤ 1048576
  lb : B < w.heap.size
  ld : D < w.heap.size

variable {w w' : World} {B D n : Nat} {bs : Nat → Int} {u : Bool} {p d v : Nat}
theorem Dec.drewN (h : Dec w B D n bs u p d v) (m : Nat) : Dec (w.drewN m) B D n bs u p d v := ⟨h.c0, h.c1, h.c2, h.c3, h.c4, h.fz, h.dat, h.ne, h.nb, h.lb, h.ld⟩
theorem Dec.drew (h : Dec w B D n bs u p d v) : Dec w.drew B D n bs u p d v := ⟨h.c0, h.c1, h.c2, h.c3, h.c4, h.fz, h.dat, h.ne, h.nb, h.lb, h.ld⟩
theorem Dec.set1 (h : Dec w B D n bs u p d v) (q : Nat) : Dec (w.setCell ⟨B, 1, none⟩ (.int .i64 q)) B D n bs u q d v := by
  have o : ∀ j, j ≠ 1 → (w.setCell ⟨B, 1, none⟩ (.int .i64 q)).cell? ⟨B, j, none⟩ = w.cell? ⟨B, j, none⟩ := fun j hj => World.cell?_setCell_other _ _ _ _ (fun e => hj (by injection e; omega))
  refine ⟨(o 0 (by omega)).trans h.c0, World.cell?_setCell_same _ _ _ h.c1, (o 2 (by omega)).trans h.c2, (o 3 (by omega)).trans h.c3, (o 4 (by omega)).trans h.c4, fun j => ?_, fun i hi => ?_, h.ne, h.nb, by simpa using h.lb, by simpa using h.ld⟩
  · rw [World.frozen?_setCell]; exact h.fz j
  · rw [World.cell?_of_block (Below.heap_setCell _ _ _ _ h.ne)]; exact h.dat i hi
theorem Dec.set2 (h : Dec w B D n bs u p d v) (q : Nat) : Dec (w.setCell ⟨B, 2, none⟩ (.int .i64 q)) B D n bs u p q v := by
  have o : ∀ j, j ≠ 2 → (w.setCell ⟨B, 2, none⟩ (.int .i64 q)).cell? ⟨B, j, none⟩ = w.cell? ⟨B, j, none⟩ := fun j hj => World.cell?_setCell_other _ _ _ _ (fun e => hj (by injection e; omega))
  refine ⟨(o 0 (by omega)).trans h.c0, (o 1 (by omega)).trans h.c1, World.cell?_setCell_same _ _ _ h.c2, (o 3 (by omega)).trans h.c3, (o 4 (by omega)).trans h.c4, fun j => ?_, fun i hi => ?_, h.ne, h.nb, by simpa using h.lb, by simpa using h.ld⟩
  · rw [World.frozen?_setCell]; exact h.fz j
  · rw [World.cell?_of_block (Below.heap_setCell _ _ _ _ h.ne)]; exact h.dat i hi
theorem Dec.set3 (h : Dec w B D n bs u p d v) (q : Nat) : Dec (w.setCell ⟨B, 3, none⟩ (.int .i64 q)) B D n bs u p d q := by
  have o : ∀ j, j ≠ 3 → (w.setCell ⟨B, 3, none⟩ (.int .i64 q)).cell? ⟨B, j, none⟩ = w.cell? ⟨B, j, none⟩ := fun j hj => World.cell?_setCell_other _ _ _ _ (fun e => hj (by injection e; omega))
  refine ⟨(o 0 (by omega)).trans h.c0, (o 1 (by omega)).trans h.c1, (o 2 (by omega)).trans h.c2, World.cell?_setCell_same _ _ _ h.c3, (o 4 (by omega)).trans h.c4, fun j => ?_, fun i hi => ?_, h.ne, h.nb, by simpa using h.lb, by simpa using h.ld⟩
  · rw [World.frozen?_setCell]; exact h.fz j
  · rw [World.cell?_of_block (Below.heap_setCell _ _ _ _ h.ne)]; exact h.dat i hi
/-- Behind anything that has left the decoder's block and the bytes as they were. -/
theorem Dec.kept {r : Option Nat} (h : Dec w B D n bs u p d v) (hg : w.grownBy w' r) (h1 : some B ≠ r) (h2 : some D ≠ r) : Dec w' B D n bs u p d v := by
  have e1 := hg.block B h.lb h1
  have e2 := hg.block D h.ld h2
  have k : ∀ j, w'.cell? ⟨B, j, none⟩ = w.cell? ⟨B, j, none⟩ := fun j => World.cell?_of_block e1
  exact ⟨(k _).trans h.c0, (k _).trans h.c1, (k _).trans h.c2, (k _).trans h.c3, (k _).trans h.c4, fun j => (World.frozen?_of_block e1).trans (h.fz j), fun i hi => (World.cell?_of_block e2).trans (h.dat i hi), h.ne, h.nb, Nat.lt_of_lt_of_le h.lb hg.size, Nat.lt_of_lt_of_le h.ld hg.size⟩

theorem grown_refl (w : World) (r : Option Nat) : w.grownBy w r := ⟨rfl, rfl, rfl, Nat.le_refl _, fun _ _ _ => rfl⟩
theorem grown_drewN (w : World) (m : Nat) (r : Option Nat) : w.grownBy (w.drewN m) r := ⟨rfl, rfl, rfl, Nat.le_refl _, fun _ _ _ => rfl⟩
theorem grown_set (w : World) (B j : Nat) (x : Value) : w.grownBy (w.setCell ⟨B, j, none⟩ x) (some B) := ⟨rfl, rfl, rfl, by simp, fun k _ hk => Below.heap_setCell _ _ _ _ (fun e => hk (by rw [e]))⟩
theorem grown_any {w w' : World} {r : Option Nat} (h : w.grownBy w' none) : w.grownBy w' r := ⟨h.os, h.tape, h.output, h.size, fun k hk _ => h.block k hk (by simp)⟩

theorem kindOf_any (c k : Int) (w : World) (h0 : 0 ≤ c) (hk : k = if c = 105 then 2 else if c = 108 then 3 else if c = 100 then 4 else if 48 ≤ c ∧ c ≤ 57 then 1 else 0) :
    Calls Tryf.prog 17 #[.int .u8 c] w fun e w' => e = .returned (.int .u8 k) ∧ w = w' := by
  subst hk
  go_enter Tryf.func17, Tryf.ntmps17
  go_wp2
  all_goals (go_ret; exact ⟨by simp_all, rfl⟩)

/-- peek where there is a byte. -/
theorem peek_any (B D n p d v : Nat) (bs : Nat → Int) (u : Bool) (w : World) (h : Dec w B D n bs u p d v) (hp : p < n) :
    Calls Tryf.prog 26 #[.pointer (some ⟨B, 0, none⟩)] w fun e w' => e = .returned (.tuple #[.int .u8 (bs p), .nilIface]) ∧ w.grownBy w' none ∧ Dec w' B D n bs u p d v := by
  have hd := h.dat p hp
  have c0 := h.c0
  have c1 := h.c1
  have hnb := h.nb
  have HD : Hid (Dec w B D n bs u p d v) := h
  obtain ⟨x, hx⟩ : ∃ x, bs p = x := ⟨_, rfl⟩
  rw [hx] at hd ⊢
  have hne : ((p : Int) == (n : Int)) = false := by simp; omega
  have hz0 : (0 : Int) ≤ (p : Int) := by omega
  have hz1 : (p : Int) < (n : Int) := by omega
  clear h hx
  go_enter Tryf.func26, Tryf.ntmps26
  go_wp2_with fail
  go_quiet (fail)
  go_wp2_with fail
  go_quiet (fail)
  go_wp2
  go_ret2
  exact ⟨rfl, (grown_drewN _ _ _).trans (grown_drewN _ _ _), (HD.out.drewN _).drewN _⟩

theorem neq_nil (w : World) : (binOp .neq 50 .nilIface .nilIface).run Tryf.prog w = .ok (.bool false) w := by kernel_rfl

/-- expect where the byte is the one asked for. -/
theorem expect_any (B D n p d v : Nat) (bs : Nat → Int) (u : Bool) (c : Int) (w : World) (h : Dec w B D n bs u p d v) (hp : p < n) (hc : bs p = c) :
    Calls Tryf.prog 29 #[.pointer (some ⟨B, 0, none⟩), .int .u8 c] w fun e w' => e = .returned .nilIface ∧ w.grownBy w' (some B) ∧ Dec w' B D n bs u (p + 1) d v := by
  have HP : Hid _ := peek_any B D n p d v bs u w h hp
  have hnb := h.nb
  rw [hc] at HP
  clear h hc
  go_enter Tryf.func29, Tryf.ntmps29
  go_wp2_with fail
  refine Calls.mono HP.out ?_
  rintro e w1 ⟨rfl, hg1, hd1⟩
  have HG : Hid _ := hg1
  have HD : Hid (Dec w1 B D n bs u p d v) := hd1
  have c1 := hd1.c1
  have f1 := hd1.fz 1
  clear hg1 hd1 HP
  go_wp2
  go_ret
  exact ⟨rfl, (grown_any HG.out).trans (grown_set _ _ _ _), HD.out.set1 (p + 1)⟩

/-- begin where a value begins and there is room for one more. -/
theorem begin_any (B D n p d v : Nat) (bs : Nat → Int) (u : Bool) (k : Int) (w : World) (h : Dec w B D n bs u p d v) (hp : p < n) (hv : v < 2097152) (h0 : 0 ≤ bs p) (hk : k = if bs p = 105 then 2 else if bs p = 108 then 3 else if bs p = 100 then 4 else if 48 ≤ bs p ∧ bs p ≤ 57 then 1 else 0) (hk0 : k ≠ 0) :
    Calls Tryf.prog 20 #[.pointer (some ⟨B, 0, none⟩)] w fun e w' => e = .returned (.tuple #[.int .u8 k, .nilIface]) ∧ w.grownBy w' (some B) ∧ Dec w' B D n bs u p d (v + 1) := by
  have HP : Hid _ := peek_any B D n p d v bs u w h hp
  have HK : Hid (∀ w, _) := fun w => kindOf_any (bs p) k w h0 hk
  have hkb : (k == 0) = false := by simp [hk0]
  have hve : ((v : Int) == 2097152) = false := by simp; omega
  obtain ⟨x, hx⟩ : ∃ x, bs p = x := ⟨_, rfl⟩
  rw [hx] at HP HK
  clear h hx hk hk0 h0
  go_enter Tryf.func20, Tryf.ntmps20
  go_wp2_with fail
  refine Calls.mono HP.out ?_
  rintro e w1 ⟨rfl, hg1, hd1⟩
  have HG : Hid _ := hg1
  have HD : Hid (Dec w1 B D n bs u p d v) := hd1
  have c3 := hd1.c3
  have f3 := hd1.fz 3
  clear hg1 hd1 HP
  go_wp2_with fail
  refine Calls.mono (HK.out _) ?_
  rintro e w' ⟨rfl, rfl⟩
  go_wp2
  go_ret2
  exact ⟨rfl, (grown_any HG.out).trans (grown_set _ _ _ _), HD.out.set3 (v + 1)⟩
end Go.Proofs.Qxb6609549aFmt.Dec
