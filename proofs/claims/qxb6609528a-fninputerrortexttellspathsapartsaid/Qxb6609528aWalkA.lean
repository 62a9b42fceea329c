/- The callees of FnInputErrorTextTellsPathsApart. -/
import Derived.Test.Qxb6609528aRows
import Derived.WalkKit
import Derived.ProofKit
import Derived.WalkSpells
import Derived.WalkLawsBesides
import Derived.Below
import Derived.Deep.QuietTactic
import Derived.BigQuiet
namespace Go.Proofs.Qxb6609528a.Texts
open Go.RowKit

theorem bytes_any (a0 a1 a2 : ByteArray) (w0 : a0.size ≤ maxLen) (w1 : a1.size ≤ maxLen) (w2 : a2.size ≤ maxLen) (w : World) :
    Calls Try.prog 4 #[.string a0, .string a1, .string a2] w fun e w' => (∃ b, e = .returned (.bool b)) ∧ w = w' := by
  unfold maxLen at w0 w1 w2
  go_enter Try.func4, Try.ntmps4
  go_wp2
  all_goals (go_ret; exact ⟨⟨_, rfl⟩, rfl⟩)

theorem new_any (m : ByteArray) (w : World) :
    Calls Try.prog 6 #[.string m] w fun e w' => e = .returned (.iface 31 (.pointer (some ⟨w.heap.size, 0, none⟩))) ∧ w' = w.alloc (.cells #[.string m] 33) := by
  go_enter Try.func6, Try.ntmps6
  go_wp2
  go_ret
  exact ⟨rfl, rfl⟩

theorem method_err (a : Addr) (w : World) : (method 150 31 (.pointer (some a)) "Error").run Try.prog w = .ok (23, .pointer (some a)) w := by kernel_rfl
theorem nil_err (a : Addr) (w : World) : (nilAhead 150 31 (.pointer (some a)) "Error").run Try.prog w = .ok (some false) w := by kernel_rfl

theorem text_any (E : Nat) (m : ByteArray) (w : World) (cm : w.cell? ⟨E, 0, none⟩ = some (.string m)) : Calls Try.prog 23 #[.pointer (some ⟨E, 0, none⟩)] w fun e w' => e = .returned (.string m) ∧ w' = w := by
  go_enter Try.func23, Try.ntmps23
  go_wp2
  go_ret
  exact ⟨rfl, rfl⟩

theorem error_empty (B E : Nat) (p m : ByteArray) (w : World) (hp : p.toList.isEmpty = true) (c0 : w.cell? ⟨B, 0, none⟩ = some (.string p)) (c1 : w.cell? ⟨B, 1, none⟩ = some (.iface 31 (.pointer (some ⟨E, 0, none⟩)))) (cm : w.cell? ⟨E, 0, none⟩ = some (.string m)) :
    Calls Try.prog 7 #[.pointer (some ⟨B, 0, none⟩)] w fun e w' => e = .returned (.string m) ∧ ∃ n, w' = w.drewN n := by
  have hm := method_err
  have hn := nil_err
  go_enter Try.func7, Try.ntmps7
  go_wp2_with (go_at_call 23; refine (text_any E m _ cm).mono ?_; rintro e w' ⟨rfl, rfl⟩)
  go_ret
  exact ⟨rfl, 0, rfl⟩

theorem error_path (B E : Nat) (p m : ByteArray) (w : World) (hp : p.toList.isEmpty = false) (hp1 : p.size ≤ 262144) (hm1 : m.size ≤ 262144) (c0 : w.cell? ⟨B, 0, none⟩ = some (.string p)) (c1 : w.cell? ⟨B, 1, none⟩ = some (.iface 31 (.pointer (some ⟨E, 0, none⟩)))) (cm : w.cell? ⟨E, 0, none⟩ = some (.string m)) :
    Calls Try.prog 7 #[.pointer (some ⟨B, 0, none⟩)] w fun e w' => e = .returned (.string (p ++ ⟨#[58, 32]⟩ ++ m)) ∧ ∃ n, w' = w.drewN n := by
  have hm := method_err
  have hn := nil_err
  go_enter Try.func7, Try.ntmps7
  go_wp2_with fail
  go_quiet ((go_at_call 23; exact Calls.quiet_of_same (text_any E m _ cm)))
  go_wp2
  go_ret
  exact ⟨rfl, nq, rfl⟩

/-- The text of an input error. -/
def textOf (p m : ByteArray) : ByteArray := if p.toList.isEmpty then m else p ++ ⟨#[58, 32]⟩ ++ m

theorem text_eq (p m : ByteArray) : (textOf p m).toList = if p.toList = [] then m.toList else p.toList ++ [58, 32] ++ m.toList := by
  unfold textOf
  by_cases h : p.toList = []
  · simp [h]
  · have h2 : p.toList.isEmpty = false := by simpa using h
    rw [if_neg h, h2]
    simp [ByteArray.toList_eq]

theorem apart (p1 p2 m : ByteArray) : ((textOf p1 m).toList == (textOf p2 m).toList) = (p1.toList == p2.toList) := by
  rw [text_eq, text_eq, Bool.eq_iff_iff]
  simp only [beq_iff_eq]
  by_cases h1 : p1.toList = [] <;> by_cases h2 : p2.toList = []
  · simp [h1, h2]
  · rw [if_pos h1, if_neg h2, h1]
    constructor
    · intro h
      have := congrArg List.length h
      simp at this
      omega
    · intro h; exact absurd h.symm h2
  · rw [if_neg h1, if_pos h2, h2]
    constructor
    · intro h
      have := congrArg List.length h
      simp at this
      omega
    · intro h; exact absurd h h1
  · rw [if_neg h1, if_neg h2]
    constructor
    · intro h
      exact List.append_cancel_right (List.append_cancel_right h)
    · intro h; rw [h]

theorem grown_drewN {W w : World} (h : Grown W w) (n : Nat) : Grown W (w.drewN n) := h

theorem zz_any (p m : ByteArray) (w : World) (hp1 : p.size ≤ 262144) (hm1 : m.size ≤ 262144) :
    Calls Try.prog 5 #[.string p, .string m] w fun e w' => e = .returned (.string (textOf p m)) ∧ Grown w w' := by
  cases hp : p.toList.isEmpty
  · go_enter Try.func5, Try.ntmps5
    go_wp2_with (first | (go_at_call 6; refine (new_any m _).mono ?_; rintro e w' ⟨rfl, rfl⟩) | (go_at_call 7; refine (error_path (w.heap.size + 1) w.heap.size p m _ hp hp1 hm1 (by simp) (by simp) (by simp)).mono ?_; rintro e w' ⟨rfl, n, rfl⟩))
    go_ret
    exact ⟨by simp [textOf, hp], grown_drewN (((Grown.refl w).alloc _ _).alloc _ _) n⟩
  · go_enter Try.func5, Try.ntmps5
    go_wp2_with (first | (go_at_call 6; refine (new_any m _).mono ?_; rintro e w' ⟨rfl, rfl⟩) | (go_at_call 7; refine (error_empty (w.heap.size + 1) w.heap.size p m _ hp (by simp) (by simp) (by simp)).mono ?_; rintro e w' ⟨rfl, n, rfl⟩))
    go_ret
    exact ⟨by simp [textOf, hp], grown_drewN (((Grown.refl w).alloc _ _).alloc _ _) n⟩

theorem Grown.trans' {a b c : World} (h : Grown a b) (k : Grown b c) : Grown a c :=
  ⟨World.keptBut_trans h.1 k.1, fun x => (k.2.1 x).trans (h.2.1 x), Nat.le_trans h.2.2 k.2.2⟩

theorem law_any (a0 a1 a2 : ByteArray) (w0 : a0.size ≤ maxLen) (w1 : a1.size ≤ maxLen) (w2 : a2.size ≤ maxLen) (w : World) :
    Calls Try.prog 3 #[.string a0, .string a1, .string a2] w fun e w' => e = .returned (.bool true) ∧ Grown w w' := by
  have hap := apart a0 a1 a2
  have HA : Hid _ := hap
  clear hap
  have w0' := w0
  have w1' := w1
  have w2' := w2
  unfold maxLen at w0' w1' w2'
  go_enter Try.func3, Try.ntmps3
  go_wp2_with (go_at_call 4; refine (bytes_any a0 a1 a2 w0 w1 w2 _).mono ?_; rintro e w' ⟨⟨ok, rfl⟩, rfl⟩)
  · go_ret
    exact ⟨rfl, Grown.refl _⟩
  · go_ret
    exact ⟨rfl, Grown.refl _⟩
  · go_ret
    exact ⟨rfl, Grown.refl _⟩
  · go_ret
    exact ⟨rfl, Grown.refl _⟩
  · refine (zz_any a0 a2 _ (by omega) (by omega)).mono ?_
    rintro e wa ⟨rfl, ga⟩
    go_wp2_with fail
    refine (zz_any a1 a2 _ (by omega) (by omega)).mono ?_
    rintro e wb ⟨rfl, gb⟩
    go_wp2
    go_ret
    refine ⟨?_, Grown.trans' ga gb⟩
    show Ending.returned (.bool (((textOf a0 a2).toList == (textOf a1 a2).toList) == (a0.toList == a1.toList))) = .returned (.bool true)
    rw [HA.out]
    simp
end Go.Proofs.Qxb6609528a.Texts
