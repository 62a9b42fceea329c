/- zzScanValue (6): the walk. -/
import Derived.Test.Qxb6609549aFmtScanB
import Derived.Test.Qxb6609549aFmtScanC
import Derived.Test.Qxb6609549aFmtStk
import Derived.Deep.AppendLies
namespace Go.Proofs.Qxb6609549aFmt.Dec
open Go.RowKit Go.ChangeShapes Go.WideShapes

theorem info40 : (Tryf.prog.info? 40).map (fun i => (i.zero, i.size, i.bytes)) = some (some (.agg #[.bool false, .bool false, .bool false, .int .i64 0, .int .i64 0]), 5, 24) := by kernel_rfl
def Fr.cells (f : Fr) : List Value := [.bool f.dict, .bool f.want, .bool f.has, .int .i64 f.at_, .int .i64 f.end_]
def flat (L : List Fr) : List Value := L.flatMap Fr.cells
theorem flat_length (L : List Fr) : (flat L).length = L.length * 5 := by
  induction L with
  | nil => rfl
  | cons f L ih => simp [flat, Fr.cells] at ih ⊢; omega
theorem flat_snoc (I : List Fr) (f : Fr) : flat (I ++ [f]) = flat I ++ f.cells := by simp [flat]
/-- The scanner's stack in memory. -/
def Stack (w : World) (base : Nat) (sv : Value) (L : List Fr) : Prop := w.ownsRow base 40 5 sv L.length (flat L)
theorem Stack.top {w : World} {base : Nat} {sv : Value} {I : List Fr} {f : Fr} (h : Stack w base sv (I ++ [f])) :
    ∃ g cap, sv = .slice (some ⟨g, 0, none⟩) (I.length + 1) cap ∧ base ≤ g ∧ g < w.heap.size ∧ 0 < cap ∧ I.length + 1 ≤ cap ∧ (∀ j x, f.cells[j]? = some x → w.cell? ⟨g, I.length * 5 + j, none⟩ = some x) ∧ ∀ j, w.frozen? ⟨g, j, none⟩ = false := by
  have h' := h
  unfold Stack at h h'
  rw [flat_snoc, List.length_append, List.length_singleton] at h h'
  rcases h.2 with ⟨_, h0⟩ | ⟨g, cap, cur, rfl, hb, hg, hnc, hcm, hcs, htake⟩
  · omega
  · refine ⟨g, cap, rfl, hb, (Array.getElem?_eq_some_iff.1 hg).1, by omega, hnc, fun j x hx => ?_, fun j => h'.frozenAt j⟩
    have hj : j < 5 := (List.getElem?_eq_some_iff.1 hx).1
    rw [h'.cellAt _ (by omega), List.getElem?_append_right (by rw [flat_length]; omega), flat_length, Nat.add_sub_cancel_left]
    exact hx
theorem Stack.pop {w : World} {base g cap : Nat} {I : List Fr} {f : Fr} (h : Stack w base (.slice (some ⟨g, 0, none⟩) (I.length + 1) cap) (I ++ [f])) : Stack w base (.slice (some ⟨g, 0, none⟩) I.length cap) I := by
  unfold Stack at h ⊢
  rw [flat_snoc, List.length_append, List.length_singleton] at h
  rcases h.2 with ⟨h', _⟩ | ⟨g', cap', cur, h', hb, hg, hnc, hcm, hcs, htake⟩
  · simp at h'
  · simp only [Value.slice.injEq, Option.some.injEq, Addr.mk.injEq, and_true, true_and] at h'
    obtain ⟨rfl, rfl⟩ := h'
    refine ⟨flat_length I, .inr ⟨g, cap, cur, rfl, hb, hg, by omega, hcm, hcs, ?_⟩⟩
    have := congrArg (List.take (I.length * 5)) htake
    rw [List.take_take, show min (I.length * 5) ((I.length + 1) * 5) = I.length * 5 by omega, ← flat_length I, List.take_left] at this
    rw [← flat_length I]
    exact this
theorem Stack.kept {w w' : World} {base : Nat} {sv : Value} {L : List Fr} {r : Option Nat} (h : Stack w base sv L) (hg : w.grownBy w' r) (hne : sv.ownBlock = none ∨ sv.ownBlock ≠ r) : Stack w' base sv L := World.ownsRow.kept h hg hne
end Go.Proofs.Qxb6609549aFmt.Dec
