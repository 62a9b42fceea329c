/- The plain side of the two laws on the index, and what its maps hold. -/
import Derived.Test.Qxb6609572aRows
import Derived.WalkKit
import Derived.ProofKit
import Derived.WalkSpells
import Derived.WalkLawsBesides
import Derived.Below
import Derived.WalkSmall
import Derived.Maps.OwnSet
import Derived.Maps.OwnRows
import Derived.Maps.GroupsBeside
import Derived.Maps.AppendAt
import Derived.Deep.RegionHeld3
import Derived.Deep.QuietTactic
import Derived.BigQuiet
import Derived.Deep.DeepCutAuto
import Derived.Deep.CutBlock
import Derived.Deep.AppendLies
namespace Go.Proofs.Qxb6609572a.Index
open Go.RowKit Go.Maps Go.WideElems Go.MapKept Go.ChangeShapes Go.WideShapes

/-! ### The log -/
/-- The places logged under x among the first k. -/
def occ (Hs Ps : Nat → Int) : Nat → Int → List Int
  | 0, _ => []
  | k + 1, x => occ Hs Ps k x ++ (if Hs k = x then [Ps k] else [])
theorem occ_hit {Hs Ps : Nat → Int} {k : Nat} {x : Int} (h : Hs k = x) : occ Hs Ps (k + 1) x = occ Hs Ps k x ++ [Ps k] := by simp [occ, h]
theorem occ_miss {Hs Ps : Nat → Int} {k : Nat} {x : Int} (h : Hs k ≠ x) : occ Hs Ps (k + 1) x = occ Hs Ps k x := by simp [occ, h]
theorem occ_le (Hs Ps : Nat → Int) (k : Nat) (x : Int) : (occ Hs Ps k x).length ≤ k := by
  induction k with
  | zero => simp [occ]
  | succ k ih => simp only [occ, List.length_append]; split <;> simp <;> omega
theorem occ_nil (Hs Ps : Nat → Int) (k : Nat) (x : Int) : occ Hs Ps k x = [] ↔ ∀ j, j < k → Hs j ≠ x := by
  induction k with
  | zero => simp [occ]
  | succ k ih =>
    simp only [occ, List.append_eq_nil_iff, ih]
    constructor
    · rintro ⟨h1, h2⟩ j hj e
      by_cases ej : j = k
      · subst ej; simp [e] at h2
      · exact h1 j (by omega) e
    · intro h
      exact ⟨fun j hj => h j (by omega), by simp [h k (by omega)]⟩
/-- Is the k-th hash met for the first time? -/
def fresh (Hs : Nat → Int) (k : Nat) : Bool := (List.range k).all (fun j => Hs j != Hs k)
/-- How many different hashes stand among the first k. -/
def nd (Hs : Nat → Int) : Nat → Nat
  | 0 => 0
  | k + 1 => nd Hs k + if fresh Hs k then 1 else 0
theorem nd_le (Hs : Nat → Int) (k : Nat) : nd Hs k ≤ k := by
  induction k with
  | zero => simp [nd]
  | succ k ih => simp only [nd]; split <;> omega
theorem fresh_iff (Hs : Nat → Int) (k : Nat) : fresh Hs k = true ↔ ∀ j, j < k → Hs j ≠ Hs k := by simp [fresh]
theorem fresh_occ (Hs Ps : Nat → Int) (k : Nat) : fresh Hs k = (occ Hs Ps k (Hs k)).isEmpty := by
  rw [Bool.eq_iff_iff, fresh_iff, List.isEmpty_iff, occ_nil]

/-! ### What the maps hold -/
structure FirstOk (D : DataW Unit) (Hs Ps : Nat → Int) (k : Nat) : Prop where
  has : ∀ x, (Lit.int .u64 x).wf = true → Maps.has D (.int .u64 x) = !(occ Hs Ps k x).isEmpty
  val : ∀ x p l, (Lit.int .u64 x).wf = true → occ Hs Ps k x = p :: l → D.atKey (.int .u64 x) (.lit (.int .i64 0)) = .lit (.int .i64 p)
  size : Maps.size D = nd Hs k
def gd (zs : List Int) : DataW Unit := if zs = [] then .nil else .slice (lits .i64 zs) []
def MoreOk (D : DataW Unit) (Hs Ps : Nat → Int) (k : Nat) : Prop := ∀ x, (Lit.int .u64 x).wf = true → D.atKey (.int .u64 x) .nil = gd (occ Hs Ps k x).tail

theorem key_lit (x : Int) : WideAt.IsKeyLit (.int .u64 x) := trivial
theorem first_start (Hs Ps : Nat → Int) : FirstOk (.map []) Hs Ps 0 := ⟨fun x _ => by simp [occ, Maps.has], fun x p l _ h => by simp [occ] at h, rfl⟩
theorem more_start (Hs Ps : Nat → Int) (k : Nat) (h : ∀ x, (Lit.int .u64 x).wf = true → (occ Hs Ps k x).tail = []) : MoreOk (.map []) Hs Ps k := fun x hx => by
  rw [h x hx]; rfl
theorem first_new {D : DataW Unit} {Hs Ps : Nat → Int} {k : Nat} (h : FirstOk D Hs Ps k) (ht : Tidy D) (hw : (Lit.int .u64 (Hs k)).wf = true) (he : occ Hs Ps k (Hs k) = []) : FirstOk (D.put (.int .u64 (Hs k)) (.lit (.int .i64 (Ps k)))) Hs Ps (k + 1) := by
  refine ⟨fun x hx => ?_, fun x p l hx ho => ?_, ?_⟩
  · by_cases e : Hs k = x
    · subst e
      rw [has_put_same ht.isMap (key_lit _), occ_hit rfl]
      simp
    · rw [has_put_other (by simpa using Ne.symm e), h.has x hx, occ_miss e]
  · by_cases e : Hs k = x
    · subst e
      rw [occ_hit rfl, he] at ho
      simp at ho
      rw [atKey_put_same ht.isMap (key_lit _), ho.1]
    · rw [occ_miss e] at ho
      rw [atKey_put_other (by simpa using Ne.symm e)]
      exact h.val x p l hx ho
  · rw [size_put ht, h.has _ hw, h.size]
    have : fresh Hs k = true := by rw [fresh_occ Hs Ps, he]; rfl
    simp [nd, this, he]
theorem first_old {D : DataW Unit} {Hs Ps : Nat → Int} {k : Nat} (h : FirstOk D Hs Ps k) {p0 : Int} {l0 : List Int} (he : occ Hs Ps k (Hs k) = p0 :: l0) : FirstOk D Hs Ps (k + 1) := by
  refine ⟨fun x hx => ?_, fun x p l hx ho => ?_, ?_⟩
  · rw [h.has x hx]
    by_cases e : Hs k = x
    · subst e; rw [occ_hit rfl, he]; rfl
    · rw [occ_miss e]
  · by_cases e : Hs k = x
    · subst e
      rw [occ_hit rfl, he] at ho
      simp at ho
      exact h.val _ p l0 hx (by rw [he, ho.1])
    · rw [occ_miss e] at ho
      exact h.val x p l hx ho
  · rw [h.size]
    have : fresh Hs k = false := by rw [fresh_occ Hs Ps, he]; rfl
    simp [nd, this]
theorem more_new {D : DataW Unit} {Hs Ps : Nat → Int} {k : Nat} (h : MoreOk D Hs Ps k) (he : occ Hs Ps k (Hs k) = []) : MoreOk D Hs Ps (k + 1) := by
  intro x hx
  rw [h x hx]
  by_cases e : Hs k = x
  · subst e; rw [occ_hit rfl, he]; rfl
  · rw [occ_miss e]
theorem more_old {D : DataW Unit} {Hs Ps : Nat → Int} {k : Nat} (h : MoreOk D Hs Ps k) (hm : IsMap D) {p0 : Int} {l0 : List Int} (he : occ Hs Ps k (Hs k) = p0 :: l0) : MoreOk (D.put (.int .u64 (Hs k)) (.slice (lits .i64 (l0 ++ [Ps k])) [])) Hs Ps (k + 1) := by
  intro x hx
  by_cases e : Hs k = x
  · subst e
    rw [atKey_put_same hm (key_lit _), occ_hit rfl, he]
    simp [gd]
  · rw [atKey_put_other (by simpa using Ne.symm e), h x hx, occ_miss e]
theorem lits_inj {a b : List Int} (h : (lits .i64 a : List (DataW Unit)) = lits .i64 b) : a = b := by
  induction a generalizing b with
  | nil => cases b <;> simp [lits] at h ⊢
  | cons x a ih =>
    cases b with
    | nil => simp [lits] at h
    | cons y b =>
      simp only [lits, List.map_cons, List.cons.injEq, DataW.lit.injEq, Lit.int.injEq, true_and] at h
      rw [h.1, ih h.2]
theorem tail_of {w : World} {base : Nat} {v : Value} {zs ys : List Int} (ho : w.ownsInts base 2 .i64 v zs) (h : gd ys = rowDatum .i64 v zs) : zs = ys := by
  rcases ho.datum (H := Unit) with ⟨h1, h2⟩ | h1
  · rw [h1] at h
    unfold gd at h
    split at h
    · rename_i e; rw [h2, e]
    · cases h
  · rw [h1] at h
    unfold gd at h
    split at h
    · cases h
    · simp only [DataW.slice.injEq, and_true] at h
      exact (lits_inj h).symm

theorem law : Keyed Try.prog 24 := int_keyed Try.underlying24
theorem zero2 (w : World) : (zeroValue 2).run Try.prog w = .ok (.int .i64 0) w := by kernel_rfl
theorem zero23 (w : World) : (zeroValue 23).run Try.prog w = .ok (.slice none 0 0) w := by kernel_rfl
theorem key_of {x : Int} (h : (Lit.int .u64 x).wf = true) : keyOf Try.prog 24 (.int .u64 x) = some (.int .u64 x) := keyOf_int_mk Try.underlying24 h

/-- One half: the map of first places, and the map of the others (made only when it is wanted). -/
def MapsAt (w : World) (b1 : Nat) (mv : Value) (k : Nat) (Hs Ps : Nat → Int) : Prop :=
  (∃ D1 : DataW Unit, w.ownsMap Try.prog 24 (plainElem Try.prog 2) b1 k D1 ∧ FirstOk D1 Hs Ps k) ∧
  ((mv = .map none ∧ ∀ x, (Lit.int .u64 x).wf = true → (occ Hs Ps k x).tail = []) ∨
   ∃ (b2 : Nat) (D2 : DataW Unit), mv = .map (some b2) ∧ b1 < b2 ∧ w.ownsGroups Try.prog 24 (b2 + 1) 2 .i64 b2 k D2 ∧ MoreOk D2 Hs Ps k)

/-- A look-up reads the map's block alone. -/
theorem look_same {P : Program} {k e t : TypeId} {R : Value → Option (DataW Unit × List MemPlace)} (K : Keyed P k) (ht : P.underlying t = some (.map k e)) {z : Value} (hz : ∀ w, (zeroValue e).run P w = .ok z w) {w w' : World} {b : Nat} {es : Array MapEntry} {clock : Nat}
    (hb : w.heap[b]? = some (.map es clock)) (hb' : w'.heap[b]? = some (.map es clock)) (F : Fit P k R es clock) {key : Value} {kl : Lit} (hkey : keyOf P k key = some kl) (c : Bool) {v : Value} (h : (Instr.lookup t (.map (some b)) key c).run P w = .ok v w) :
    (Instr.lookup t (.map (some b)) key c).run P w' = .ok v w' := by
  have hn : es.toList.Pairwise (fun x y => x.key ≠ y.key) := ((stamped_iff es clock).1 F.stamped).2.2
  rcases Maps.fit_look c K ht (hz w) hb F hkey with ⟨h1, h2, _⟩ | ⟨e0, _, m0, k0, h1, _⟩ <;> rcases Maps.fit_look c K ht (hz w') hb' F hkey with ⟨g1, g2, _⟩ | ⟨e1, _, m1, k1, g1, _⟩
  · rw [h1] at h; rw [g1]; simp only [Result.ok.injEq, and_true] at h ⊢; exact h
  · exact absurd k1 (h2 e1 m1)
  · exact absurd k0 (g2 e0 m0)
  · have : e0 = e1 := by
      refine Classical.byContradiction fun hne => ?_
      rcases List.mem_iff_getElem.1 m0 with ⟨i, hi, rfl⟩
      rcases List.mem_iff_getElem.1 m1 with ⟨j, hj, rfl⟩
      have hp := List.pairwise_iff_getElem.1 hn
      rcases Nat.lt_trichotomy i j with c1 | c1 | c1
      · exact hp i j hi hj c1 (k0.trans k1.symm)
      · subst c1; exact hne rfl
      · exact hp j i hj hi c1 (k1.trans k0.symm)
    subst this
    rw [h1] at h; rw [g1]; simp only [Result.ok.injEq, and_true] at h ⊢; exact h
end Go.Proofs.Qxb6609572a.Index
