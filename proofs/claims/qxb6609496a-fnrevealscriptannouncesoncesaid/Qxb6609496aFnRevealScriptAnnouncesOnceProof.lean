/- 'Rows.FnRevealScriptAnnouncesOnceSaid': the row's step. The frame after the guide's shell (howto/shells), turned by hand: the sixth parameter is a slice of bools. -/
import Derived.Test.Qxb6609496aRows
import Derived.Test.Qxb6609496aRevealC
import Derived.WalkKit
import Derived.ProofKit
import Derived.OpenShut
import Derived.ShutString
import Derived.ChangeOld
import Derived.Below
import Derived.Deep.Grids
namespace Go.Proofs.Qxb6609496a.fnRevealScriptAnnouncesOnce
open Go.ChangeShapes Go.WideShapes Go.ChangeAt Go.RowKit
set_option linter.unusedVariables false

theorem own : ownKnob Try.prog.godebug = none := by kernel_rfl
theorem laidOut : laidOutB Try.prog = true := by kernel_rfl

/-- What the walk is told of a slice that came in: nil; or it leads to its elements. -/
def IsRow (w : World) (a : Option Addr) (len cap : Nat) (f : Nat → Value) : Prop :=
  (a = none ∧ len = 0 ∧ cap = 0) ∨ ∃ x, a = some x ∧ len ≤ maxLen ∧ ∀ i, i < len → w.cell? (x.add i) = some (f i)

theorem IsRow.le {w : World} {a : Option Addr} {len cap : Nat} {f : Nat → Value} (h : IsRow w a len cap f) : len ≤ maxLen := by
  rcases h with ⟨_, h, _⟩ | ⟨_, _, h, _⟩
  · omega
  · exact h
theorem IsRow.pos {w : World} {a : Option Addr} {len cap : Nat} {f : Nat → Value} (h : IsRow w a len cap f) (hp : 0 < len) :
    ∃ b o, a = some ⟨b, o, none⟩ ∧ b < w.heap.size ∧ ∀ i, i < len → w.cell? ⟨b, o + i, none⟩ = some (f i) := by
  rcases h with ⟨_, h, _⟩ | ⟨x, rfl, _, hc⟩
  · omega
  · obtain ⟨b, o, sp⟩ := x
    have h0 := hc 0 hp
    have hs : sp = none := World.cell?_spot h0
    subst hs
    exact ⟨b, o, rfl, World.block_lt_of_cell? _ _ h0, fun i hi => by rw [← add_plain]; exact hc i hi⟩

theorem walk (a0 : Option Addr) (l0 c0 : Nat) (Z : Nat → Int) (an : Bool) (dv dr : Int) (a4 : Option Addr) (l4 c4 : Nat) (K : Nat → Nat) (a5 : Option Addr) (l5 c5 : Nat) (C : Nat → Bool) (w : World)
    (w0 : IsRow w a0 l0 c0 (fun i => .int .u64 (Z i))) (w2 : (Lit.int .u8 dv).wf = true) (w4 : IsRow w a4 l4 c4 (fun i => .int .u32 (K i))) (k4 : ∀ i, i < l4 → K i ≤ 4294967295) (w5 : IsRow w a5 l5 c5 (fun i => .bool (C i))) :
    Calls Try.prog 4 #[.slice a0 l0 c0, .bool an, .int .u8 dv, .int .i64 dr, .slice a4 l4 c4, .slice a5 l5 c5] w fun e w' => e = .returned (.bool true) ∧ Below w.heap.size w w' := by
  by_cases hne : l5 ≠ l4 ∨ 65536 < l0 ∨ 16384 < l4 ∨ 1 < dv ∨ dr < 0
  · exact Reveal.law_early a0 l0 c0 an dv dr a4 l4 c4 a5 l5 c5 w w0.le w4.le w5.le hne
  have e5 : l5 = l4 := by omega
  subst e5
  have hdv := bounds_u8 w2
  by_cases hn : l5 = 0
  · subst hn
    refine Reveal.law_empty a0 l0 c0 an dv dr a4 c4 a5 c5 Z w (by omega) (by omega) (by omega) (by omega) ?_
    by_cases hl : 0 < l0
    · obtain ⟨b, o, rfl, hb, hc⟩ := w0.pos hl
      exact .inr (.inr ⟨b, o, rfl, hc, fun _ => hb⟩)
    · rcases w0 with h | ⟨x, rfl, _⟩
      · exact .inl h
      · exact .inr (.inl ⟨x, rfl, by omega⟩)
  obtain ⟨b4, o4, rfl, hb4, hc4⟩ := w4.pos (by omega)
  obtain ⟨b5, o5, rfl, hb5, hc5⟩ := w5.pos (by omega)
  by_cases hl : 0 < l0
  · obtain ⟨b0, o0, rfl, hb0, hc0⟩ := w0.pos hl
    exact Reveal.law_script b0 o0 l0 c0 an dv dr b4 o4 l5 c4 b5 o5 c5 Z K C w (by omega) (by omega) (by omega) (by omega) (by omega) (by omega) k4 hc0 (fun _ => hb0) hc4 hb4 hc5 hb5
  · have e0 : l0 = 0 := by omega
    subst e0
    exact Reveal.law_noshare a0 c0 an dv dr b4 o4 l5 c4 (some ⟨b5, o5, none⟩) c5 K w (by omega) (by omega) (by omega) (by omega) (k4 0 (by omega)) (by simpa using hc4 0 (by omega))

set_option maxRecDepth 100000 in
theorem lifted (os : Os) (started : os.Started) (H : Type) (enc : TypeId × Value → H) :
    ReturnsInHanded {} Try.checked os 4 .any (Rows.fnRevealScriptAnnouncesOnceSpec.pre6 enc Try.prog Try.f4 Rows.fnRevealScriptAnnouncesOnceRow.domain false) (Rows.fnRevealScriptAnnouncesOnceSpec.post enc Try.prog Try.f4 false true false false) := by
  refine returnsInHanded_of_change (C := Try.checked) own started (by kernel_rfl) Try.func4
    (ChangeSpec.witness6 (enc := enc) (C := Try.checked) false ⟨#[], #[.slice none 0 0, .bool false, .int .u8 0, .int .i64 0, .slice none 0 0, .slice none 0 0], []⟩ 8 (by kernel_rfl) (by kernel_rfl) (by kernel_rfl) (by kernel_rfl)) ?_
  intro W base args ds gs before hval0 hW hcnd _
  have hval : ∀ (j : Nat) t v, Try.f4.params[j]? = some t → args[j]? = some v → Value.okWide Try.prog W .any base t v := hval0
  have hW' := hW
  obtain ⟨p, q, hA0, hV, rfl, hfz, hnd⟩ := hW
  have hA : DataW.TrodAll enc Try.prog W 0 (fun _ => true) true Try.f4.params.toList args.toList ds p := hA0
  rw [Try.params4] at hA hval
  obtain ⟨v0, vs0, d0, ds0, p0, q0, hargs, rfl, rfl, h0, r0⟩ := trodAll_cons hA
  obtain ⟨v1, vs1, d1, ds1, p1, q1, rfl, rfl, rfl, h1, r1⟩ := trodAll_cons r0
  obtain ⟨v2, vs2, d2, ds2, p2, q2, rfl, rfl, rfl, h2, r2⟩ := trodAll_cons r1
  obtain ⟨v3, vs3, d3, ds3, p3, q3, rfl, rfl, rfl, h3, r3⟩ := trodAll_cons r2
  obtain ⟨v4, vs4, d4, ds4, p4, q4, rfl, rfl, rfl, h4, r4⟩ := trodAll_cons r3
  obtain ⟨v5, vs5, d5, ds5, p5, q5, rfl, rfl, rfl, h5, r5⟩ := trodAll_cons r4
  obtain ⟨rfl, rfl, rfl⟩ := trodAll_nil r5
  obtain rfl : args = #[v0, v1, v2, v3, v4, v5] := by cases args; simp_all
  obtain ⟨rfl, rfl⟩ := trodVars_none hV
  obtain ⟨a0, len0, cap0, rfl⟩ := okWide_slice Try.underlying33 (hval 0 33 v0 rfl rfl)
  have k0 := h0
  have lt0 : ∀ x ∈ p0, x.block < W.heap.size := by obtain ⟨m, hm⟩ := k0; exact DataW.trod_lt m _ _ _ hm
  obtain ⟨Z, w0⟩ : ∃ Z : Nat → Int, IsRow W a0 len0 cap0 (fun i => .int .u64 (Z i)) := by
    obtain ⟨fuel, hf⟩ := h0
    rcases open_ints Try.underlying33 Try.underlying40 (by kernel_rfl) hf with ⟨hcs, _⟩ | ⟨x, l, c, zs, hcs, _, hl, hm, hz, _, hcell, hwz⟩
    · simp [Value.cells] at hcs
      obtain ⟨rfl, rfl, rfl⟩ := hcs
      exact ⟨fun _ => 0, .inl ⟨rfl, rfl, rfl⟩⟩
    · simp [Value.cells] at hcs
      obtain ⟨rfl, rfl, rfl⟩ := hcs
      simp only [if_true] at hz
      exact ⟨fun i => zs.getD i 0, .inr ⟨x, rfl, by omega, fun i hi => hcell i (by omega)⟩⟩
  obtain ⟨an, rfl, rfl, rfl⟩ := open_bool Try.underlying4 (hval 1 4 v1 rfl rfl) h1
  obtain ⟨dv, rfl, rfl, rfl, w2⟩ := open_int Try.underlying5 (hval 2 5 v2 rfl rfl) h2
  obtain ⟨dr, rfl, rfl, rfl, w3⟩ := open_int Try.underlying3 (hval 3 3 v3 rfl rfl) h3
  obtain ⟨a4, len4, cap4, rfl⟩ := okWide_slice Try.underlying23 (hval 4 23 v4 rfl rfl)
  have k4 := h4
  have lt4 : ∀ x ∈ p4, x.block < W.heap.size := by obtain ⟨m, hm⟩ := k4; exact DataW.trod_lt m _ _ _ hm
  obtain ⟨K, w4, hK⟩ : ∃ K : Nat → Nat, IsRow W a4 len4 cap4 (fun i => .int .u32 (K i)) ∧ ∀ i, i < len4 → K i ≤ 4294967295 := by
    obtain ⟨fuel, hf⟩ := h4
    rcases open_ints Try.underlying23 Try.underlying31 (by kernel_rfl) hf with ⟨hcs, _⟩ | ⟨x, l, c, zs, hcs, _, hl, hm, hz, _, hcell, hwz⟩
    · simp [Value.cells] at hcs
      obtain ⟨rfl, rfl, rfl⟩ := hcs
      exact ⟨fun _ => 0, .inl ⟨rfl, rfl, rfl⟩, fun i hi => by omega⟩
    · simp [Value.cells] at hcs
      obtain ⟨rfl, rfl, rfl⟩ := hcs
      simp only [if_true] at hz
      have hb : ∀ i, i < len4 → 0 ≤ zs.getD i 0 ∧ zs.getD i 0 ≤ 4294967295 := fun i hi => by
        have hi' : i < zs.length := by omega
        have : zs.getD i 0 = zs[i] := by simp [List.getD, hi']
        rw [this]
        exact bounds_u32 (hwz _ (List.getElem_mem hi'))
      refine ⟨fun i => (zs.getD i 0).toNat, .inr ⟨x, rfl, by omega, fun i hi => ?_⟩, fun i hi => ?_⟩
      · rw [hcell i (by omega)]
        have := hb i hi
        simp only [Option.some.injEq, Value.int.injEq, true_and]
        omega
      · have := hb i hi
        show (zs.getD i 0).toNat ≤ 4294967295
        omega
  obtain ⟨a5, len5, cap5, rfl⟩ := okWide_slice Try.underlying29 (hval 5 29 v5 rfl rfl)
  have k5 := h5
  have lt5 : ∀ x ∈ p5, x.block < W.heap.size := by obtain ⟨m, hm⟩ := k5; exact DataW.trod_lt m _ _ _ hm
  obtain ⟨C, w5⟩ : ∃ C : Nat → Bool, IsRow W a5 len5 cap5 (fun i => .bool (C i)) := by
    obtain ⟨fuel, hf⟩ := h5
    rcases Deep.open_bools Try.underlying29 Try.underlying4 (by kernel_rfl) hf with ⟨hcs, _⟩ | ⟨x, l, c, B, hcs, _, hl, hm, _, hcell⟩
    · simp [Value.cells] at hcs
      obtain ⟨rfl, rfl, rfl⟩ := hcs
      exact ⟨fun _ => false, .inl ⟨rfl, rfl, rfl⟩⟩
    · simp [Value.cells] at hcs
      obtain ⟨rfl, rfl, rfl⟩ := hcs
      exact ⟨B, .inr ⟨x, rfl, by omega, fun i hi => hcell i (by omega)⟩⟩
  clear hA0 hval0
  refine (walk a0 len0 cap0 Z an dv dr a4 len4 cap4 K a5 len5 cap5 C W w0 w2 w4 hK w5).mono fun e W' ⟨he, bel⟩ => ?_
  subst he
  exact ⟨_, rfl, _, _, _, [], _, [], hW', trodAll_mk1 (shut_bool Try.underlying4 _), (trodAll_cons_mk (Below.trod laidOut (by kernel_rfl) (of_decide_eq_true (by kernel_rfl)) k0 bel lt0) (trodAll_cons_mk (shut_bool Try.underlying4 an) (trodAll_cons_mk (shut_int Try.underlying5 w2) (trodAll_cons_mk (shut_int Try.underlying3 w3) (trodAll_cons_mk (Below.trod laidOut (by kernel_rfl) (of_decide_eq_true (by kernel_rfl)) k4 bel lt4) (trodAll_cons_mk (Below.trod laidOut (by kernel_rfl) (of_decide_eq_true (by kernel_rfl)) k5 bel lt5) trodAll_mk0)))))), rfl, bel.frame _, fun h => by cases h⟩

theorem over : Rows.fnRevealScriptAnnouncesOnceRow.holds Try.pinned (OpenSpec.ofChange Rows.fnRevealScriptAnnouncesOnceSpec) :=
  OpenClaim.holds_of_wide 4 Try.f4 rfl rfl rfl rfl rfl rfl rfl ⟨rfl, rfl, rfl, rfl, rfl⟩ rfl rfl rfl rfl rfl (by kernel_rfl) Try.func4 (by kernel_rfl)
    (of_decide_eq_true (by kernel_rfl)) (by unfold Func.isWrapper; first | (rw [if_pos (by decide +kernel)]; kernel_rfl) | (rw [if_neg (by decide +kernel)]; exact ⟨rfl, rfl⟩))
    (fun os started H enc _ => lifted os started H enc)

/-- ████ THE STATEMENT ████ -/
theorem proved : Rows.FnRevealScriptAnnouncesOnceSaid := over
#print axioms proved
end Go.Proofs.Qxb6609496a.fnRevealScriptAnnouncesOnce
