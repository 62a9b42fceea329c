/- A value's bytes copied to the front are a value there. -/
import Derived.Test.Qxb6609549aFmtVal
namespace Go.Proofs.Qxb6609549aFmt.Dec
section
variable {bs bs' : Nat → Int} {s T : Nat} (he : ∀ i, s ≤ i → i < T → bs' (i - s) = bs i)
include he
theorem at_shift {p i : Nat} (hp : s ≤ p) (hi : p + i < T) : bs' (p - s + i) = bs (p + i) := by
  rw [show p - s + i = p + i - s by omega]
  exact he _ (by omega) hi
theorem Digs.shift {p k : Nat} (hd : Digs bs p k) (hp : s ≤ p) (hk : p + k ≤ T) : Digs bs' (p - s) k := by
  refine ⟨hd.pos, fun i hi => ?_, fun h => hd.lead ?_⟩
  · rw [at_shift he hp (by omega)]; exact hd.dig i hi
  · rw [← he p hp (by have := hd.pos; omega)]; exact h
theorem num_shift {p k : Nat} (hp : s ≤ p) (hk : p + k ≤ T) : num bs' (p - s) k = num bs p k := by
  induction k with
  | zero => rfl
  | succ k ih => simp only [num]; rw [ih (by omega), at_shift he hp (by omega)]
theorem seg_shift {o m : Nat} (ho : s ≤ o) (hm : o + m ≤ T) : seg bs' (o - s) m = seg bs o m := by
  unfold seg
  apply List.map_congr_left
  intro i hi
  rw [at_shift he ho (by have := List.mem_range.1 hi; omega)]
theorem IntAt.shift {p q : Nat} (hi : IntAt bs p q) (hp : s ≤ p) (hq : q ≤ T) : IntAt bs' (p - s) (q - s) := by
  rcases hi with ⟨h0, ⟨k, h1, h2, rfl⟩ | ⟨k, h1, h2, h3, h4, rfl⟩⟩
  · refine ⟨by rw [he p hp (by omega)]; exact h0, .inl ⟨k, ?_, ?_, by omega⟩⟩
    · rw [show p - s + 1 = p + 1 - s by omega]; exact h1.shift he (by omega) (by omega)
    · rw [show p - s + 1 + k = p + 1 + k - s by omega, he _ (by omega) (by omega)]; exact h2
  · refine ⟨by rw [he p hp (by omega)]; exact h0, .inr ⟨k, ?_, ?_, ?_, ?_, by omega⟩⟩
    · rw [show p - s + 1 = p + 1 - s by omega, he _ (by omega) (by omega)]; exact h1
    · rw [show p - s + 2 = p + 2 - s by omega]; exact h2.shift he (by omega) (by omega)
    · rw [show p - s + 2 = p + 2 - s by omega, he _ (by omega) (by omega)]; exact h3
    · rw [show p - s + 2 + k = p + 2 + k - s by omega, he _ (by omega) (by omega)]; exact h4
theorem StrAt.shift {p k m q : Nat} (hi : StrAt bs p k m q) (hp : s ≤ p) (hq : q ≤ T) : StrAt bs' (p - s) k m (q - s) := by
  have h0 := hi.stop
  exact ⟨hi.digs.shift he hp (by omega), by rw [at_shift he hp (by omega)]; exact hi.colon, by rw [num_shift he hp (by omega)]; exact hi.size, by omega⟩
omit he in
theorem Items.shift {R R' : Nat → Nat → Nat → Nat → Prop} {p0 p c h : Nat} (hR : ∀ p q c h, R p q c h → s ≤ p → q ≤ T → R' (p - s) (q - s) c h) (hl : ∀ p q c h, R p q c h → p < q) (hi : Items R p0 p c h) (hp : s ≤ p0) (hq : p ≤ T) : Items R' (p0 - s) (p - s) c h := by
  induction hi with
  | nil => exact .nil
  | snoc h1 h2 ih =>
    have := hl _ _ _ _ h2
    have := h1.le hl
    exact .snoc (ih (by omega)) (hR _ _ _ _ h2 (by omega) hq)
theorem Ents.shift {u : Bool} {R R' : Nat → Nat → Nat → Nat → Prop} {p0 p c h : Nat} {last : Option (Nat × Nat)} (hR : ∀ p q c h, R p q c h → s ≤ p → q ≤ T → R' (p - s) (q - s) c h) (hl : ∀ p q c h, R p q c h → p < q) (hi : Ents bs u R p0 p c h last) (hp : s ≤ p0) (hq : p ≤ T) :
    Ents bs' u R' (p0 - s) (p - s) c h (last.map fun l => (l.1 - s, l.2)) ∧ ∀ l, last = some l → s ≤ l.1 ∧ l.1 + l.2 ≤ p := by
  induction hi with
  | nil => exact ⟨.nil, fun l hl => by cases hl⟩
  | @snoc p s' q c h c' h' k m last h1 h2 h3 h4 ih =>
    have a1 := hl _ _ _ _ h4
    have a2 := h1.le hl
    have a3 := h2.stop
    obtain ⟨b1, b2⟩ := ih (by omega)
    refine ⟨?_, fun l hl => ?_⟩
    · have := Ents.snoc (bs := bs') (u := u) b1 (h2.shift he (by omega) (by omega)) (fun hu l hl => ?_) (hR _ _ _ _ h4 (by omega) hq)
      · simp only [Option.map_some]
        rw [show p + k + 1 - s = p - s + k + 1 by omega]
        exact this
      · cases hlast : last with
        | none => rw [hlast] at hl; cases hl
        | some l0 =>
          rw [hlast] at hl
          simp only [Option.map_some, Option.some.injEq] at hl
          subst hl
          obtain ⟨c1, c2⟩ := b2 l0 hlast
          rw [show p - s + k + 1 = p + k + 1 - s by omega, seg_shift he (by omega) (by omega), seg_shift he c1 (by omega)]
          exact h3 hu l0 hlast
    · simp only [Option.some.injEq] at hl
      subst hl
      exact ⟨by simp only; omega, by simp only; omega⟩
theorem Val.shift {u : Bool} {n p q c h : Nat} (hv : Val bs u n p q c h) (hp : s ≤ p) (hq : q ≤ T) : Val bs' u n (p - s) (q - s) c h := by
  induction n generalizing p q c h with
  | zero => exact hv.elim
  | succ n ih =>
    have hlt := hv.lt
    rcases hv with ⟨h1, h2⟩ | ⟨k, m, h1, h2⟩ | ⟨h1, e, c0, h0, h2, h3, rfl, h4⟩ | ⟨h1, e, c0, h0, last, h2, h3, rfl, h4⟩
    · exact .inl ⟨h1.shift he hp hq, h2⟩
    · exact .inr (.inl ⟨k, m, h1.shift he hp hq, h2⟩)
    · have hle := h2.le (fun _ _ _ _ h => h.lt)
      refine .inr (.inr (.inl ⟨by rw [he p hp (by omega)]; exact h1, e - s, c0, h0, ?_, by rw [he e (by omega) (by omega)]; exact h3, by omega, h4⟩))
      have := Items.shift (s := s) (T := T) (R' := Val bs' u n) (fun p q c h hv hp hq => ih hv hp hq) (fun _ _ _ _ h => h.lt) h2 (by omega) (by omega)
      rw [show p + 1 - s = p - s + 1 by omega] at this
      exact this
    · have hle := h2.le (fun _ _ _ _ h => h.lt)
      have := (h2.shift he (R' := Val bs' u n) (fun p q c h hv hp hq => ih hv hp hq) (fun _ _ _ _ h => h.lt) (by omega) (by omega)).1
      rw [show p + 1 - s = p - s + 1 by omega] at this
      exact .inr (.inr (.inr ⟨by rw [he p hp (by omega)]; exact h1, e - s, c0, h0, _, this, by rw [he e (by omega) (by omega)]; exact h3, by omega, h4⟩))
end
end Go.Proofs.Qxb6609549aFmt.Dec
