/- What one value's bytes are: a certificate by fuel, over positions. -/
import Derived.Test.Qxb6609549aFmtDecE
namespace Go.Proofs.Qxb6609549aFmt.Dec

section
variable (bs : Nat → Int) (u : Bool)
/-- k digits at p, without a leading zero. -/
structure Digs (p k : Nat) : Prop where
  pos : 0 < k
  dig : ∀ i, i < k → 48 ≤ bs (p + i) ∧ bs (p + i) ≤ 57
  lead : bs p = 48 → k = 1
/-- An integer from p to q. -/
def IntAt (p q : Nat) : Prop := bs p = 105 ∧ ((∃ k, Digs bs (p + 1) k ∧ bs (p + 1 + k) = 101 ∧ q = p + 1 + k + 1) ∨ ∃ k, bs (p + 1) = 45 ∧ Digs bs (p + 2) k ∧ bs (p + 2) ≠ 48 ∧ bs (p + 2 + k) = 101 ∧ q = p + 2 + k + 1)
/-- A byte string at p: k digits, m bytes, up to q. -/
structure StrAt (p k m q : Nat) : Prop where
  digs : Digs bs p k
  colon : bs (p + k) = 58
  size : num bs p k = m
  stop : q = p + k + 1 + m
/-- Items one behind the other. -/
inductive Items (R : Nat → Nat → Nat → Nat → Prop) (p0 : Nat) : Nat → Nat → Nat → Prop
  | nil : Items R p0 p0 0 0
  | snoc {p q c h c' h' : Nat} : Items R p0 p c h → R p q c' h' → Items R p0 q (c + c') (max h h')
/-- Entries one behind the other. -/
inductive Ents (R : Nat → Nat → Nat → Nat → Prop) (p0 : Nat) : Nat → Nat → Nat → Option (Nat × Nat) → Prop
  | nil : Ents R p0 p0 0 0 none
  | snoc {p s q c h c' h' k m : Nat} {last : Option (Nat × Nat)} : Ents R p0 p c h last → StrAt bs p k m s → (u = false → ∀ l, last = some l → 0 < ord (seg bs (p + k + 1) m) (seg bs l.1 l.2)) → R s q c' h' → Ents R p0 q (c + c') (max h h') (some (p + k + 1, m))
/-- One value from p to q: c values, h deep. -/
def Val : Nat → Nat → Nat → Nat → Nat → Prop
  | 0 => fun _ _ _ _ => False
  | n + 1 => fun p q c h => (IntAt bs p q ∧ c = 1 ∧ h = 0) ∨ (∃ k m, StrAt bs p k m q ∧ c = 1 ∧ h = 0)
      ∨ (bs p = 108 ∧ ∃ e c0 h0, Items (Val n) (p + 1) e c0 h0 ∧ bs e = 101 ∧ q = e + 1 ∧ c = c0 + 1 ∧ h = h0 + 1)
      ∨ (bs p = 100 ∧ ∃ e c0 h0 last, Ents bs u (Val n) (p + 1) e c0 h0 last ∧ bs e = 101 ∧ q = e + 1 ∧ c = c0 + 1 ∧ h = h0 + 1)
end

theorem Items.imp {R R' : Nat → Nat → Nat → Nat → Prop} {p0 p c h : Nat} (hR : ∀ p q c h, R p q c h → R' p q c h) (hi : Items R p0 p c h) : Items R' p0 p c h := by
  induction hi with
  | nil => exact .nil
  | snoc _ h2 ih => exact .snoc ih (hR _ _ _ _ h2)
theorem Ents.imp {bs : Nat → Int} {u : Bool} {R R' : Nat → Nat → Nat → Nat → Prop} {p0 p c h : Nat} {last : Option (Nat × Nat)} (hR : ∀ p q c h, R p q c h → R' p q c h) (hi : Ents bs u R p0 p c h last) : Ents bs u R' p0 p c h last := by
  induction hi with
  | nil => exact .nil
  | snoc _ h1 h2 h3 ih => exact .snoc ih h1 h2 (hR _ _ _ _ h3)
theorem Val.succ {bs : Nat → Int} {u : Bool} {n p q c h : Nat} (hv : Val bs u n p q c h) : Val bs u (n + 1) p q c h := by
  induction n generalizing p q c h with
  | zero => exact hv.elim
  | succ n ih =>
    rcases hv with hv | hv | ⟨h1, e, c0, h0, h2, h3⟩ | ⟨h1, e, c0, h0, last, h2, h3⟩
    · exact .inl hv
    · exact .inr (.inl hv)
    · exact .inr (.inr (.inl ⟨h1, e, c0, h0, h2.imp (fun _ _ _ _ h => ih h), h3⟩))
    · exact .inr (.inr (.inr ⟨h1, e, c0, h0, last, h2.imp (fun _ _ _ _ h => ih h), h3⟩))
theorem Val.mono {bs : Nat → Int} {u : Bool} {n m p q c h : Nat} (hv : Val bs u n p q c h) (hm : n ≤ m) : Val bs u m p q c h := by
  induction m with
  | zero => obtain rfl : n = 0 := by omega
            exact hv
  | succ m ih =>
    by_cases e : n = m + 1
    · subst e; exact hv
    · exact (ih (by omega)).succ

theorem Items.le {R : Nat → Nat → Nat → Nat → Prop} {p0 p c h : Nat} (hR : ∀ p q c h, R p q c h → p < q) (hi : Items R p0 p c h) : p0 ≤ p := by
  induction hi with
  | nil => exact Nat.le_refl _
  | snoc _ h2 ih => have := hR _ _ _ _ h2; omega
theorem Ents.le {bs : Nat → Int} {u : Bool} {R : Nat → Nat → Nat → Nat → Prop} {p0 p c h : Nat} {last : Option (Nat × Nat)} (hR : ∀ p q c h, R p q c h → p < q) (hi : Ents bs u R p0 p c h last) : p0 ≤ p := by
  induction hi with
  | nil => exact Nat.le_refl _
  | snoc _ h1 _ h3 ih => have := hR _ _ _ _ h3; have := h1.stop; omega
theorem Val.lt {bs : Nat → Int} {u : Bool} {n p q c h : Nat} (hv : Val bs u n p q c h) : p < q := by
  induction n generalizing p q c h with
  | zero => exact hv.elim
  | succ n ih =>
    rcases hv with ⟨⟨_, ⟨k, _, _, h⟩ | ⟨k, _, _, _, _, h⟩⟩, _⟩ | ⟨k, m, h, _⟩ | ⟨_, e, c0, h0, h2, _, h3, _⟩ | ⟨_, e, c0, h0, last, h2, _, h3, _⟩
    · omega
    · omega
    · have := h.stop; omega
    · have := h2.le (fun _ _ _ _ h => ih h); omega
    · have := h2.le (fun _ _ _ _ h => ih h); omega
/-- No value begins with an 'e'. -/
theorem Val.ne {bs : Nat → Int} {u : Bool} {n p q c h : Nat} (hv : Val bs u n p q c h) : bs p ≠ 101 := by
  cases n with
  | zero => exact hv.elim
  | succ n =>
    rcases hv with ⟨⟨h, _⟩, _⟩ | ⟨k, m, h, _⟩ | ⟨h, _⟩ | ⟨h, _⟩
    · omega
    · have := h.digs.dig 0 h.digs.pos; rw [Nat.add_zero] at this; omega
    · omega
    · omega
theorem StrAt.first {bs : Nat → Int} {p k m q : Nat} (h : StrAt bs p k m q) : 48 ≤ bs p ∧ bs p ≤ 57 := by
  have := h.digs.dig 0 h.digs.pos
  rwa [Nat.add_zero] at this

/-- The items, counted off. -/
theorem Items.list {R : Nat → Nat → Nat → Nat → Prop} {p0 p c h : Nat} (hi : Items R p0 p c h) : ∃ (m : Nat) (P V : Nat → Nat), P 0 = p0 ∧ V 0 = 0 ∧ P m = p ∧ V m = c ∧ ∀ i, i < m → ∃ c' h', h' ≤ h ∧ R (P i) (P (i + 1)) c' h' ∧ V (i + 1) = V i + c' := by
  induction hi with
  | nil => exact ⟨0, fun _ => p0, fun _ => 0, rfl, rfl, rfl, rfl, fun i hi => by omega⟩
  | @snoc p q c h c' h' _ h2 ih =>
    obtain ⟨m, P, V, e1, e2, e3, e4, e5⟩ := ih
    have nm : ¬ m + 1 ≤ m := by omega
    refine ⟨m + 1, fun i => if i ≤ m then P i else q, fun i => if i ≤ m then V i else c + c', by simp [e1], by simp [e2], by simp [nm], by simp [nm], fun i hi => ?_⟩
    by_cases e : i = m
    · subst e
      refine ⟨c', h', Nat.le_max_right _ _, ?_, ?_⟩
      · simp [e3, nm, h2]
      · simp [e4, nm]
    · obtain ⟨c1, h1, a1, a2, a3⟩ := e5 i (by omega)
      refine ⟨c1, h1, Nat.le_trans a1 (Nat.le_max_left _ _), ?_, ?_⟩
      · simp [show i ≤ m by omega, show i + 1 ≤ m by omega, a2]
      · simp [show i ≤ m by omega, show i + 1 ≤ m by omega, a3]
/-- The entries, counted off. -/
theorem Ents.list {bs : Nat → Int} {u : Bool} {R : Nat → Nat → Nat → Nat → Prop} {p0 p c h : Nat} {last : Option (Nat × Nat)} (hi : Ents bs u R p0 p c h last) :
    ∃ (m : Nat) (P V KO KM : Nat → Nat), P 0 = p0 ∧ V 0 = 0 ∧ P m = p ∧ V m = c ∧ (last = if m = 0 then none else some (KO (m - 1), KM (m - 1))) ∧ ∀ i, i < m → ∃ k s c' h', h' ≤ h ∧ StrAt bs (P i) k (KM i) s ∧ KO i = P i + k + 1 ∧ (u = false → 0 < i → 0 < ord (seg bs (KO i) (KM i)) (seg bs (KO (i - 1)) (KM (i - 1)))) ∧ R s (P (i + 1)) c' h' ∧ V (i + 1) = V i + c' := by
  induction hi with
  | nil => exact ⟨0, fun _ => p0, fun _ => 0, fun _ => 0, fun _ => 0, rfl, rfl, rfl, rfl, rfl, fun i hi => by omega⟩
  | @snoc p s q c h c' h' k m0 last _ h1 h2 h3 ih =>
    obtain ⟨m, P, V, KO, KM, e1, e2, e3, e4, e6, e5⟩ := ih
    have nm : ¬ m + 1 ≤ m := by omega
    refine ⟨m + 1, fun i => if i ≤ m then P i else q, fun i => if i ≤ m then V i else c + c', fun i => if i < m then KO i else p + k + 1, fun i => if i < m then KM i else m0, by simp [e1], by simp [e2], by simp [nm], by simp [nm], by simp, fun i hi => ?_⟩
    by_cases e : i = m
    · subst e
      refine ⟨k, s, c', h', Nat.le_max_right _ _, ?_, ?_, ?_, ?_, ?_⟩
      · simp [e3, h1]
      · simp [e3]
      · intro hu hi0
        have hl : last = some (KO (i - 1), KM (i - 1)) := by rw [e6, if_neg (by omega)]
        have := h2 hu _ hl
        simp only [Nat.lt_irrefl, if_false, show i - 1 < i by omega, if_true]
        exact this
      · simp [nm, h3]
      · simp [e4, nm]
    · obtain ⟨k1, s1, c1, h9, a1, a2, a3, a4, a5, a6⟩ := e5 i (by omega)
      refine ⟨k1, s1, c1, h9, Nat.le_trans a1 (Nat.le_max_left _ _), ?_, ?_, ?_, ?_, ?_⟩
      · simp [show i ≤ m by omega, show i < m by omega, a2]
      · simp [show i ≤ m by omega, show i < m by omega, a3]
      · intro hu hi0
        simp only [show i < m by omega, show i - 1 < m by omega, if_true]
        exact a4 hu hi0
      · simp [show i + 1 ≤ m by omega, a5]
      · simp [show i ≤ m by omega, show i + 1 ≤ m by omega, a6]
end Go.Proofs.Qxb6609549aFmt.Dec
