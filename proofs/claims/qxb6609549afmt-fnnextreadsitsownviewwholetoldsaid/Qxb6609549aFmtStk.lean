/- The scanner's plain side: what its stack says of the bytes that it has read. -/
import Derived.Test.Qxb6609549aFmtVal
namespace Go.Proofs.Qxb6609549aFmt.Dec

/-- A frame of the scanner's stack. -/
structure Fr where
  dict : Bool
  want : Bool
  has : Bool
  at_ : Int
  end_ : Int

section
variable (bs : Nat → Int) (u : Bool) (depth pos : Nat)
def Va (p q c h : Nat) : Prop := ∃ n, Val bs u n p q c h
/-- What a frame keeps of the last key. -/
def LastOk (f : Fr) (last : Option (Nat × Nat)) : Prop := match last with
  | none => f.has = false
  | some l => f.has = true ∧ f.at_ = (l.1 : Nat) ∧ f.end_ = (l.1 + l.2 : Nat)
/-- One frame: it began at s; the scanner stands at p; c0 values in it so far, h0 deep. -/
inductive Frame (f : Fr) (s p c0 h0 : Nat) : Prop
  | list : f.dict = false → bs s = 108 → Items (Va bs u) (s + 1) p c0 h0 → Frame f s p c0 h0
  | key (last : Option (Nat × Nat)) : f.dict = true → f.want = true → bs s = 100 → Ents bs u (Va bs u) (s + 1) p c0 h0 last → LastOk f last → Frame f s p c0 h0
  | val (last : Option (Nat × Nat)) (e k m : Nat) : f.dict = true → f.want = false → bs s = 100 → Ents bs u (Va bs u) (s + 1) e c0 h0 last → StrAt bs e k m p → (u = false → ∀ l, last = some l → 0 < ord (seg bs (e + k + 1) m) (seg bs l.1 l.2)) → LastOk f (some (e + k + 1, m)) → Frame f s p c0 h0
/-- The top frame is ready for a value. -/
def Ready : List Fr → Prop
  | [] => True
  | f :: _ => f.dict = true → f.want = false
/-- The stack, its top first. -/
def Stk : List Fr → Nat → Nat → Prop
  | [], p, c => p = pos ∧ c = 0
  | f :: fs, p, c => ∃ s c1 c0 h0, Ready fs ∧ Stk fs s c1 ∧ Frame bs u f s p c0 h0 ∧ c = c1 + 1 + c0 ∧ depth + fs.length + 1 + h0 ≤ 512
end

theorem Items.fuel {bs : Nat → Int} {u : Bool} {p0 p c h : Nat} (hi : Items (Va bs u) p0 p c h) : ∃ n, Items (Val bs u n) p0 p c h := by
  induction hi with
  | nil => exact ⟨0, .nil⟩
  | snoc _ h2 ih =>
    obtain ⟨n, hn⟩ := ih
    obtain ⟨m, hm⟩ := h2
    exact ⟨max n m, .snoc (hn.imp (fun _ _ _ _ h => h.mono (Nat.le_max_left _ _))) (hm.mono (Nat.le_max_right _ _))⟩
theorem Ents.fuel {bs : Nat → Int} {u : Bool} {p0 p c h : Nat} {last : Option (Nat × Nat)} (hi : Ents bs u (Va bs u) p0 p c h last) : ∃ n, Ents bs u (Val bs u n) p0 p c h last := by
  induction hi with
  | nil => exact ⟨0, .nil⟩
  | snoc _ h1 h2 h3 ih =>
    obtain ⟨n, hn⟩ := ih
    obtain ⟨m, hm⟩ := h3
    exact ⟨max n m, .snoc (hn.imp (fun _ _ _ _ h => h.mono (Nat.le_max_left _ _))) h1 h2 (hm.mono (Nat.le_max_right _ _))⟩

variable {bs : Nat → Int} {u : Bool} {depth pos : Nat}
/-- The container closes at an 'e'. -/
theorem Frame.close {f : Fr} {s p c0 h0 : Nat} (h : Frame bs u f s p c0 h0) (hw : f.dict = false ∨ f.want = true) (he : bs p = 101) : Va bs u s (p + 1) (c0 + 1) (h0 + 1) := by
  cases h with
  | list h1 h2 h3 =>
    obtain ⟨n, hn⟩ := h3.fuel
    exact ⟨n + 1, .inr (.inr (.inl ⟨h2, p, c0, h0, hn, he, rfl, rfl, rfl⟩))⟩
  | key last h1 h2 h3 h4 h5 =>
    obtain ⟨n, hn⟩ := h4.fuel
    exact ⟨n + 1, .inr (.inr (.inr ⟨h3, p, c0, h0, last, hn, he, rfl, rfl, rfl⟩))⟩
  | val last e k m h1 h2 =>
    rcases hw with hw | hw
    · rw [h1] at hw; cases hw
    · rw [h2] at hw; cases hw
/-- What a finished value does to the frame around it. -/
def fed (f : Fr) : Fr := if f.dict then { f with want := true } else f
theorem Frame.feed {f : Fr} {s p q c0 h0 c h : Nat} (hf : Frame bs u f s p c0 h0) (hr : f.dict = true → f.want = false) (hv : Va bs u p q c h) : Frame bs u (fed f) s q (c0 + c) (max h0 h) := by
  cases hf with
  | list h1 h2 h3 => exact .list (by simp [fed, h1]) h2 (.snoc h3 hv)
  | key last h1 h2 => rw [hr h1] at h2; cases h2
  | val last e k m h1 h2 h3 h4 h5 h6 h7 =>
    refine .key (some (e + k + 1, m)) (by simp [fed, h1]) (by simp [fed, h1]) h3 (.snoc h4 h5 h6 hv) ?_
    obtain ⟨a1, a2, a3⟩ := h7
    exact ⟨by simp [fed, h1, a1], by simp [fed, h1, a2], by simp [fed, h1, a3]⟩
theorem Stk.feed {f : Fr} {fs : List Fr} {p q c c' h : Nat} (hs : Stk bs u depth pos (f :: fs) p c) (hr : Ready (f :: fs)) (hv : Va bs u p q c' h) (hh : depth + (fs.length + 1) + h ≤ 512) : Stk bs u depth pos (fed f :: fs) q (c + c') := by
  obtain ⟨s, c1, c0, h0, hrd, h1, h2, h3, h4⟩ := hs
  exact ⟨s, c1, c0 + c', max h0 h, hrd, h1, h2.feed hr hv, by omega, by omega⟩
/-- A container opens. -/
theorem Stk.push {fs : List Fr} {p c : Nat} (hs : Stk bs u depth pos fs p c) (hrd : Ready fs) (d : Bool) (hb : bs p = if d then 100 else 108) (hh : depth + fs.length < 512) : Stk bs u depth pos (⟨d, true, false, 0, 0⟩ :: fs) (p + 1) (c + 1) := by
  refine ⟨p, c, 0, 0, hrd, hs, ?_, by omega, by omega⟩
  cases d with
  | false => exact .list rfl (by simpa using hb) .nil
  | true => exact .key none rfl rfl (by simpa using hb) .nil rfl
/-- A key is read. -/
theorem Stk.keyed {f : Fr} {fs : List Fr} {p q c k m : Nat} (hs : Stk bs u depth pos (f :: fs) p c) (hd : f.dict = true) (hw : f.want = true) (hk : StrAt bs p k m q)
    (ho : u = false → f.has = true → ∀ l : Nat × Nat, f.at_ = (l.1 : Nat) → f.end_ = (l.1 + l.2 : Nat) → 0 < ord (seg bs (p + k + 1) m) (seg bs l.1 l.2)) :
    Stk bs u depth pos (⟨true, false, true, (p + k + 1 : Nat), (q : Nat)⟩ :: fs) q c := by
  obtain ⟨s, c1, c0, h0, hrd, h1, h2, h3, h4⟩ := hs
  refine ⟨s, c1, c0, h0, hrd, h1, ?_, h3, h4⟩
  cases h2 with
  | list a1 => rw [hd] at a1; cases a1
  | key last a1 a2 a3 a4 a5 =>
    refine .val last p k m rfl rfl a3 a4 hk (fun hu l hl => ?_) ⟨rfl, rfl, by show (q : Int) = _; rw [hk.stop]⟩
    subst hl
    exact ho hu a5.1 l a5.2.1 a5.2.2
  | val last e k' m' a1 a2 => rw [a2] at hw; cases hw
/-- The container at the top closes: a value from where it began. -/
theorem Stk.pop {f : Fr} {fs : List Fr} {p c : Nat} (hs : Stk bs u depth pos (f :: fs) p c) (hw : f.dict = false ∨ f.want = true) (he : bs p = 101) :
    ∃ s c1 c' h, Ready fs ∧ Stk bs u depth pos fs s c1 ∧ Va bs u s (p + 1) c' h ∧ c = c1 + c' ∧ depth + fs.length + h ≤ 512 ∧ 0 < c' := by
  obtain ⟨s, c1, c0, h0, hrd, h1, h2, h3, h4⟩ := hs
  exact ⟨s, c1, c0 + 1, h0 + 1, hrd, h1, h2.close hw he, by omega, by omega, by omega⟩
theorem Ents.last_le {R : Nat → Nat → Nat → Nat → Prop} {p0 p c h : Nat} {last : Option (Nat × Nat)} (hR : ∀ p q c h, R p q c h → p < q) (hi : Ents bs u R p0 p c h last) : ∀ l, last = some l → l.1 + l.2 ≤ p := by
  intro l hl
  cases hi with
  | nil => cases hl
  | snoc h1 h2 h3 h4 =>
    simp only [Option.some.injEq] at hl
    subst hl
    have := h2.stop
    have := hR _ _ _ _ h4
    simp only
    omega
/-- Where the last key lies. -/
theorem Stk.last {f : Fr} {fs : List Fr} {p c : Nat} (hs : Stk bs u depth pos (f :: fs) p c) (hd : f.dict = true) (hw : f.want = true) (hh : f.has = true) : ∃ a m : Nat, f.at_ = (a : Nat) ∧ f.end_ = (a + m : Nat) ∧ a + m ≤ p := by
  obtain ⟨s, c1, c0, h0, hrd, h1, h2, h3, h4⟩ := hs
  cases h2 with
  | list a1 => rw [hd] at a1; cases a1
  | key last a1 a2 a3 a4 a5 =>
    cases last with
    | none => have : f.has = false := a5
              rw [hh] at this; cases this
    | some l => exact ⟨l.1, l.2, a5.2.1, a5.2.2, a4.last_le (fun _ _ _ _ ⟨_, h⟩ => h.lt) l rfl⟩
  | val last e k' m' a1 a2 => rw [a2] at hw; cases hw
/-- At the bottom: the value is the one that was asked for. -/
theorem Stk.done {p q c c' h : Nat} (hs : Stk bs u depth pos [] p c) (hv : Va bs u p q c' h) : Va bs u pos q c' h ∧ c = 0 := by
  obtain ⟨h1, h2⟩ := hs
  subst h1
  exact ⟨hv, h2⟩
end Go.Proofs.Qxb6609549aFmt.Dec
