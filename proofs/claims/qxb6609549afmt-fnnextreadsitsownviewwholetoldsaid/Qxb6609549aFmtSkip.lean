/- The decoder on the good road: skip (19), by fuel. -/
import Derived.Test.Qxb6609549aFmtDecG
namespace Go.Proofs.Qxb6609549aFmt.Dec
open Go.RowKit Go.ChangeShapes Go.WideShapes

theorem int_any (B D n p d v q : Nat) (bs : Nat → Int) (u : Bool) (w : World) (h : Dec w B D n bs u p d v) (hi : IntAt bs p q) (hq : q ≤ n) :
    Calls Tryf.prog 21 #[.pointer (some ⟨B, 0, none⟩)] w fun e w' => (∃ t, e = .returned (.tuple #[t, .nilIface])) ∧ w.grownBy w' (some B) ∧ Dec w' B D n bs u q d v := by
  rcases hi with ⟨_, ⟨k, h1, h2, rfl⟩ | ⟨k, h0, h1, h2, h3, rfl⟩⟩
  · exact integer_plain B D n p d v k bs u w h h1.pos (by omega) h1.dig h2 h1.lead
  · exact integer_neg B D n p d v k bs u w h h1.pos h0 (by omega) h1.dig h3 h2

/-- What skip does at a value. -/
def Skips (B D N : Nat) (bs : Nat → Int) (u : Bool) (p q c h : Nat) : Prop := ∀ (d v : Nat) (w : World), Dec w B D N bs u p d v → d + h ≤ 512 → v + c ≤ 2097152 → q ≤ N →
  Calls Tryf.prog 19 #[.pointer (some ⟨B, 0, none⟩)] w fun e w' => e = .returned .nilIface ∧ w.grownBy w' (some B) ∧ Dec w' B D N bs u q d (v + c)

set_option maxHeartbeats 2000000 in
/-- An integer. -/
theorem skip_int (B D N : Nat) (bs : Nat → Int) (u : Bool) (p q : Nat) (hi : IntAt bs p q) : Skips B D N bs u p q 1 0 := by
    intro d v w hdec hdh hvc hqn
    have hk := hi.1
    have hpq : p < q := by rcases hi with ⟨_, ⟨k, _, _, rfl⟩ | ⟨k, _, _, _, _, rfl⟩⟩ <;> omega
    have HI : Hid (IntAt bs p q) := hi
    clear hi
    have HBE : Hid (∀ w, Dec w B D N bs u p d v → _) := fun w h => begin_any B D N p d v bs u 2 w h (by omega) (by omega) (by omega) (by rw [if_pos hk]) (by omega)
    have hg0 := World.grownBy_alloc w (.cells #[.pointer (some ⟨B, 0, none⟩)] 27) none
    obtain ⟨w0, hw0⟩ : ∃ w0, w.alloc (.cells #[.pointer (some ⟨B, 0, none⟩)] 27) = w0 := ⟨_, rfl⟩
    obtain ⟨S, hS⟩ : ∃ S, w.heap.size = S := ⟨_, rfl⟩
    have hb0 : w0.heap[S]? = some (.cells #[.pointer (some ⟨B, 0, none⟩)] 27 (0, 0)) := by rw [← hw0, ← hS]; exact heap_alloc_new w _
    rw [hw0] at hg0
    have HD0 : Hid (Dec w0 B D N bs u p d v) := hdec.kept hg0 (by simp) (by simp)
    have HG0 : Hid (w.grownBy w0 none) := hg0
    have HB0 : Hid (w0.heap[S]? = some (.cells #[.pointer (some ⟨B, 0, none⟩)] 27 (0, 0))) := hb0
    have hSB : S ≠ B := by have := hdec.lb; omega
    have hSl : S < w0.heap.size := (Array.getElem?_eq_some_iff.1 hb0).1
    have cs0 := cell_of_one hb0
    clear hg0 hb0 hdec
    go_enter Tryf.func19, Tryf.ntmps19
    go_wp2_with fail
    refine Calls.mono (HBE.out _ HD0.out) ?_
    rintro e w1 ⟨rfl, hg1, hd1⟩
    have HG1 : Hid (w.grownBy w1 (some B)) := (grown_any HG0.out).trans hg1
    have HD1 : Hid (Dec w1 B D N bs u p d (v + 1)) := hd1
    have cs1 : w1.cell? ⟨S, 0, none⟩ = some (.pointer (some ⟨B, 0, none⟩)) := (World.cell?_of_block (hg1.block S hSl (by simp; exact hSB))).trans cs0
    have hS1 : S < w1.heap.size := Nat.lt_of_lt_of_le hSl hg1.size
    clear hg1 hd1 HBE cs0
    go_wp2_with fail
    refine Calls.mono (int_any B D N p d (v + 1) q bs u w1 HD1.out HI.out hqn) ?_
    rintro e w2 ⟨⟨t, rfl⟩, hg2, hd2⟩
    have HG2 : Hid (w.grownBy w2 (some B)) := HG1.out.trans hg2
    have HD2 : Hid _ := hd2
    clear hg2 hd2
    go_wp2
    go_ret
    exact ⟨rfl, HG2.out, HD2.out⟩

set_option maxHeartbeats 2000000 in
/-- A byte string. -/
theorem skip_str (B D N : Nat) (bs : Nat → Int) (u : Bool) (p k m q : Nat) (hi : StrAt bs p k m q) : Skips B D N bs u p q 1 0 := by
    intro d v w hdec hdh hvc hqn
    obtain ⟨hx0, hx1⟩ := hi.first
    have hst := hi.stop
    have HI : Hid (StrAt bs p k m q) := hi
    clear hi
    have HBE : Hid (∀ w, Dec w B D N bs u p d v → _) := fun w h => begin_any B D N p d v bs u 1 w h (by omega) (by omega) (by omega) (by rw [if_neg (by omega), if_neg (by omega), if_neg (by omega), if_pos ⟨hx0, hx1⟩]) (by omega)
    have hg0 := World.grownBy_alloc w (.cells #[.pointer (some ⟨B, 0, none⟩)] 27) none
    obtain ⟨w0, hw0⟩ : ∃ w0, w.alloc (.cells #[.pointer (some ⟨B, 0, none⟩)] 27) = w0 := ⟨_, rfl⟩
    obtain ⟨S, hS⟩ : ∃ S, w.heap.size = S := ⟨_, rfl⟩
    have hb0 : w0.heap[S]? = some (.cells #[.pointer (some ⟨B, 0, none⟩)] 27 (0, 0)) := by rw [← hw0, ← hS]; exact heap_alloc_new w _
    rw [hw0] at hg0
    have HD0 : Hid (Dec w0 B D N bs u p d v) := hdec.kept hg0 (by simp) (by simp)
    have HG0 : Hid (w.grownBy w0 none) := hg0
    have HB0 : Hid (w0.heap[S]? = some (.cells #[.pointer (some ⟨B, 0, none⟩)] 27 (0, 0))) := hb0
    have hSB : S ≠ B := by have := hdec.lb; omega
    have hSl : S < w0.heap.size := (Array.getElem?_eq_some_iff.1 hb0).1
    have cs0 := cell_of_one hb0
    clear hg0 hb0 hdec
    go_enter Tryf.func19, Tryf.ntmps19
    go_wp2_with fail
    refine Calls.mono (HBE.out _ HD0.out) ?_
    rintro e w1 ⟨rfl, hg1, hd1⟩
    have HG1 : Hid (w.grownBy w1 (some B)) := (grown_any HG0.out).trans hg1
    have HD1 : Hid (Dec w1 B D N bs u p d (v + 1)) := hd1
    have cs1 : w1.cell? ⟨S, 0, none⟩ = some (.pointer (some ⟨B, 0, none⟩)) := (World.cell?_of_block (hg1.block S hSl (by simp; exact hSB))).trans cs0
    have hS1 : S < w1.heap.size := Nat.lt_of_lt_of_le hSl hg1.size
    clear hg1 hd1 HBE cs0
    go_wp2_with fail
    refine Calls.mono (bytes_any B D N p d (v + 1) k m bs u w1 HD1.out HI.out.digs.pos (by omega) HI.out.digs.dig HI.out.colon HI.out.digs.lead HI.out.size (by omega)) ?_
    rintro e w2 ⟨o, rfl, _, hg2, hd2⟩
    have HG2 : Hid (w.grownBy w2 (some B)) := HG1.out.trans hg2
    have HD2 : Hid _ := hd2
    clear hg2 hd2
    go_wp2
    go_ret
    exact ⟨rfl, HG2.out, by have h9 := HD2.out; rw [← HI.out.stop] at h9; exact h9⟩

set_option maxHeartbeats 2000000 in
/-- A list. -/
theorem skip_list (B D N : Nat) (bs : Nat → Int) (u : Bool) (p e c0 h0 : Nat) (R : Nat → Nat → Nat → Nat → Prop) (hR : ∀ p q c h, R p q c h → p < q ∧ bs p ≠ 101 ∧ Skips B D N bs u p q c h) (hk : bs p = 108) (hi : Items R (p + 1) e c0 h0) (he : bs e = 101) : Skips B D N bs u p (e + 1) (c0 + 1) (h0 + 1) := by
    intro d v w hdec hdh hvc hqn
    obtain ⟨m, P, V, hP0, hV0, hPm, hVm, hst⟩ := hi.list
    have hle := hi.le (fun p q c h hr => (hR p q c h hr).1)
    have hPl : ∀ i, i ≤ m → P i ≤ e := fun i hi => by
      have key : ∀ j, i + j ≤ m → P i ≤ P (i + j) := fun j => by
        induction j with
        | zero => intro _; exact Nat.le_refl _
        | succ j ih => intro hj; obtain ⟨c', h', _, a2, _⟩ := hst (i + j) (by omega); have := (hR _ _ _ _ a2).1; have := ih (by omega); rw [← Nat.add_assoc]; omega
      have := key (m - i) (by omega)
      rw [show i + (m - i) = m by omega, hPm] at this
      exact this
    have hVl : ∀ i, i ≤ m → V i ≤ c0 := fun i hi => by
      have key : ∀ j, i + j ≤ m → V i ≤ V (i + j) := fun j => by
        induction j with
        | zero => intro _; exact Nat.le_refl _
        | succ j ih => intro hj; obtain ⟨c', h', _, _, a3⟩ := hst (i + j) (by omega); have := ih (by omega); rw [← Nat.add_assoc]; omega
      have := key (m - i) (by omega)
      rw [show i + (m - i) = m by omega, hVm] at this
      exact this
    have HPL : Hid (∀ i, i ≤ m → P i ≤ e) := hPl
    have HVL : Hid (∀ i, i ≤ m → V i ≤ c0) := hVl
    have HST : Hid (∀ i, i < m → ∃ c' h', h' ≤ h0 ∧ R (P i) (P (i + 1)) c' h' ∧ V (i + 1) = V i + c') := hst
    have HR : Hid (∀ p q c h, R p q c h → p < q ∧ bs p ≠ 101 ∧ Skips B D N bs u p q c h) := hR
    have HP0 : Hid (P 0 = p + 1) := hP0
    have HV0 : Hid (V 0 = 0) := hV0
    have HPM : Hid (P m = e) := hPm
    have HVM : Hid (V m = c0) := hVm
    clear hPl hVl hst hR hP0 hV0 hPm hVm hi
    have HBE : Hid (∀ w, Dec w B D N bs u p d v → _) := fun w h => begin_any B D N p d v bs u 3 w h (by omega) (by omega) (by omega) (by rw [if_neg (by omega), if_pos hk]) (by omega)
    have hg0 := World.grownBy_alloc w (.cells #[.pointer (some ⟨B, 0, none⟩)] 27) none
    obtain ⟨w0, hw0⟩ : ∃ w0, w.alloc (.cells #[.pointer (some ⟨B, 0, none⟩)] 27) = w0 := ⟨_, rfl⟩
    obtain ⟨S, hS⟩ : ∃ S, w.heap.size = S := ⟨_, rfl⟩
    have hb0 : w0.heap[S]? = some (.cells #[.pointer (some ⟨B, 0, none⟩)] 27 (0, 0)) := by rw [← hw0, ← hS]; exact heap_alloc_new w _
    rw [hw0] at hg0
    have HD0 : Hid (Dec w0 B D N bs u p d v) := hdec.kept hg0 (by simp) (by simp)
    have HG0 : Hid (w.grownBy w0 none) := hg0
    have HB0 : Hid (w0.heap[S]? = some (.cells #[.pointer (some ⟨B, 0, none⟩)] 27 (0, 0))) := hb0
    have hSB : S ≠ B := by have := hdec.lb; omega
    have hSl : S < w0.heap.size := (Array.getElem?_eq_some_iff.1 hb0).1
    have cs0 := cell_of_one hb0
    clear hg0 hb0 hdec
    go_enter Tryf.func19, Tryf.ntmps19
    go_wp2_with fail
    refine Calls.mono (HBE.out _ HD0.out) ?_
    rintro e w1 ⟨rfl, hg1, hd1⟩
    have HG1 : Hid (w.grownBy w1 (some B)) := (grown_any HG0.out).trans hg1
    have HD1 : Hid (Dec w1 B D N bs u p d (v + 1)) := hd1
    have cs1 : w1.cell? ⟨S, 0, none⟩ = some (.pointer (some ⟨B, 0, none⟩)) := (World.cell?_of_block (hg1.block S hSl (by simp; exact hSB))).trans cs0
    have hS1 : S < w1.heap.size := Nat.lt_of_lt_of_le hSl hg1.size
    clear hg1 hd1 HBE cs0
    have HIT : Hid _ := items_any B D N p d (v + 1) m 19 #[.pointer (some ⟨B, 0, none⟩)] #[] bs u P (fun i => v + 1 + V i) (fun i wx => Dec wx B D N bs u (P i) (d + 1) (v + 1 + V i) ∧ w1.grownBy wx (some B)) w1 HD1.out (by omega) (by omega) enters19
      (fun i hi => by have := HPL.out i hi; omega) (fun i hi => by obtain ⟨c', h', _, a2, _⟩ := HST.out i hi; exact (HR.out _ _ _ _ a2).2.1) (by rw [HPM.out]; exact he) (fun i wx _ h => h.1)
      (fun i wx wy ⟨h1, h2⟩ hg => ⟨h1.kept hg (by simp) (by simp), h2.trans (grown_any hg)⟩) (fun wx hg hd => ⟨by rw [HP0.out, HV0.out]; exact hd, hg⟩)
      (fun i wx hi ⟨h1, h2⟩ => by
        obtain ⟨c', h', a1, a2, a3⟩ := HST.out i hi
        have hl := HPL.out (i + 1) hi
        have hv := HVL.out (i + 1) hi
        refine ((HR.out _ _ _ _ a2).2.2 (d + 1) (v + 1 + V i) wx h1 (by omega) (by omega) (by omega)).mono ?_
        rintro e w' ⟨rfl, b1, b2⟩
        exact ⟨rfl, by rw [a3, ← Nat.add_assoc]; exact b2, h2.trans b1⟩)
    go_wp2_with fail
    refine Calls.mono HIT.out ?_
    rintro e w2 ⟨rfl, wm, ⟨_, hm1⟩, hm2, hd2⟩
    have hg2 := hm1.trans hm2
    have HG2 : Hid (w.grownBy w2 (some B)) := HG1.out.trans hg2
    have HD2 : Hid _ := hd2
    clear hg2 hd2
    go_wp2
    go_ret
    exact ⟨rfl, HG2.out, by have h9 : Dec w2 B D N bs u (P m + 1) d (v + 1 + V m) := HD2.out; rw [HPM.out, HVM.out, show v + 1 + c0 = v + (c0 + 1) by omega] at h9; exact h9⟩

set_option maxHeartbeats 2000000 in
/-- A dictionary. -/
theorem skip_dict (B D N : Nat) (bs : Nat → Int) (u : Bool) (p e c0 h0 : Nat) (last : Option (Nat × Nat)) (R : Nat → Nat → Nat → Nat → Prop) (hR : ∀ p q c h, R p q c h → p < q ∧ bs p ≠ 101 ∧ Skips B D N bs u p q c h) (hk : bs p = 100) (hi : Ents bs u R (p + 1) e c0 h0 last) (he : bs e = 101) : Skips B D N bs u p (e + 1) (c0 + 1) (h0 + 1) := by
    intro d v w hdec hdh hvc hqn
    obtain ⟨m, P, V, KO, KM, hP0, hV0, hPm, hVm, _, hst⟩ := hi.list
    have hle := hi.le (fun p q c h hr => (hR p q c h hr).1)
    have hPl : ∀ i, i ≤ m → P i ≤ e := fun i hi => by
      have key : ∀ j, i + j ≤ m → P i ≤ P (i + j) := fun j => by
        induction j with
        | zero => intro _; exact Nat.le_refl _
        | succ j ih => intro hj; obtain ⟨k, s, c', h', _, a1, _, _, a2, _⟩ := hst (i + j) (by omega); have := (hR _ _ _ _ a2).1; have := a1.stop; have := ih (by omega); rw [← Nat.add_assoc]; omega
      have := key (m - i) (by omega)
      rw [show i + (m - i) = m by omega, hPm] at this
      exact this
    have hVl : ∀ i, i ≤ m → V i ≤ c0 := fun i hi => by
      have key : ∀ j, i + j ≤ m → V i ≤ V (i + j) := fun j => by
        induction j with
        | zero => intro _; exact Nat.le_refl _
        | succ j ih => intro hj; obtain ⟨k, s, c', h', _, _, _, _, _, a3⟩ := hst (i + j) (by omega); have := ih (by omega); rw [← Nat.add_assoc]; omega
      have := key (m - i) (by omega)
      rw [show i + (m - i) = m by omega, hVm] at this
      exact this
    have HPL : Hid (∀ i, i ≤ m → P i ≤ e) := hPl
    have HVL : Hid (∀ i, i ≤ m → V i ≤ c0) := hVl
    have HST : Hid (∀ i, i < m → ∃ k s c' h', h' ≤ h0 ∧ StrAt bs (P i) k (KM i) s ∧ KO i = P i + k + 1 ∧ (u = false → 0 < i → 0 < ord (seg bs (KO i) (KM i)) (seg bs (KO (i - 1)) (KM (i - 1)))) ∧ R s (P (i + 1)) c' h' ∧ V (i + 1) = V i + c') := hst
    have HR : Hid (∀ p q c h, R p q c h → p < q ∧ bs p ≠ 101 ∧ Skips B D N bs u p q c h) := hR
    have HP0 : Hid (P 0 = p + 1) := hP0
    have HV0 : Hid (V 0 = 0) := hV0
    have HPM : Hid (P m = e) := hPm
    have HVM : Hid (V m = c0) := hVm
    clear hPl hVl hst hR hP0 hV0 hPm hVm hi
    have HBE : Hid (∀ w, Dec w B D N bs u p d v → _) := fun w h => begin_any B D N p d v bs u 4 w h (by omega) (by omega) (by omega) (by rw [if_neg (by omega), if_neg (by omega), if_pos hk]) (by omega)
    have hg0 := World.grownBy_alloc w (.cells #[.pointer (some ⟨B, 0, none⟩)] 27) none
    obtain ⟨w0, hw0⟩ : ∃ w0, w.alloc (.cells #[.pointer (some ⟨B, 0, none⟩)] 27) = w0 := ⟨_, rfl⟩
    obtain ⟨S, hS⟩ : ∃ S, w.heap.size = S := ⟨_, rfl⟩
    have hb0 : w0.heap[S]? = some (.cells #[.pointer (some ⟨B, 0, none⟩)] 27 (0, 0)) := by rw [← hw0, ← hS]; exact heap_alloc_new w _
    rw [hw0] at hg0
    have HD0 : Hid (Dec w0 B D N bs u p d v) := hdec.kept hg0 (by simp) (by simp)
    have HG0 : Hid (w.grownBy w0 none) := hg0
    have HB0 : Hid (w0.heap[S]? = some (.cells #[.pointer (some ⟨B, 0, none⟩)] 27 (0, 0))) := hb0
    have hSB : S ≠ B := by have := hdec.lb; omega
    have hSl : S < w0.heap.size := (Array.getElem?_eq_some_iff.1 hb0).1
    have cs0 := cell_of_one hb0
    clear hg0 hb0 hdec
    go_enter Tryf.func19, Tryf.ntmps19
    go_wp2_with fail
    refine Calls.mono (HBE.out _ HD0.out) ?_
    rintro e w1 ⟨rfl, hg1, hd1⟩
    have HG1 : Hid (w.grownBy w1 (some B)) := (grown_any HG0.out).trans hg1
    have HD1 : Hid (Dec w1 B D N bs u p d (v + 1)) := hd1
    have cs1 : w1.cell? ⟨S, 0, none⟩ = some (.pointer (some ⟨B, 0, none⟩)) := (World.cell?_of_block (hg1.block S hSl (by simp; exact hSB))).trans cs0
    have hS1 : S < w1.heap.size := Nat.lt_of_lt_of_le hSl hg1.size
    clear hg1 hd1 HBE cs0
    have HIT : Hid _ := entries_any B D N p d (v + 1) m S bs u P (fun i => v + 1 + V i) KO KM w1 HD1.out (by omega) (by omega) cs1 hS1 hSB HP0.out (by rw [HV0.out]) (fun i hi => by have := HPL.out i hi; omega) (by rw [HPM.out]; exact he)
      (fun i hi => by
        obtain ⟨k, s, c', h', a0, a1, a2, a3, a4, a5⟩ := HST.out i hi
        have hl := HPL.out (i + 1) hi
        have hv := HVL.out (i + 1) hi
        obtain ⟨b1, _, b3⟩ := HR.out _ _ _ _ a4
        refine ⟨k, s, a1, by omega, a2, a3, fun wx hx => (b3 (d + 1) (v + 1 + V i) wx hx (by omega) (by omega) (by omega)).mono ?_⟩
        rintro e w' ⟨rfl, c1, c2⟩
        exact ⟨rfl, c1, by rw [a5, ← Nat.add_assoc]; exact c2⟩)
    go_wp2_with fail
    refine Calls.mono HIT.out ?_
    rintro e w2 ⟨rfl, hg2, hd2⟩
    have HG2 : Hid (w.grownBy w2 (some B)) := HG1.out.trans hg2
    have HD2 : Hid _ := hd2
    clear hg2 hd2
    go_wp2
    go_ret
    exact ⟨rfl, HG2.out, by have h9 : Dec w2 B D N bs u (P m + 1) d (v + 1 + V m) := HD2.out; rw [HPM.out, HVM.out, show v + 1 + c0 = v + (c0 + 1) by omega] at h9; exact h9⟩

/-- skip at whatever value there is. -/
theorem skip_any (B D N : Nat) (bs : Nat → Int) (u : Bool) : ∀ (n p q c h : Nat), Val bs u n p q c h → Skips B D N bs u p q c h := by
  intro n
  induction n with
  | zero => intro p q c h hv; exact hv.elim
  | succ n ih =>
    intro p q c h hv
    have hR : ∀ p q c h, Val bs u n p q c h → p < q ∧ bs p ≠ 101 ∧ Skips B D N bs u p q c h := fun p q c h hv => ⟨hv.lt, hv.ne, ih p q c h hv⟩
    rcases hv with ⟨h1, rfl, rfl⟩ | ⟨k, m, h1, rfl, rfl⟩ | ⟨h1, e, c0, h0, h2, h3, rfl, rfl, rfl⟩ | ⟨h1, e, c0, h0, last, h2, h3, rfl, rfl, rfl⟩
    · exact skip_int B D N bs u p q h1
    · exact skip_str B D N bs u p k m q h1
    · exact skip_list B D N bs u p e c0 h0 _ hR h1 h2 h3
    · exact skip_dict B D N bs u p e c0 h0 last _ hR h1 h2 h3
end Go.Proofs.Qxb6609549aFmt.Dec
