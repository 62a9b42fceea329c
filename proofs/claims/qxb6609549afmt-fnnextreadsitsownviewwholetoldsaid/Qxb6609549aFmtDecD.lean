/- The decoder on the good road: items (22). -/
import Derived.Test.Qxb6609549aFmtDecC
namespace Go.Proofs.Qxb6609549aFmt.Dec
open Go.RowKit Go.ChangeShapes Go.WideShapes

set_option maxHeartbeats 2000000 in
set_option maxRecDepth 100000 in
/-- items: m items, whatever reads them; I i: what holds ahead of item i. -/
theorem items_any (B D n p d v m f : Nat) (F C : Array Value) (bs : Nat → Int) (u : Bool) (P V : Nat → Nat) (I : Nat → World → Prop) (w : World) (h : Dec w B D n bs u p d v) (hd : d < 512)
    (hp : p < n) (hcf : ∀ args w, (callFunc f args).run Tryf.prog w = .ok (.enter f args) w)
    (hlt : ∀ i, i ≤ m → P i < n) (hne : ∀ i, i < m → bs (P i) ≠ 101) (he : bs (P m) = 101)
    (hI : ∀ i w, i ≤ m → I i w → Dec w B D n bs u (P i) (d + 1) (V i)) (hkeep : ∀ i w w', I i w → w.grownBy w' none → I i w') (hstart : ∀ w', w.grownBy w' (some B) → Dec w' B D n bs u (p + 1) (d + 1) v → I 0 w')
    (hcall : ∀ i w, i < m → I i w → Calls Tryf.prog f (F ++ C) w fun e w' => e = .returned .nilIface ∧ I (i + 1) w') :
    Calls Tryf.prog 22 #[.pointer (some ⟨B, 0, none⟩), .func (.func f) F C] w fun e w' => e = .returned .nilIface ∧ ∃ wm, I m wm ∧ wm.grownBy w' (some B) ∧ Dec w' B D n bs u (P m + 1) d (V m) := by
  have hnb := h.nb
  have c1 := h.c1
  have c2 := h.c2
  have f1 := h.fz 1
  have f2 := h.fz 2
  have hd512 : ((d : Int) == 512) = false := by simp; omega
  obtain ⟨w0, hw0⟩ : ∃ w0, (w.setCell ⟨B, 2, none⟩ (.int .i64 (d + 1 : Nat))).setCell ⟨B, 1, none⟩ (.int .i64 (p + 1 : Nat)) = w0 := ⟨_, rfl⟩
  have H0 : Hid (I 0 w0) := by rw [← hw0]; exact hstart _ ((grown_set _ _ _ _).trans (grown_set _ _ _ _)) ((h.set2 (d + 1)).set1 (p + 1))
  have HE : Hid (bs (P m) = 101) := he
  have HNE : Hid (∀ i, i < m → bs (P i) ≠ 101) := hne
  have HLT : Hid (∀ i, i ≤ m → P i < n) := hlt
  have HII : Hid (∀ i w, i ≤ m → I i w → Dec w B D n bs u (P i) (d + 1) (V i)) := hI
  have HKE : Hid (∀ i w w', I i w → w.grownBy w' none → I i w') := hkeep
  have HCA : Hid (∀ i w, i < m → I i w → Calls Tryf.prog f (F ++ C) w fun e w' => e = .returned .nilIface ∧ I (i + 1) w') := hcall
  have hpi : ((p + 1 : Nat) : Int) = (p : Int) + 1 := by omega
  have hdi : ((d + 1 : Nat) : Int) = (d : Int) + 1 := by omega
  rw [hpi, hdi] at hw0
  clear h he hne hlt hI hkeep hstart hcall hpi hdi
  go_enter Tryf.func22, Tryf.ntmps22
  go_wp2_with fail
  go_loopg [31] m (fun g s wx => ∃ i, i ≤ m ∧ g = m - i ∧ I i wx)
  case atStart => exact ⟨0, Nat.zero_le _, rfl, H0.out⟩
  case round =>
    obtain ⟨i, hi, hg, hIi⟩ := hrel
    have hD := HII.out i wr hi hIi
    have HP : Hid _ := peek_any B D n (P i) (d + 1) (V i) bs u wr hD (HLT.out i hi)
    have HIi : Hid (I i wr) := hIi
    clear hIi hD c1 c2 f1 f2
    by_cases hlt : i < m
    · have hx := HNE.out i hlt
      obtain ⟨x, hxx⟩ : ∃ x, bs (P i) = x := ⟨_, rfl⟩
      rw [hxx] at hx HP
      have hxb : (x == 101) = false := by simp [hx]
      clear hx hxx
      go_wp2_with fail
      refine Calls.mono HP.out ?_
      rintro e w1 ⟨rfl, hg1, hd1⟩
      have HI1 : Hid (I i w1) := HKE.out i wr w1 HIi.out hg1
      clear hg1 hd1 HP
      go_wp2_with fail
      refine Calls.mono (HCA.out i w1 hlt HI1.out) ?_
      rintro e w2 ⟨rfl, hI2⟩
      have HI2 : Hid (I (i + 1) w2) := hI2
      clear hI2
      go_wp2
      go_roundg (m - (i + 1))
      case rel => exact ⟨i + 1, by omega, rfl, HI2.out⟩
      case measure => omega
    · have hmi : i = m := by omega
      subst hmi
      rw [HE.out] at HP
      have hpn := HLT.out i (Nat.le_refl _)
      clear hlt
      go_wp2_with fail
      refine Calls.mono HP.out ?_
      rintro e w1 ⟨rfl, hg1, hd1⟩
      have HI1 : Hid (I i w1) := HKE.out i wr w1 HIi.out hg1
      have HD1 : Hid _ := hd1
      have c1 := hd1.c1
      have c2 := hd1.c2
      have f1 := hd1.fz 1
      have f2 := hd1.fz 2
      clear hg1 hd1 HP
      go_wp2
      go_ret
      exact ⟨rfl, w1, HI1.out, (grown_set _ _ _ _).trans (grown_set _ _ _ _), (HD1.out.set2 d).set1 (P i + 1)⟩
end Go.Proofs.Qxb6609549aFmt.Dec
