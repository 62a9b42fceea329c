/- The decoder on the good road: entries (23), skip (19). -/
import Derived.Test.Qxb6609549aFmtDecF
import Derived.Shelf.Abstract
namespace Go.Proofs.Qxb6609549aFmt.Dec
open Go.RowKit Go.ChangeShapes Go.WideShapes

theorem enters19 : ∀ args w, (callFunc 19 args).run Tryf.prog w = .ok (.enter 19 args) w := enters_of Tryf.func19 (by kernel_rfl) rfl
theorem enters30 : ∀ args w, (callFunc 30 args).run Tryf.prog w = .ok (.enter 30 args) w := enters_of Tryf.func30 (by kernel_rfl) rfl

theorem heap4 (w : World) (o1 o2 o3 o4 : Obj) : ((((w.alloc o1).alloc o2).alloc o3).alloc o4).heap[w.heap.size]? = some o1 ∧ ((((w.alloc o1).alloc o2).alloc o3).alloc o4).heap[w.heap.size + 1]? = some o2 ∧ ((((w.alloc o1).alloc o2).alloc o3).alloc o4).heap[w.heap.size + 1 + 1]? = some o3 ∧ ((((w.alloc o1).alloc o2).alloc o3).alloc o4).heap[w.heap.size + 1 + 1 + 1]? = some o4 := by
  have s1 : (w.alloc o1).heap.size = w.heap.size + 1 := by simp
  have s2 : ((w.alloc o1).alloc o2).heap.size = w.heap.size + 1 + 1 := by simp
  have s3 : (((w.alloc o1).alloc o2).alloc o3).heap.size = w.heap.size + 1 + 1 + 1 := by simp
  refine ⟨?_, ?_, ?_, ?_⟩
  · rw [heap_alloc_old _ _ (by omega), heap_alloc_old _ _ (by omega), heap_alloc_old _ _ (by omega)]
    exact heap_alloc_new w o1
  · rw [heap_alloc_old _ _ (by omega), heap_alloc_old _ _ (by omega), ← s1]
    exact heap_alloc_new _ o2
  · rw [heap_alloc_old _ _ (by omega), ← s2]
    exact heap_alloc_new _ o3
  · rw [← s3]
    exact heap_alloc_new _ o4

set_option maxHeartbeats 4000000 in
/-- A dictionary's entries, counted off. -/
theorem entries_any (B D n p d v m Y : Nat) (bs : Nat → Int) (u : Bool) (P V KO KM : Nat → Nat) (w : World) (h : Dec w B D n bs u p d v) (hd : d < 512) (hp : p < n) (hy : w.cell? ⟨Y, 0, none⟩ = some (.pointer (some ⟨B, 0, none⟩))) (hyl : Y < w.heap.size) (hyb : Y ≠ B)
    (hP0 : P 0 = p + 1) (hV0 : V 0 = v) (hlt : ∀ i, i ≤ m → P i < n) (he : bs (P m) = 101)
    (hent : ∀ i, i < m → ∃ k s, StrAt bs (P i) k (KM i) s ∧ s ≤ n ∧ KO i = P i + k + 1 ∧ (u = false → 0 < i → 0 < ord (seg bs (KO i) (KM i)) (seg bs (KO (i - 1)) (KM (i - 1)))) ∧
      ∀ w, Dec w B D n bs u s (d + 1) (V i) → Calls Tryf.prog 19 #[.pointer (some ⟨B, 0, none⟩)] w fun e w' => e = .returned .nilIface ∧ w.grownBy w' (some B) ∧ Dec w' B D n bs u (P (i + 1)) (d + 1) (V (i + 1))) :
    Calls Tryf.prog 23 #[.pointer (some ⟨B, 0, none⟩), .func (.func 24) #[] #[.pointer (some ⟨Y, 0, none⟩)]] w fun e w' => e = .returned .nilIface ∧ w.grownBy w' (some B) ∧ Dec w' B D n bs u (P m + 1) d (V m) := by
  have hB := h.lb
  have hD := h.ld
  obtain ⟨w4, hw4⟩ : ∃ w4, ((((w.alloc (.cells #[.pointer (some ⟨B, 0, none⟩)] 27)).alloc (.cells #[.func (.func 24) #[] #[.pointer (some ⟨Y, 0, none⟩)]] 58)).alloc (.cells #[.slice none 0 0] 22)).alloc (.cells #[.bool true] 4)) = w4 := ⟨_, rfl⟩
  have hg4 : w.grownBy w4 none := by
    rw [← hw4]
    exact (((World.grownBy_alloc w _ none).trans (World.grownBy_alloc _ _ none)).trans (World.grownBy_alloc _ _ none)).trans (World.grownBy_alloc _ _ none)
  have hd4 : Dec w4 B D n bs u p d v := h.kept hg4 (by simp) (by simp)
  have hs4 : w4.heap.size = w.heap.size + 1 + 1 + 1 + 1 := by rw [← hw4]; simp
  have hl4 : Lie B D w.heap.size (w.heap.size + 1 + 1 + 1) (w.heap.size + 1 + 1) (w.heap.size + 1) Y := ⟨by omega, by omega, by omega, by omega, hyb, by omega, by omega, by omega, by omega, by omega, by omega, by omega, by omega, by omega⟩
  have hc4 : Cl w4 B w.heap.size (w.heap.size + 1 + 1 + 1) (w.heap.size + 1 + 1) (w.heap.size + 1) Y true (.slice none 0 0) := by
    obtain ⟨b1, b2, b3, b4⟩ := heap4 w (.cells #[.pointer (some ⟨B, 0, none⟩)] 27) (.cells #[.func (.func 24) #[] #[.pointer (some ⟨Y, 0, none⟩)]] 58) (.cells #[.slice none 0 0] 22) (.cells #[.bool true] 4)
    rw [hw4] at b1 b2 b3 b4
    exact ⟨cell_of_one b1, cell_of_one b4, cell_of_one b3, cell_of_one b2, (World.cell?_of_block (hg4.block Y hyl (by simp))).trans hy, free_of_one b4, free_of_one b3, by omega, by omega, by omega, by omega, by omega⟩
  obtain ⟨X, hX⟩ : ∃ X, w.heap.size = X := ⟨_, rfl⟩
  obtain ⟨E, hE⟩ : ∃ E, w.heap.size + 1 = E := ⟨_, rfl⟩
  obtain ⟨L, hL⟩ : ∃ L, w.heap.size + 1 + 1 = L := ⟨_, rfl⟩
  obtain ⟨Fb, hF⟩ : ∃ Fb, w.heap.size + 1 + 1 + 1 = Fb := ⟨_, rfl⟩
  rw [hF, hL, hE, hX] at hl4 hc4
  have HIT : Hid _ := items_any B D n p d v m 30 #[] #[.pointer (some ⟨X, 0, none⟩), .pointer (some ⟨Fb, 0, none⟩), .pointer (some ⟨L, 0, none⟩), .pointer (some ⟨E, 0, none⟩)] bs u P V
    (fun i wx => Dec wx B D n bs u (P i) (d + 1) (V i) ∧ (∃ lv, (i ≠ 0 → KeyV D (KO (i - 1)) (KM (i - 1)) lv) ∧ Cl wx B X Fb L E Y (decide (i = 0)) lv) ∧ w.grownBy wx (some B)) w4 hd4 hd hp enters30 hlt
    (fun i hi => by obtain ⟨k, s, h1, _⟩ := hent i hi; have := h1.first; omega) he (fun i w' _ h => h.1)
    (fun i wx wy ⟨h1, ⟨lv, h2, h3⟩, h4⟩ hg => ⟨h1.kept hg (by simp) (by simp), ⟨lv, h2, h3.kept hl4 hg (.inl rfl)⟩, h4.trans (grown_any hg)⟩)
    (fun wx hg hd => ⟨by rw [hP0, hV0]; exact hd, ⟨.slice none 0 0, fun h => absurd rfl h, hc4.kept hl4 hg (.inr rfl)⟩, (grown_any hg4).trans hg⟩)
    (fun i wx hi ⟨h1, ⟨lv, h2, h3⟩, h4⟩ => by
      obtain ⟨k, s, a1, a2, a3, a4, a5⟩ := hent i hi
      have hk : i ≠ 0 → KO (i - 1) + KM (i - 1) ≤ n := fun h0 => by
        obtain ⟨k', s', b1, b2, b3, _⟩ := hent (i - 1) (by omega)
        have := b1.stop
        omega
      refine (entry_any B D n (P i) (d + 1) (V i) k (KM i) s (P (i + 1)) (V (i + 1)) X Fb L E Y (KO (i - 1)) (KM (i - 1)) bs u (decide (i = 0)) lv wx h1 hl4 h3 a1 a2 (fun hf => ⟨h2 (by simpa using hf), hk (by simpa using hf)⟩) (fun hu hf => by rw [← a3]; exact a4 hu (Nat.pos_of_ne_zero (by simpa using hf))) a5).mono ?_
      rintro e w' ⟨rfl, b1, ⟨lv', b2, b3⟩, b4⟩
      refine ⟨rfl, b1, ⟨lv', fun _ => ?_, by simpa using b3⟩, b4 w h4 (by omega) (by omega)⟩
      rw [Nat.add_sub_cancel, a3]
      exact b2)
  have cx := hc4.x
  have hE' : X + 1 = E := by omega
  have hL' : E + 1 = L := by omega
  have hF' : L + 1 = Fb := by omega
  clear hent he hlt hc4 hl4 hd4 hy h hE hL hF hs4
  have HW : Hid (w.grownBy w4 none) := hg4
  clear hg4
  go_enter Tryf.func23, Tryf.ntmps23
  go_wp2_with fail
  refine Calls.mono HIT.out ?_
  rintro e w5 ⟨rfl, wm, ⟨_, _, h4⟩, h5, h6⟩
  have H4 : Hid _ := h4.trans h5
  have H6 : Hid _ := h6
  clear h4 h5 h6
  go_wp2
  go_ret
  exact ⟨rfl, H4.out, H6.out⟩
end Go.Proofs.Qxb6609549aFmt.Dec
