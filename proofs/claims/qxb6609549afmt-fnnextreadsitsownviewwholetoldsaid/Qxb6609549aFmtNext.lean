/- next (16), ZZnext (8), ZZviewRaw (9), Kind (10). -/
import Derived.Test.Qxb6609549aFmtSkip
namespace Go.Proofs.Qxb6609549aFmt.Dec
open Go.RowKit Go.ChangeShapes Go.WideShapes

theorem grown_new {W0 w : World} {B S j : Nat} {x : Value} (h : W0.grownBy w (some B)) (h1 : W0.heap.size ≤ S) : W0.grownBy (w.setCell ⟨S, j, none⟩ x) (some B) := by
  refine ⟨h.os, h.tape, h.output, by simpa using h.size, fun k hk hne => ?_⟩
  rw [Below.heap_setCell _ _ _ _ (show k ≠ S by omega)]
  exact h.block k hk hne
theorem grown_drew {W0 w : World} {r : Option Nat} (h : W0.grownBy w r) : W0.grownBy w.drew r := ⟨h.os, h.tape, h.output, h.size, h.block⟩

set_option maxHeartbeats 2000000 in
theorem next_any (B D n p q c h d v : Nat) (bs : Nat → Int) (u : Bool) (w : World) (hdec : Dec w B D n bs u p d v) (hv : Skips B D n bs u p q c h) (hpq : p < q) (hqn : q ≤ n) (hd : d + h ≤ 512) (hc : v + c ≤ 2097152) :
    Calls Tryf.prog 16 #[.pointer (some ⟨B, 0, none⟩)] w fun e w' => e = .returned (.agg #[.slice (some ⟨D, p, none⟩) (q - p) (q - p)]) ∧ w.grownBy w' (some B) ∧ Dec w' B D n bs u q d (v + c) := by
  have hnb := hdec.nb
  obtain ⟨w0, hw0⟩ : ∃ w0, w.alloc (.cells #[.slice none 0 0] 30) = w0 := ⟨_, rfl⟩
  obtain ⟨S, hS⟩ : ∃ S, w.heap.size = S := ⟨_, rfl⟩
  have hb0 : w0.heap[S]? = some (.cells #[.slice none 0 0] 30 (0, 0)) := by rw [← hw0, ← hS]; exact heap_alloc_new w _
  have hg0 : w.grownBy w0 none := by rw [← hw0]; exact World.grownBy_alloc w _ none
  have hd0 : Dec w0 B D n bs u p d v := hdec.kept hg0 (by simp) (by simp)
  have hSB : S ≠ B := by have := hdec.lb; omega
  have hSD : S ≠ D := by have := hdec.ld; omega
  have c1 := hd0.c1
  have HSK : Hid _ := hv d v w0 hd0 hd hc hqn
  have HG0 : Hid (w.grownBy w0 none) := hg0
  have HB0 : Hid (w0.heap[S]? = some (.cells #[.slice none 0 0] 30 (0, 0))) := hb0
  have hSl : S < w0.heap.size := (Array.getElem?_eq_some_iff.1 hb0).1
  have HNS : Hid (∀ w' : World, w0.grownBy w' (some B) → w'.heap[S]? = some (.cells #[.slice none 0 0] 30 (0, 0))) := fun w' hg => (hg.block S hSl (by simp; exact hSB)).trans hb0
  clear hdec hv hb0 hg0 hd0
  go_enter Tryf.func16, Tryf.ntmps16
  go_wp2_with fail
  refine Calls.mono HSK.out ?_
  rintro e w1 ⟨rfl, hg1, hd1⟩
  have hb1 := HNS.out w1 hg1
  have cs1 := cell_of_one hb1
  have fs1 := free_of_one hb1
  have c0 := hd1.c0
  have c1 := hd1.c1
  have hz0 : (0 : Int) ≤ (p : Int) := by omega
  have hz1 : (p : Int) ≤ (q : Int) := by omega
  have hz2 : (q : Int) ≤ (n : Int) := by omega
  have hne : q ≠ p := by omega
  have HD1 : Hid (Dec w1 B D n bs u q d (v + c)) := hd1
  have HG1 : Hid (w.grownBy w1 (some B)) := (grown_any HG0.out).trans hg1
  clear hg1 hd1 HSK HNS hb1
  go_wp2_with fail
  go_region_held3 (fun w' => w'.cell? ⟨B, 0, none⟩ = some (.slice (some ⟨D, 0, none⟩) n n) ∧ w'.cell? ⟨B, 1, none⟩ = some (.int .i64 q)) (go_keep) (fail)
  have HF : Hid (w.grownBy (w1.setCell ⟨S, 0, none⟩ (.slice (some ⟨D, p, none⟩) (q - p) (q - p))).drew (some B) ∧ Dec (w1.setCell ⟨S, 0, none⟩ (.slice (some ⟨D, p, none⟩) (q - p) (q - p))).drew B D n bs u q d (v + c)) :=
    ⟨grown_drew (grown_new HG1.out (by omega)), (HD1.out.kept (grown_set _ S 0 _) (by simp; omega) (by simp; omega)).drew⟩
  go_wp2
  exact bodyPost_ret (v := .agg #[.slice (some ⟨D, p, none⟩) (q - p) (q - p)]) (by simp [results, Tryf.results16, go_sem, cs1]) rfl ⟨rfl, HF.out.1, HF.out.2⟩

theorem znext_any (B D n p q c h d v : Nat) (bs : Nat → Int) (u : Bool) (w : World) (hdec : Dec w B D n bs u p d v) (hv : Skips B D n bs u p q c h) (hpq : p < q) (hqn : q ≤ n) (hd : d + h ≤ 512) (hc : v + c ≤ 2097152) :
    Calls Tryf.prog 8 #[.pointer (some ⟨B, 0, none⟩)] w fun e w' => e = .returned (.agg #[.slice (some ⟨D, p, none⟩) (q - p) (q - p)]) ∧ w.grownBy w' (some B) ∧ Dec w' B D n bs u q d (v + c) := by
  obtain ⟨w0, hw0⟩ : ∃ w0, w.alloc (.cells #[.slice none 0 0] 30) = w0 := ⟨_, rfl⟩
  obtain ⟨S, hS⟩ : ∃ S, w.heap.size = S := ⟨_, rfl⟩
  have hb0 : w0.heap[S]? = some (.cells #[.slice none 0 0] 30 (0, 0)) := by rw [← hw0, ← hS]; exact heap_alloc_new w _
  have hg0 : w.grownBy w0 none := by rw [← hw0]; exact World.grownBy_alloc w _ none
  have hSB : S ≠ B := by have := hdec.lb; omega
  have hSD : S ≠ D := by have := hdec.ld; omega
  have hSl : S < w0.heap.size := (Array.getElem?_eq_some_iff.1 hb0).1
  have HNX : Hid _ := next_any B D n p q c h d v bs u w0 (hdec.kept hg0 (by simp) (by simp)) hv hpq hqn hd hc
  have HG0 : Hid (w.grownBy w0 none) := hg0
  have HNS : Hid (∀ w' : World, w0.grownBy w' (some B) → w'.heap[S]? = some (.cells #[.slice none 0 0] 30 (0, 0))) := fun w' hg => (hg.block S hSl (by simp; exact hSB)).trans hb0
  clear hdec hv hb0 hg0
  go_enter Tryf.func8, Tryf.ntmps8
  go_wp2_with fail
  refine Calls.mono HNX.out ?_
  rintro e w1 ⟨rfl, hg1, hd1⟩
  have hb1 := HNS.out w1 hg1
  have cs1 := cell_of_one hb1
  have fs1 := free_of_one hb1
  have HF : Hid (w.grownBy (w1.setCell ⟨S, 0, none⟩ (.slice (some ⟨D, p, none⟩) (q - p) (q - p))) (some B) ∧ Dec (w1.setCell ⟨S, 0, none⟩ (.slice (some ⟨D, p, none⟩) (q - p) (q - p))) B D n bs u q d (v + c)) :=
    ⟨grown_new ((grown_any HG0.out).trans hg1) (by omega), hd1.kept (grown_set _ S 0 _) (by simp; omega) (by simp; omega)⟩
  clear hg1 hd1 HNX HNS hb1
  go_wp2
  exact bodyPost_ret (v := .agg #[.slice (some ⟨D, p, none⟩) (q - p) (q - p)]) (by simp [results, Tryf.results8, go_sem, cs1]) rfl ⟨rfl, HF.out.1, HF.out.2⟩

theorem viewRaw_any (a : Option Addr) (l c : Nat) (w : World) : Calls Tryf.prog 9 #[.agg #[.slice a l c]] w fun e w' => e = .returned (.slice a l c) ∧ w.grownBy w' none := by
  go_enter Tryf.func9, Tryf.ntmps9
  go_wp2
  go_ret
  exact ⟨rfl, World.grownBy_alloc w _ none⟩

theorem kind_any (D o l c : Nat) (x k : Int) (w : World) (hl : 0 < l) (hlb : l ≤ 1048576) (hx : w.cell? ⟨D, o, none⟩ = some (.int .u8 x)) (h0 : 0 ≤ x) (hk : k = if x = 105 then 2 else if x = 108 then 3 else if x = 100 then 4 else if 48 ≤ x ∧ x ≤ 57 then 1 else 0) :
    Calls Tryf.prog 10 #[.agg #[.slice (some ⟨D, o, none⟩) l c]] w fun e w' => e = .returned (.int .u8 k) ∧ w.grownBy w' none := by
  have HK : Hid (∀ w, _) := fun w => kindOf_any x k w h0 hk
  have hne : ((l : Int) == 0) = false := by simp; omega
  have hli : (0 : Int) < (l : Int) := by omega
  have hD := World.block_lt_of_cell? _ _ hx
  have hx' : (w.alloc (.cells #[.slice (some ⟨D, o, none⟩) l c] 30)).cell? ⟨D, o, none⟩ = some (.int .u8 x) := by rw [World.cell?_alloc_lt _ _ _ hD]; exact hx
  clear hk h0
  go_enter Tryf.func10, Tryf.ntmps10
  go_wp2_with fail
  refine Calls.mono (HK.out _) ?_
  rintro e w' ⟨rfl, rfl⟩
  go_wp2
  go_ret
  exact ⟨rfl, World.grownBy_alloc w _ none⟩
end Go.Proofs.Qxb6609549aFmt.Dec
