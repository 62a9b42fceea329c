/- FnNextReadsItsOwnViewWhole (3): the walk. -/
import Derived.Test.Qxb6609549aFmtScanE
import Derived.Test.Qxb6609549aFmtNext
import Derived.Test.Qxb6609549aFmtSmall
import Derived.Test.Qxb6609549aFmtShift
namespace Go.Proofs.Qxb6609549aFmt.Dec
open Go.RowKit Go.ChangeShapes Go.WideShapes
set_option maxHeartbeats 1600000 in
set_option maxRecDepth 100000 in
theorem scan_nil (d v : Nat) (u : Bool) (w : World) : Calls Tryf.prog 6 #[.slice none 0 0, .int .i64 0, .int .i64 d, .int .i64 v, .bool u] w fun e w' => e = .returned (.tuple #[.int .i64 0, .int .i64 0, .bool false]) ∧ w = w' := by
  go_enter Tryf.func6, Tryf.ntmps6
  go_wp2_with fail
  refine wp_loop_rounds 1 ?_
  rw [rounds_succ]
  go_wp2
  go_ret3
  exact ⟨rfl, rfl⟩

theorem grown_of_below {w w' : World} (h : Below w.heap.size w w') (r : Option Nat) : w.grownBy w' r := ⟨h.os, h.tape, h.output, h.size, fun k hk _ => h.block k hk⟩

theorem dec_new (D n p d v : Nat) (bs : Nat → Int) (u : Bool) (w : World) (hD : D < w.heap.size) (hnb : n ≤ 1048576) (hdat : ∀ i, i < n → w.cell? ⟨D, i, none⟩ = some (.int .u8 (bs i))) :
    Dec (w.alloc (.cells #[.slice (some ⟨D, 0, none⟩) n n, .int .i64 p, .int .i64 d, .int .i64 v, .bool u] 46)) w.heap.size D n bs u p d v := by
  have hb := heap_alloc_new w (.cells #[.slice (some ⟨D, 0, none⟩) n n, .int .i64 p, .int .i64 d, .int .i64 v, .bool u] 46)
  refine ⟨by simp only [World.cell?, hb]; rfl, by simp only [World.cell?, hb]; rfl, by simp only [World.cell?, hb]; rfl, by simp only [World.cell?, hb]; rfl, by simp only [World.cell?, hb]; rfl, fun j => by simp only [World.frozen?, hb]; simp, fun i hi => ?_, by omega, hnb, by simp, by simp; omega⟩
  rw [World.cell?_alloc_lt _ _ _ hD]
  exact hdat i hi

theorem Val.kind {bs : Nat → Int} {u : Bool} {n p q c h : Nat} (hv : Val bs u n p q c h) : (if bs p = 105 then (2 : Int) else if bs p = 108 then 3 else if bs p = 100 then 4 else if 48 ≤ bs p ∧ bs p ≤ 57 then 1 else 0) = (if bs p = 105 then (2 : Int) else if bs p = 108 then 3 else if bs p = 100 then 4 else 1) := by
  cases n with
  | zero => exact hv.elim
  | succ n =>
    rcases hv with ⟨⟨h, _⟩, _⟩ | ⟨k, m, h, _⟩ | ⟨h, _⟩ | ⟨h, _⟩
    · simp [h]
    · simp [h.first]
    · simp [h]
    · simp [h]

set_option maxHeartbeats 1600000 in
set_option maxRecDepth 100000 in
theorem law_early (a0 : Option Addr) (l0 c0 : Nat) (p d v : Int) (u : Bool) (w : World) (h0 : l0 ≤ maxLen) (hbad : 1048576 < l0 ∨ p < 0 ∨ (l0 : Int) < p ∨ d < 0 ∨ 512 < d ∨ v < 0 ∨ 2097152 < v) :
    Calls Tryf.prog 3 #[.slice a0 l0 c0, .int .i64 p, .int .i64 d, .int .i64 v, .bool u] w fun e w' => e = .returned (.bool true) ∧ Below w.heap.size w w' := by
  have HZ : Hid _ := zbytes_any a0 l0 c0 p d v u w h0
  unfold maxLen at h0
  go_enter Tryf.func3, Tryf.ntmps3
  go_wp2_with fail
  refine Calls.mono HZ.out ?_
  rintro e w' ⟨⟨b, rfl⟩, rfl⟩
  cases b
  · go_wp2
    go_ret
    exact ⟨rfl, Below.refl _ _⟩
  by_cases h1 : 1048576 < l0
  · have h1' : (1048576 : Int) < (l0 : Int) := by omega
    go_wp2
    go_ret
    exact ⟨rfl, Below.refl _ _⟩
  have h1' : (l0 : Int) ≤ 1048576 := by omega
  by_cases h2 : p < 0
  · go_wp2
    go_ret
    exact ⟨rfl, Below.refl _ _⟩
  have h2' : 0 ≤ p := by omega
  by_cases h3 : (l0 : Int) < p
  · go_wp2
    go_ret
    exact ⟨rfl, Below.refl _ _⟩
  have h3' : p ≤ (l0 : Int) := by omega
  by_cases h4 : d < 0
  · go_wp2
    go_ret
    exact ⟨rfl, Below.refl _ _⟩
  have h4' : 0 ≤ d := by omega
  by_cases h5 : 512 < d
  · go_wp2
    go_ret
    exact ⟨rfl, Below.refl _ _⟩
  have h5' : d ≤ 512 := by omega
  by_cases h6 : v < 0
  · go_wp2
    go_ret
    exact ⟨rfl, Below.refl _ _⟩
  have h6' : 0 ≤ v := by omega
  have h7 : 2097152 < v := by omega
  clear hbad
  go_wp2
  go_ret
  exact ⟨rfl, Below.refl _ _⟩

set_option maxHeartbeats 4000000 in
set_option maxRecDepth 100000 in
theorem law_main (a0 : Option Addr) (n c0 p d v D : Nat) (u : Bool) (bs : Nat → Int) (w : World) (hn : n ≤ 1048576) (hp : p ≤ n) (hd : d ≤ 512) (hv : v ≤ 2097152) (hby : ∀ i, i < n → 0 ≤ bs i ∧ bs i ≤ 255) (hwD : w.heap.size = D)
    (hcl : Calls Tryf.prog 5 #[.slice a0 n c0] w fun e w' => e = .returned (.slice (some ⟨D, 0, none⟩) n n) ∧ Below w.heap.size w w' ∧ (∀ i, i < n → w'.cell? ⟨D, i, none⟩ = some (.int .u8 (bs i))) ∧ (0 < n → D < w'.heap.size)) :
    Calls Tryf.prog 3 #[.slice a0 n c0, .int .i64 p, .int .i64 d, .int .i64 v, .bool u] w fun e w' => e = .returned (.bool true) ∧ Below w.heap.size w w' := by
  have HZ : Hid _ := zbytes_any a0 n c0 p d v u w (by unfold maxLen; omega)
  have HCL : Hid _ := hcl
  have HBY : Hid (∀ i, i < n → 0 ≤ bs i ∧ bs i ≤ 255) := hby
  have HWD : Hid (w.heap.size = D) := hwD
  have i1 : (n : Int) ≤ 1048576 := by omega
  have i2 : (0 : Int) ≤ (p : Int) := by omega
  have i3 : (p : Int) ≤ (n : Int) := by omega
  have i4 : (0 : Int) ≤ (d : Int) := by omega
  have i5 : (d : Int) ≤ 512 := by omega
  have i6 : (0 : Int) ≤ (v : Int) := by omega
  have i7 : (v : Int) ≤ 2097152 := by omega
  clear hcl hby hwD
  go_enter Tryf.func3, Tryf.ntmps3
  go_wp2_with fail
  refine Calls.mono HZ.out ?_
  rintro e w' ⟨⟨b, rfl⟩, rfl⟩
  cases b
  · go_wp2
    go_ret
    exact ⟨rfl, Below.refl _ _⟩
  go_wp2_with fail
  refine Calls.mono HCL.out ?_
  rintro e w1 ⟨rfl, hb1, hdat1, hD1⟩
  have HB1 : Hid (Below w.heap.size w w1) := hb1
  have HSC : Hid _ := scan_any D n p d v bs u w1 hdat1 HBY.out hn hp hd hv hD1
  have HDAT1 : Hid (∀ i, i < n → w1.cell? ⟨D, i, none⟩ = some (.int .u8 (bs i))) := hdat1
  have HD1 : Hid (0 < n → D < w1.heap.size) := hD1
  clear hb1 hdat1 hD1 HCL HZ
  go_wp2_with fail
  refine Calls.mono HSC.out ?_
  rintro e w2 ⟨hans, hb2⟩
  have HB2 : Hid (Below w.heap.size w w2) := HB1.out.trans (hb2.mono HB1.out.size)
  rcases hans with rfl | ⟨q, c, h, hva, hqn, hdh, hvc, rfl⟩
  · clear hb2
    go_wp2
    go_ret
    exact ⟨rfl, HB2.out⟩
  obtain ⟨fuel, hval⟩ := hva
  have hpq := hval.lt
  have HVAL : Hid (Val bs u fuel p q c h) := hval
  have HDL2 : Hid (D < w2.heap.size) := by show D < w2.heap.size; have := HD1.out (by omega); have := hb2.size; omega
  have HDAT2 : Hid (∀ i, i < n → w2.cell? ⟨D, i, none⟩ = some (.int .u8 (bs i))) := fun i hi => (hb2.cell (HD1.out (by omega))).trans (HDAT1.out i hi)
  have HND : Hid _ := newdec_any (.slice (some ⟨D, 0, none⟩) n n) _ _ _ rfl p d v u w2
  obtain ⟨B, hB⟩ : ∃ B, w2.heap.size = B := ⟨_, rfl⟩
  have HBB : Hid (w2.heap.size = B) := hB
  rw [hB] at HND
  have HBH : Hid (D < B ∧ w.heap.size ≤ B) := by show _ ∧ _; rw [← hB]; exact ⟨HDL2.out, HB2.out.size⟩
  clear hval hb2 HSC HDAT1 HD1 HB1 hB
  go_wp2_with fail
  refine Calls.mono HND.out ?_
  rintro e w3 ⟨rfl, hw3⟩
  have HB3 : Hid (Below w.heap.size w w3) := by rw [hw3]; exact HB2.out.alloc HB2.out.size _
  have HD3 : Hid (Dec w3 B D n bs u p d v) := by rw [hw3, ← HBB.out]; exact dec_new D n p d v bs u w2 HDL2.out hn HDAT2.out
  have HNX : Hid _ := znext_any B D n p q c h d v bs u w3 HD3.out (skip_any B D n bs u _ _ _ _ _ HVAL.out) hpq hqn hdh hvc
  clear hw3 HND HDAT2 HDL2 HBB HB2
  go_wp2_with fail
  refine Calls.mono HNX.out ?_
  rintro e w4 ⟨rfl, hg4, hd4⟩
  obtain ⟨l, hl⟩ : ∃ l, q - p = l := ⟨_, rfl⟩
  have HL : Hid (q - p = l ∧ p + l = q) := ⟨hl, by omega⟩
  have hl0 : 0 < l := by omega
  have hln : p + l ≤ n := by omega
  rw [hl]
  have HB4 : Hid (Below w.heap.size w w4) := HB3.out.grown hg4 HB3.out.size (fun j hj => by cases hj; exact HBH.out.2)
  obtain ⟨w5, hw5⟩ : ∃ w5, w4.alloc (.cells #[.slice (some ⟨D, p, none⟩) l l] 30) = w5 := ⟨_, rfl⟩
  obtain ⟨V, hV⟩ : ∃ V, w4.heap.size = V := ⟨_, rfl⟩
  have hb5 : w5.heap[V]? = some (.cells #[.slice (some ⟨D, p, none⟩) l l] 30 (0, 0)) := by rw [← hw5, ← hV]; exact heap_alloc_new w4 _
  have HD5 : Hid (Dec w5 B D n bs u q d (v + c)) := by rw [← hw5]; exact hd4.kept (World.grownBy_alloc w4 _ none) (by simp) (by simp)
  have HB5 : Hid (Below w.heap.size w w5) := by rw [← hw5]; exact HB4.out.alloc HB4.out.size _
  have HV5 : Hid (w5.heap[V]? = some (.cells #[.slice (some ⟨D, p, none⟩) l l] 30 (0, 0))) := hb5
  have cv := cell_of_one hb5
  have HVR : Hid _ := viewRaw_any (some ⟨D, p, none⟩) l l w5
  clear hg4 hd4 hl HNX HB3 HD3 hb5 HB4
  go_wp2_with fail
  refine Calls.mono HVR.out ?_
  rintro e w6 ⟨rfl, hg6⟩
  have HD6 : Hid (Dec w6 B D n bs u q d (v + c)) := HD5.out.kept hg6 (by simp) (by simp)
  have HB6 : Hid (Below w.heap.size w w6) := HB5.out.grown hg6 HB5.out.size (fun j hj => by cases hj)
  have HV6 : Hid (w6.heap[V]? = some (.cells #[.slice (some ⟨D, p, none⟩) l l] 30 (0, 0))) := (hg6.block V (lt_of_block HV5.out) (by simp)).trans HV5.out
  have HCL2 : Hid _ := clone_some D p l l (fun i => bs (p + i)) w6 (by omega) (fun i hi => HD6.out.dat (p + i) (by omega)) (fun _ => HD6.out.ld)
  obtain ⟨R, hR⟩ : ∃ R, w6.heap.size = R := ⟨_, rfl⟩
  rw [hR] at HCL2
  have HRH : Hid (D < R ∧ B < R ∧ V < R ∧ w.heap.size ≤ R) := by show _ ∧ _; rw [← hR]; exact ⟨HD6.out.ld, HD6.out.lb, lt_of_block HV6.out, HB6.out.size⟩
  have HRR : Hid (w6.heap.size = R) := hR
  clear hg6 HVR HB5 HV5 HD5 hw5 hV cv hR
  go_wp2_with fail
  refine Calls.mono HCL2.out ?_
  rintro e w7 ⟨rfl, hb7, hrow7⟩
  rw [← HRR.out] at hb7
  have hg7 : w6.grownBy w7 none := grown_of_below hb7 none
  have HD7 : Hid (Dec w7 B D n bs u q d (v + c)) := HD6.out.kept hg7 (by simp) (by simp)
  have HB7 : Hid (Below w.heap.size w w7) := HB6.out.grown hg7 HB6.out.size (fun j hj => by cases hj)
  have HV7 : Hid (w7.heap[V]? = some (.cells #[.slice (some ⟨D, p, none⟩) l l] 30 (0, 0))) := (hg7.block V (lt_of_block HV6.out) (by simp)).trans HV6.out
  have HR7 : Hid (w7.rowIs R 5 l (fun i => .int .u8 (bs (p + i)))) := hrow7
  obtain ⟨x, hx⟩ : ∃ x, bs p = x := ⟨_, rfl⟩
  obtain ⟨kd, hkd⟩ : ∃ kd : Int, kd = (if x = 105 then 2 else if x = 108 then 3 else if x = 100 then 4 else if 48 ≤ x ∧ x ≤ 57 then 1 else 0) := ⟨_, rfl⟩
  have HKEEP : Hid (∀ W, w7.grownBy W none → w7.grownBy W none ∧ W.cell? ⟨V, 0, none⟩ = some (.slice (some ⟨D, p, none⟩) l l) ∧ W.cell? ⟨D, p, none⟩ = some (.int .u8 x)) := fun W hW =>
    ⟨hW, cell_of_one ((hW.block V (lt_of_block HV7.out) (by simp)).trans HV7.out), by rw [← hx]; exact (HD7.out.kept hW (by simp) (by simp)).dat p (by omega)⟩
  have HKD : Hid (∀ W, w7.grownBy W none → Calls Tryf.prog 10 #[.agg #[.slice (some ⟨D, p, none⟩) l l]] W fun e w' => e = .returned (.int .u8 kd) ∧ w7.grownBy w' none) := fun W hW =>
    (kind_any D p l l x kd W hl0 (by omega) (HKEEP.out W hW).2.2 (by rw [← hx]; exact (HBY.out p (by omega)).1) hkd).mono fun _ _ h => ⟨h.1, hW.trans h.2⟩
  have HFB : Hid (∀ W, Calls Tryf.prog 11 #[.int .u8 x] W fun e w' => e = .returned (.int .u8 kd) ∧ W = w') := fun W => firstByte_any x kd W (by rw [hkd, ← hx]; exact HVAL.out.kind)
  have hle : ((l : Int) == 0) = false := by simp; omega
  have i8 : (p : Int) < (n : Int) := by omega
  have k0 := HKEEP.out w7 (grown_refl _ _)
  have cv := k0.2.1
  have cx := k0.2.2
  clear k0 hb7 hrow7 hg7 HCL2 HB6 HV6 HD6 HRR hkd hx
  go_wp2_with fail
  go_region_held3 (fun w' => w7.grownBy w' none ∧ w'.cell? ⟨V, 0, none⟩ = some (.slice (some ⟨D, p, none⟩) l l) ∧ w'.cell? ⟨D, p, none⟩ = some (.int .u8 x))
    (first | exact HKEEP.out _ (grown_refl _ _) | exact HKEEP.out _ (grown_drew (grown_refl _ _)) | exact HKEEP.out _ (by assumption) | exact HKEEP.out _ (grown_drew (by assumption)))
    (first | (go_at_call 10; refine Calls.mono (HKD.out _ (by first | exact grown_refl _ _ | exact grown_drew (grown_refl _ _) | assumption | exact grown_drew (by assumption))) ?_; rintro e w8 ⟨rfl, h8⟩) | (go_at_call 11; refine Calls.mono (HFB.out _) ?_; rintro e w9 ⟨rfl, rfl⟩))
  have HD8 : Hid (Dec w8 B D n bs u q d (v + c)) := HD7.out.kept h8 (by simp) (by simp)
  have HB8 : Hid (Below w.heap.size w w8) := HB7.out.grown h8 HB7.out.size (fun j hj => by cases hj)
  have HV8 : Hid (w8.heap[V]? = some (.cells #[.slice (some ⟨D, p, none⟩) l l] 30 (0, 0))) := (h8.block V (lt_of_block HV7.out) (by simp)).trans HV7.out
  have HR8 : Hid (w8.rowIs R 5 l (fun i => .int .u8 (bs (p + i)))) := HR7.out.of_block (h8.block R HR7.out.lt (by simp))
  have HF1 : Hid _ := fields_any B D n q d (v + c) bs u w8 HD8.out
  clear h8 HKEEP HKD HFB HD7 HB7 HV7 HR7 cv cx
  go_wp2_with fail
  refine Calls.mono HF1.out ?_
  rintro e w9 ⟨rfl, hg9, hd9⟩
  have HB9 : Hid (Below w.heap.size w w9) := HB8.out.grown hg9 HB8.out.size (fun j hj => by cases hj)
  have HV9 : Hid (w9.heap[V]? = some (.cells #[.slice (some ⟨D, p, none⟩) l l] 30 (0, 0))) := (hg9.block V (lt_of_block HV8.out) (by simp)).trans HV8.out
  have HR9 : Hid (w9.rowIs R 5 l (fun i => .int .u8 (bs (p + i)))) := HR8.out.of_block (hg9.block R HR8.out.lt (by simp))
  have HX9 : Hid (∀ i, i < n → w9.cell? ⟨D, i, none⟩ = some (.int .u8 (bs i))) := hd9.dat
  have HND2 : Hid _ := newdec_any (.slice (some ⟨R, 0, none⟩) l l) _ _ _ rfl 0 d v u w9
  obtain ⟨B2, hB2⟩ : ∃ B2, w9.heap.size = B2 := ⟨_, rfl⟩
  have HBB2 : Hid (w9.heap.size = B2) := hB2
  rw [hB2] at HND2
  have HH2 : Hid (R < B2 ∧ V < B2 ∧ D < B2 ∧ w.heap.size ≤ B2) := by show _ ∧ _; rw [← hB2]; exact ⟨HR9.out.lt, lt_of_block HV9.out, hd9.ld, HB9.out.size⟩
  clear hg9 hd9 HF1 HD8 HB8 HV8 HR8 hB2
  go_wp2_with fail
  refine Calls.mono HND2.out ?_
  rintro e w10 ⟨rfl, hw10⟩
  have hgA : w9.grownBy w10 none := by rw [hw10]; exact World.grownBy_alloc w9 _ none
  have HB10 : Hid (Below w.heap.size w w10) := HB9.out.grown hgA HB9.out.size (fun j hj => by cases hj)
  have HV10 : Hid (w10.heap[V]? = some (.cells #[.slice (some ⟨D, p, none⟩) l l] 30 (0, 0))) := (hgA.block V (lt_of_block HV9.out) (by simp)).trans HV9.out
  have HX10 : Hid (∀ i, i < n → w10.cell? ⟨D, i, none⟩ = some (.int .u8 (bs i))) := fun i hi => (World.cell?_of_block (hgA.block D (by have := HH2.out.2.2.1; have := HBB2.out; omega) (by simp))).trans (HX9.out i hi)
  have HD10 : Hid (Dec w10 B2 R l (fun i => bs (p + i)) u 0 d v) := by rw [hw10, ← HBB2.out]; exact dec_new R l 0 d v (fun i => bs (p + i)) u w9 HR9.out.lt (by omega) (fun i hi => HR9.out.cell hi)
  have hv2 : Val (fun i => bs (p + i)) u fuel 0 l c h := by
    have := Val.shift (bs := bs) (bs' := fun i => bs (p + i)) (s := p) (T := q) (fun i h1 h2 => by show bs (p + (i - p)) = bs i; rw [show p + (i - p) = i by omega]) HVAL.out (Nat.le_refl _) (Nat.le_refl _)
    rw [Nat.sub_self, HL.out.1] at this
    exact this
  have hnx2 := znext_any B2 R l 0 l c h d v (fun i => bs (p + i)) u w10 HD10.out (skip_any B2 R l _ u _ _ _ _ _ hv2) hl0 (Nat.le_refl _) hdh hvc
  rw [Nat.sub_zero] at hnx2
  have HNX2 : Hid _ := hnx2
  clear hgA hw10 HND2 HB9 HV9 HX9 HR9 HBB2 hv2 hnx2
  go_wp2_with fail
  refine Calls.mono HNX2.out ?_
  rintro e w11 ⟨rfl, hg11, hd11⟩
  have HB11 : Hid (Below w.heap.size w w11) := HB10.out.grown hg11 HB10.out.size (fun j hj => by cases hj; exact HH2.out.2.2.2)
  have HV11 : Hid (w11.heap[V]? = some (.cells #[.slice (some ⟨D, p, none⟩) l l] 30 (0, 0))) := (hg11.block V (lt_of_block HV10.out) (by simp; have := HH2.out; omega)).trans HV10.out
  have HX11 : Hid (∀ i, i < n → w11.cell? ⟨D, i, none⟩ = some (.int .u8 (bs i))) := fun i hi => (World.cell?_of_block (hg11.block D (World.block_lt_of_cell? _ _ (HX10.out i hi)) (by simp; have := HH2.out; omega))).trans (HX10.out i hi)
  obtain ⟨w12, hw12⟩ : ∃ w12, w11.alloc (.cells #[.slice (some ⟨R, 0, none⟩) l l] 30) = w12 := ⟨_, rfl⟩
  obtain ⟨V2, hV2⟩ : ∃ V2, w11.heap.size = V2 := ⟨_, rfl⟩
  have hb12 : w12.heap[V2]? = some (.cells #[.slice (some ⟨R, 0, none⟩) l l] 30 (0, 0)) := by rw [← hw12, ← hV2]; exact heap_alloc_new w11 _
  have hgB : w11.grownBy w12 none := by rw [← hw12]; exact World.grownBy_alloc w11 _ none
  have HB12 : Hid (Below w.heap.size w w12) := HB11.out.grown hgB HB11.out.size (fun j hj => by cases hj)
  have HV12 : Hid (w12.heap[V]? = some (.cells #[.slice (some ⟨D, p, none⟩) l l] 30 (0, 0))) := (hgB.block V (lt_of_block HV11.out) (by simp)).trans HV11.out
  have HX12 : Hid (∀ i, i < n → w12.cell? ⟨D, i, none⟩ = some (.int .u8 (bs i))) := fun i hi => (World.cell?_of_block (hgB.block D (World.block_lt_of_cell? _ _ (HX11.out i hi)) (by simp))).trans (HX11.out i hi)
  have HD12 : Hid (Dec w12 B2 R l (fun i => bs (p + i)) u l d (v + c)) := hd11.kept hgB (by simp) (by simp)
  have HW12 : Hid (w12.heap[V2]? = some (.cells #[.slice (some ⟨R, 0, none⟩) l l] 30 (0, 0))) := hb12
  have cv2 := cell_of_one hb12
  have HVR2 : Hid _ := viewRaw_any (some ⟨R, 0, none⟩) l l w12
  clear hg11 hd11 hgB hb12 HNX2 HB10 HV10 HX10 HD10 HB11 HV11 HX11
  go_wp2_with fail
  refine Calls.mono HVR2.out ?_
  rintro e w13 ⟨rfl, hg13⟩
  have HB13 : Hid (Below w.heap.size w w13) := HB12.out.grown hg13 HB12.out.size (fun j hj => by cases hj)
  have HV13 : Hid (w13.heap[V]? = some (.cells #[.slice (some ⟨D, p, none⟩) l l] 30 (0, 0))) := (hg13.block V (lt_of_block HV12.out) (by simp)).trans HV12.out
  have HW13 : Hid (w13.heap[V2]? = some (.cells #[.slice (some ⟨R, 0, none⟩) l l] 30 (0, 0))) := (hg13.block V2 (lt_of_block HW12.out) (by simp)).trans HW12.out
  have HX13 : Hid (∀ i, i < n → w13.cell? ⟨D, i, none⟩ = some (.int .u8 (bs i))) := fun i hi => (World.cell?_of_block (hg13.block D (World.block_lt_of_cell? _ _ (HX12.out i hi)) (by simp))).trans (HX12.out i hi)
  have HD13 : Hid (Dec w13 B2 R l (fun i => bs (p + i)) u l d (v + c)) := HD12.out.kept hg13 (by simp) (by simp)
  have HF2 : Hid _ := fields_any B2 R l l d (v + c) (fun i => bs (p + i)) u w13 HD13.out
  clear hg13 HVR2 HB12 HV12 HX12 HD12 HW12 cv2 hw12 hV2
  go_wp2_with fail
  refine Calls.mono HF2.out ?_
  rintro e w14 ⟨rfl, hg14, hd14⟩
  have HB14 : Hid (Below w.heap.size w w14) := HB13.out.grown hg14 HB13.out.size (fun j hj => by cases hj)
  have HV14 : Hid (w14.heap[V]? = some (.cells #[.slice (some ⟨D, p, none⟩) l l] 30 (0, 0))) := (hg14.block V (lt_of_block HV13.out) (by simp)).trans HV13.out
  have HW14 : Hid (w14.heap[V2]? = some (.cells #[.slice (some ⟨R, 0, none⟩) l l] 30 (0, 0))) := (hg14.block V2 (lt_of_block HW13.out) (by simp)).trans HW13.out
  have HX14 : Hid (w14.cell? ⟨D, p, none⟩ = some (.int .u8 (bs p))) := (World.cell?_of_block (hg14.block D (World.block_lt_of_cell? _ _ (HX13.out p (by omega))) (by simp))).trans (HX13.out p (by omega))
  have HD14 : Hid (Dec w14 B2 R l (fun i => bs (p + i)) u l d (v + c)) := hd14
  obtain ⟨ke, hke⟩ : ∃ kd : Int, kd = (if bs p = 105 then 2 else if bs p = 108 then 3 else if bs p = 100 then 4 else if 48 ≤ bs p ∧ bs p ≤ 57 then 1 else 0) := ⟨_, rfl⟩
  have HKEEP : Hid (∀ W, w14.grownBy W none → w14.grownBy W none ∧ W.cell? ⟨V, 0, none⟩ = some (.slice (some ⟨D, p, none⟩) l l) ∧ W.cell? ⟨V2, 0, none⟩ = some (.slice (some ⟨R, 0, none⟩) l l)) := fun W hW =>
    ⟨hW, cell_of_one ((hW.block V (lt_of_block HV14.out) (by simp)).trans HV14.out), cell_of_one ((hW.block V2 (lt_of_block HW14.out) (by simp)).trans HW14.out)⟩
  have HKD1 : Hid (∀ W, w14.grownBy W none → Calls Tryf.prog 10 #[.agg #[.slice (some ⟨D, p, none⟩) l l]] W fun e w' => e = .returned (.int .u8 ke) ∧ w14.grownBy w' none) := fun W hW =>
    (kind_any D p l l (bs p) ke W hl0 (by omega) ((World.cell?_of_block (hW.block D (World.block_lt_of_cell? _ _ HX14.out) (by simp))).trans HX14.out) (HBY.out p (by omega)).1 hke).mono fun _ _ h => ⟨h.1, hW.trans h.2⟩
  have HKD2 : Hid (∀ W, w14.grownBy W none → Calls Tryf.prog 10 #[.agg #[.slice (some ⟨R, 0, none⟩) l l]] W fun e w' => e = .returned (.int .u8 ke) ∧ w14.grownBy w' none) := fun W hW =>
    (kind_any R 0 l l (bs p) ke W hl0 (by omega) ((HD14.out.kept hW (by simp) (by simp)).dat 0 hl0) (HBY.out p (by omega)).1 hke).mono fun _ _ h => ⟨h.1, hW.trans h.2⟩
  have k0 := HKEEP.out w14 (grown_refl _ _)
  have cv := k0.2.1
  have cv2 := k0.2.2
  clear k0 hg14 hd14 hke HF2 HB13 HV13 HW13 HX13 HD13
  go_wp2_with fail
  go_region_held3 (fun w' => w14.grownBy w' none ∧ w'.cell? ⟨V, 0, none⟩ = some (.slice (some ⟨D, p, none⟩) l l) ∧ w'.cell? ⟨V2, 0, none⟩ = some (.slice (some ⟨R, 0, none⟩) l l))
    (first | exact HKEEP.out _ (grown_refl _ _) | exact HKEEP.out _ (grown_drew (grown_refl _ _)) | exact HKEEP.out _ (by assumption) | exact HKEEP.out _ (grown_drew (by assumption)))
    (first | (go_at_call_of 10 (Value.agg #[.slice (some ⟨R, 0, none⟩) l l]); refine Calls.mono (HKD2.out _ (by first | exact grown_refl _ _ | exact grown_drew (grown_refl _ _) | assumption | exact grown_drew (by assumption))) ?_; rintro e w15 ⟨rfl, h15⟩) | (go_at_call_of 10 (Value.agg #[.slice (some ⟨D, p, none⟩) l l]); refine Calls.mono (HKD1.out _ (by first | exact grown_refl _ _ | exact grown_drew (grown_refl _ _) | assumption | exact grown_drew (by assumption))) ?_; rintro e w16 ⟨rfl, h16⟩))
  have HB16 : Hid (Below w.heap.size w w16) := HB14.out.grown h16 HB14.out.size (fun j hj => by cases hj)
  have HD16 : Hid (Dec w16 B2 R l (fun i => bs (p + i)) u l d (v + c)) := HD14.out.kept h16 (by simp) (by simp)
  clear h15 h16 HKEEP HKD1 HKD2 HB14 HV14 HW14 HX14 HD14 cv cv2
  go_wp2_with fail
  go_loopw [30] (fun i wx => ∃ k : Nat, k ≤ l ∧ i = .int .i64 k ∧ Hid (w16.grownBy wx none)) (fun i _ => l - (intOf i).toNat)
  case atStart => exact ⟨0, Nat.zero_le _, rfl, grown_refl _ _⟩
  case round =>
    obtain ⟨k, hk, rfl, HG⟩ := hrel
    by_cases hlt : k < l
    · have cr : wr.cell? ⟨R, k, none⟩ = some (.int .u8 (bs (p + k))) := (HD16.out.kept HG.out (by simp) (by simp)).dat k hlt
      obtain ⟨y, hy⟩ : ∃ y, bs (p + k) = y := ⟨_, rfl⟩
      rw [hy] at cr
      have hz0 : (0 : Int) ≤ (k : Int) := by omega
      have hz1 : (k : Int) < (l : Int) := by omega
      clear hy
      go_wp2_with fail
      go_quiet (fail)
      go_wp2
      go_roundw
      case rel => exact ⟨k + 1, by omega, by go_num, HG.out.trans (grown_drewN _ _ _)⟩
      case measure => simp [intOf]; omega
    · have hkl : l = k := by omega
      subst hkl
      go_wp2
      go_ret
      exact ⟨rfl, HB16.out.grown HG.out HB16.out.size (fun j hj => by cases hj)⟩

set_option maxHeartbeats 1600000 in
set_option maxRecDepth 100000 in
theorem law_nil (d v : Nat) (u : Bool) (w : World) (hd : d ≤ 512) (hv : v ≤ 2097152) :
    Calls Tryf.prog 3 #[.slice none 0 0, .int .i64 0, .int .i64 d, .int .i64 v, .bool u] w fun e w' => e = .returned (.bool true) ∧ Below w.heap.size w w' := by
  have HZ : Hid _ := zbytes_any none 0 0 0 d v u w (by unfold maxLen; omega)
  have HCL : Hid _ := clone_nil w
  have HSC : Hid _ := scan_nil d v u w
  have i4 : (0 : Int) ≤ (d : Int) := by omega
  have i5 : (d : Int) ≤ 512 := by omega
  have i6 : (0 : Int) ≤ (v : Int) := by omega
  have i7 : (v : Int) ≤ 2097152 := by omega
  go_enter Tryf.func3, Tryf.ntmps3
  go_wp2_with fail
  refine Calls.mono HZ.out ?_
  rintro e w' ⟨⟨b, rfl⟩, rfl⟩
  cases b
  · go_wp2
    go_ret
    exact ⟨rfl, Below.refl _ _⟩
  go_wp2_with fail
  refine Calls.mono HCL.out ?_
  rintro e w' ⟨rfl, rfl⟩
  go_wp2_with fail
  refine Calls.mono HSC.out ?_
  rintro e w' ⟨rfl, rfl⟩
  go_wp2
  go_ret
  exact ⟨rfl, Below.refl _ _⟩
end Go.Proofs.Qxb6609549aFmt.Dec
