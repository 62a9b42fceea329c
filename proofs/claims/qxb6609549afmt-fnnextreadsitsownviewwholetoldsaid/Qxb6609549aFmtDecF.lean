/- The decoder on the good road: one entry of a dictionary: skip$1 (24), entries$1 (30). -/
import Derived.Test.Qxb6609549aFmtVal
namespace Go.Proofs.Qxb6609549aFmt.Dec
open Go.RowKit Go.ChangeShapes Go.WideShapes

/-- What the two closures have captured. -/
structure Cl (w : World) (B X Fb L E Y : Nat) (fst : Bool) (lv : Value) : Prop where
  x : w.cell? ⟨X, 0, none⟩ = some (.pointer (some ⟨B, 0, none⟩))
  f : w.cell? ⟨Fb, 0, none⟩ = some (.bool fst)
  l : w.cell? ⟨L, 0, none⟩ = some lv
  e : w.cell? ⟨E, 0, none⟩ = some (.func (.func 24) #[] #[.pointer (some ⟨Y, 0, none⟩)])
  y : w.cell? ⟨Y, 0, none⟩ = some (.pointer (some ⟨B, 0, none⟩))
  ff : w.frozen? ⟨Fb, 0, none⟩ = false
  fl : w.frozen? ⟨L, 0, none⟩ = false
  lx : X < w.heap.size
  lf : Fb < w.heap.size
  ll : L < w.heap.size
  le : E < w.heap.size
  ly : Y < w.heap.size
/-- How the blocks lie. -/
structure Lie (B D X Fb L E Y : Nat) : Prop where
  xb : X ≠ B
  fb : Fb ≠ B
  lb : L ≠ B
  eb : E ≠ B
  yb : Y ≠ B
  fd : Fb ≠ D
  ld : L ≠ D
  fl : Fb ≠ L
  xf : X ≠ Fb
  xl : X ≠ L
  ef : E ≠ Fb
  el : E ≠ L
  yf : Y ≠ Fb
  yl : Y ≠ L

theorem Cl.kept {w w' : World} {B D X Fb L E Y : Nat} {fst : Bool} {lv : Value} {r : Option Nat} (h : Cl w B X Fb L E Y fst lv) (i : Lie B D X Fb L E Y) (hg : w.grownBy w' r) (hr : r = none ∨ r = some B) : Cl w' B X Fb L E Y fst lv := by
  have k : ∀ b, b < w.heap.size → b ≠ B → w'.heap[b]? = w.heap[b]? := fun b hb hne => hg.block b hb (by rcases hr with rfl | rfl <;> simp [hne])
  exact ⟨(World.cell?_of_block (k X h.lx i.xb)).trans h.x, (World.cell?_of_block (k Fb h.lf i.fb)).trans h.f, (World.cell?_of_block (k L h.ll i.lb)).trans h.l, (World.cell?_of_block (k E h.le i.eb)).trans h.e, (World.cell?_of_block (k Y h.ly i.yb)).trans h.y,
    (World.frozen?_of_block (k Fb h.lf i.fb)).trans h.ff, (World.frozen?_of_block (k L h.ll i.lb)).trans h.fl, Nat.lt_of_lt_of_le h.lx hg.size, Nat.lt_of_lt_of_le h.lf hg.size, Nat.lt_of_lt_of_le h.ll hg.size, Nat.lt_of_lt_of_le h.le hg.size, Nat.lt_of_lt_of_le h.ly hg.size⟩

theorem Cl.next {w : World} {B D X Fb L E Y : Nat} {fst : Bool} {lv lv' : Value} (h : Cl w B X Fb L E Y fst lv) (i : Lie B D X Fb L E Y) : Cl ((w.setCell ⟨Fb, 0, none⟩ (.bool false)).setCell ⟨L, 0, none⟩ lv') B X Fb L E Y false lv' := by
  have o : ∀ b, b ≠ Fb → b ≠ L → ((w.setCell ⟨Fb, 0, none⟩ (.bool false)).setCell ⟨L, 0, none⟩ lv').heap[b]? = w.heap[b]? := fun b h1 h2 => (Below.heap_setCell _ _ _ _ h2).trans (Below.heap_setCell _ _ _ _ h1)
  refine ⟨(World.cell?_of_block (o X i.xf i.xl)).trans h.x, ?_, ?_, (World.cell?_of_block (o E i.ef i.el)).trans h.e, (World.cell?_of_block (o Y i.yf i.yl)).trans h.y, ?_, ?_, ?_, ?_, ?_, ?_, ?_⟩
  · rw [World.cell?_of_block (Below.heap_setCell _ _ _ _ i.fl)]
    exact World.cell?_setCell_same _ _ _ h.f
  · exact World.cell?_setCell_same _ _ _ ((World.cell?_of_block (Below.heap_setCell _ _ _ _ (Ne.symm i.fl))).trans h.l)
  · rw [World.frozen?_setCell, World.frozen?_setCell]; exact h.ff
  · rw [World.frozen?_setCell, World.frozen?_setCell]; exact h.fl
  · simpa using h.lx
  · simpa using h.lf
  · simpa using h.ll
  · simpa using h.le
  · simpa using h.ly

/-- skip$1 does what skip does. -/
theorem skip1_any (B Y : Nat) (kv : Value) (w : World) (post : Ending → World → Prop) (hp : ∀ e w', post e w' → e = .returned .nilIface) (hy : w.cell? ⟨Y, 0, none⟩ = some (.pointer (some ⟨B, 0, none⟩))) (h : Calls Tryf.prog 19 #[.pointer (some ⟨B, 0, none⟩)] w post) :
    Calls Tryf.prog 24 #[kv, .pointer (some ⟨Y, 0, none⟩)] w fun e w' => e = .returned .nilIface ∧ post e w' := by
  have H : Hid _ := h
  have HP : Hid (∀ e w', post e w' → e = .returned .nilIface) := hp
  clear h hp
  go_enter Tryf.func24, Tryf.ntmps24
  go_wp2_with fail
  refine Calls.mono H.out ?_
  intro e w' hpo
  have he := HP.out e w' hpo
  subst he
  have HPO : Hid _ := hpo
  clear hpo
  go_wp2
  go_ret
  exact ⟨rfl, HPO.out⟩

theorem grown_two {W0 w : World} {B Fb L : Nat} {x y : Value} (h : W0.grownBy w (some B)) (h1 : W0.heap.size ≤ Fb) (h2 : W0.heap.size ≤ L) : W0.grownBy ((w.setCell ⟨Fb, 0, none⟩ x).setCell ⟨L, 0, none⟩ y) (some B) := by
  refine ⟨h.os, h.tape, h.output, by simpa using h.size, fun k hk hne => ?_⟩
  rw [Below.heap_setCell _ _ _ _ (show k ≠ L by omega), Below.heap_setCell _ _ _ _ (show k ≠ Fb by omega)]
  exact h.block k hk hne
theorem Dec.two {w : World} {B D n p d v X Fb L E Y : Nat} {bs : Nat → Int} {u : Bool} {x y : Value} (h : Dec w B D n bs u p d v) (i : Lie B D X Fb L E Y) : Dec ((w.setCell ⟨Fb, 0, none⟩ x).setCell ⟨L, 0, none⟩ y) B D n bs u p d v := by
  have o : ∀ b, b ≠ Fb → b ≠ L → ((w.setCell ⟨Fb, 0, none⟩ x).setCell ⟨L, 0, none⟩ y).heap[b]? = w.heap[b]? := fun b h1 h2 => (Below.heap_setCell _ _ _ _ h2).trans (Below.heap_setCell _ _ _ _ h1)
  have e1 := o B (Ne.symm i.fb) (Ne.symm i.lb)
  have e2 := o D (Ne.symm i.fd) (Ne.symm i.ld)
  have k : ∀ j, ((w.setCell ⟨Fb, 0, none⟩ x).setCell ⟨L, 0, none⟩ y).cell? ⟨B, j, none⟩ = w.cell? ⟨B, j, none⟩ := fun j => World.cell?_of_block e1
  exact ⟨(k _).trans h.c0, (k _).trans h.c1, (k _).trans h.c2, (k _).trans h.c3, (k _).trans h.c4, fun j => (World.frozen?_of_block e1).trans (h.fz j), fun i hi => (World.cell?_of_block e2).trans (h.dat i hi), h.ne, h.nb, by simpa using h.lb, by simpa using h.ld⟩

/-- What stands in 'last' behind an entry with the key at ko, km long. -/
def KeyV (D ko km : Nat) (lv : Value) : Prop := ∃ o, lv = .slice (some ⟨D, o, none⟩) km km ∧ (0 < km → o = ko)

set_option maxHeartbeats 4000000 in
set_option maxRecDepth 100000 in
/-- One entry. -/
theorem entry_any (B D n p d v k m s q v2 X Fb L E Y ko km : Nat) (bs : Nat → Int) (u fst : Bool) (lv : Value) (w : World) (h : Dec w B D n bs u p d v) (hi : Lie B D X Fb L E Y) (hc : Cl w B X Fb L E Y fst lv) (hs : StrAt bs p k m s) (hsn : s ≤ n)
    (hl : fst = false → KeyV D ko km lv ∧ ko + km ≤ n) (ho : u = false → fst = false → 0 < ord (seg bs (p + k + 1) m) (seg bs ko km))
    (hsk : ∀ w, Dec w B D n bs u s d v → Calls Tryf.prog 19 #[.pointer (some ⟨B, 0, none⟩)] w fun e w' => e = .returned .nilIface ∧ w.grownBy w' (some B) ∧ Dec w' B D n bs u q d v2) :
    Calls Tryf.prog 30 #[.pointer (some ⟨X, 0, none⟩), .pointer (some ⟨Fb, 0, none⟩), .pointer (some ⟨L, 0, none⟩), .pointer (some ⟨E, 0, none⟩)] w fun e w' => e = .returned .nilIface ∧ Dec w' B D n bs u q d v2 ∧ (∃ lv', KeyV D (p + k + 1) m lv' ∧ Cl w' B X Fb L E Y false lv') ∧
      ∀ W0 : World, W0.grownBy w (some B) → W0.heap.size ≤ Fb → W0.heap.size ≤ L → W0.grownBy w' (some B) := by
  have hp : p + k + 1 + m ≤ n := by have := hs.stop; omega
  have hnb := h.nb
  have hd0 := h.dat p (by omega)
  obtain ⟨hx0, hx1⟩ := hs.first
  have HBS : Hid (∀ w, Dec w B D n bs u p d v → _) := fun w h => bytes_any B D n p d v k m bs u w h hs.digs.pos (by omega) hs.digs.dig hs.colon hs.digs.lead hs.size hp
  have HK : Hid (∀ w, Calls Tryf.prog 17 #[.int .u8 (bs p)] w fun e w' => e = .returned (.int .u8 1) ∧ w' = w) := fun w => (kindOf_any (bs p) 1 w (by omega) (by rw [if_neg (by omega), if_neg (by omega), if_neg (by omega), if_pos ⟨hx0, hx1⟩])).mono fun _ _ ⟨h1, h2⟩ => ⟨h1, h2.symm⟩
  rw [← hs.stop] at HBS
  obtain ⟨x, hxx⟩ : ∃ x, bs p = x := ⟨_, rfl⟩
  rw [hxx] at HK hd0
  have c0 := h.c0
  have c1 := h.c1
  have cx := hc.x
  have HD : Hid (Dec w B D n bs u p d v) := h
  have HC : Hid (Cl w B X Fb L E Y fst lv) := hc
  have HI : Hid (Lie B D X Fb L E Y) := hi
  have HO : Hid (u = false → fst = false → 0 < ord (seg bs (p + k + 1) m) (seg bs ko km)) := ho
  have HL : Hid (fst = false → KeyV D ko km lv ∧ ko + km ≤ n) := hl
  have HSK : Hid (∀ w, Dec w B D n bs u s d v → Calls Tryf.prog 19 #[.pointer (some ⟨B, 0, none⟩)] w fun e w' => e = .returned .nilIface ∧ w.grownBy w' (some B) ∧ Dec w' B D n bs u q d v2) := hsk
  have HPN : Hid (p + k + 1 + m ≤ n) := hp
  have hz0 : (0 : Int) ≤ (p : Int) := by omega
  have hz1 : (p : Int) < (n : Int) := by omega
  clear h hc hi ho hl hsk hs hxx hx0 hx1 hp
  go_enter Tryf.func30, Tryf.ntmps30
  go_wp2_with fail
  go_quiet ((go_at_call 17; exact Calls.quiet_of_same (HK.out _)))
  go_wp2_with fail
  refine Calls.mono (HBS.out _ (HD.out.drewN _)) ?_
  rintro e w1 ⟨o, rfl, hok, hg1, hd1⟩
  have HG1 : Hid (w.grownBy w1 (some B)) := (grown_drewN _ _ _).trans hg1
  have HD1 : Hid (Dec w1 B D n bs u s d v) := hd1
  have HC1 : Hid (Cl w1 B X Fb L E Y fst lv) := HC.out.kept HI.out HG1.out (.inr rfl)
  have HOK : Hid (0 < m → o = p + k + 1) := hok
  have c4 := hd1.c4
  have cx := HC1.out.x
  have cf := HC1.out.f
  have cl := HC1.out.l
  have ff := HC1.out.ff
  have fl := HC1.out.fl
  clear hg1 hd1 HD HC HBS HK hok c0 c1 hd0 hz0 hz1
  obtain ⟨w2, hw2⟩ : ∃ w2, (w1.setCell ⟨Fb, 0, none⟩ (.bool false)).setCell ⟨L, 0, none⟩ (.slice (some ⟨D, o, none⟩) m m) = w2 := ⟨_, rfl⟩
  have HD2 : Hid (Dec w2 B D n bs u s d v) := by rw [← hw2]; exact HD1.out.two HI.out
  have HC2 : Hid (Cl w2 B X Fb L E Y false (.slice (some ⟨D, o, none⟩) m m)) := by rw [← hw2]; exact HC1.out.next HI.out
  have HW2 : Hid (∀ W0 : World, W0.grownBy w (some B) → W0.heap.size ≤ Fb → W0.heap.size ≤ L → W0.grownBy w2 (some B)) := by rw [← hw2]; exact fun W0 h1 h2 h3 => grown_two (h1.trans HG1.out) h2 h3
  have ce := HC2.out.e
  have cy := HC2.out.y
  have hfl := HI.out.fl
  have hlf := Ne.symm HI.out.fl
  cases u with
  | true =>
    go_wp2_with fail
    refine Calls.mono (skip1_any B Y _ w2 _ (fun _ _ h => h.1) cy (HSK.out w2 HD2.out)) ?_
    rintro e w3 ⟨rfl, _, hg3, hd3⟩
    have HG3 : Hid _ := hg3
    have HD3 : Hid _ := hd3
    clear hg3 hd3
    go_wp2
    go_ret
    exact ⟨rfl, HD3.out, ⟨_, ⟨o, rfl, HOK.out⟩, HC2.out.kept HI.out HG3.out (.inr rfl)⟩, fun W0 h1 h2 h3 => (HW2.out W0 h1 h2 h3).trans HG3.out⟩
  | false =>
    cases fst with
    | true =>
      go_wp2_with fail
      refine Calls.mono (skip1_any B Y _ w2 _ (fun _ _ h => h.1) cy (HSK.out w2 HD2.out)) ?_
      rintro e w3 ⟨rfl, _, hg3, hd3⟩
      have HG3 : Hid _ := hg3
      have HD3 : Hid _ := hd3
      clear hg3 hd3
      go_wp2
      go_ret
      exact ⟨rfl, HD3.out, ⟨_, ⟨o, rfl, HOK.out⟩, HC2.out.kept HI.out HG3.out (.inr rfl)⟩, fun W0 h1 h2 h3 => (HW2.out W0 h1 h2 h3).trans HG3.out⟩
    | false =>
      obtain ⟨⟨lo, rfl, hlo⟩, hkn⟩ := HL.out rfl
      have hor := HO.out rfl rfl
      have HCM : Hid _ := cmp_any D o m m lo km km (seg bs (p + k + 1) m) (seg bs ko km) w1 (seg_length _ _ _) (seg_length _ _ _)
        (fun i y hy => by
          have hi : i < m := by have := (List.getElem?_eq_some_iff.1 hy).1; rwa [seg_length] at this
          rw [seg_get _ _ _ _ hi] at hy
          rw [HOK.out (by omega), HD1.out.dat _ (by have := HPN.out; omega)]
          simp only [Option.some.injEq] at hy
          rw [hy])
        (fun i y hy => by
          have hi : i < km := by have := (List.getElem?_eq_some_iff.1 hy).1; rwa [seg_length] at this
          rw [seg_get _ _ _ _ hi] at hy
          rw [hlo (by omega), HD1.out.dat _ (by omega)]
          simp only [Option.some.injEq] at hy
          rw [hy])
      obtain ⟨ov, hov⟩ : ∃ ov, ord (seg bs (p + k + 1) m) (seg bs ko km) = ov := ⟨_, rfl⟩
      rw [hov] at HCM hor
      clear hov hlo
      go_wp2_with fail
      refine Calls.mono HCM.out ?_
      rintro e w' ⟨rfl, rfl⟩
      go_wp2_with fail
      refine Calls.mono (skip1_any B Y _ w2 _ (fun _ _ h => h.1) cy (HSK.out w2 HD2.out)) ?_
      rintro e w3 ⟨rfl, _, hg3, hd3⟩
      have HG3 : Hid _ := hg3
      have HD3 : Hid _ := hd3
      clear hg3 hd3
      go_wp2
      go_ret
      exact ⟨rfl, HD3.out, ⟨_, ⟨o, rfl, HOK.out⟩, HC2.out.kept HI.out HG3.out (.inr rfl)⟩, fun W0 h1 h2 h3 => (HW2.out W0 h1 h2 h3).trans HG3.out⟩
end Go.Proofs.Qxb6609549aFmt.Dec
