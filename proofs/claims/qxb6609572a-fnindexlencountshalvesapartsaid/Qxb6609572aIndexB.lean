/- zzIndexMaps (7). -/
import Derived.Test.Qxb6609572aIndexA
namespace Go.Proofs.Qxb6609572a.Index
open Go.RowKit Go.Maps Go.WideElems Go.MapKept Go.ChangeShapes Go.WideShapes

theorem info2 : (Try.prog.info? 2).map (fun i => (i.zero, i.size, i.bytes)) = some (some (.int .i64 0), 1, 8) := by kernel_rfl

theorem groups_mono {w : World} {base b n m : Nat} {D : DataW Unit} (h : w.ownsGroups Try.prog 24 base 2 .i64 b n D) (hm : n ≤ m) : w.ownsGroups Try.prog 24 base 2 .i64 b m D := by
  obtain ⟨es, clock, hb, F, hs, hD, hbb, hlen, hap⟩ := h
  exact ⟨es, clock, hb, F, Nat.le_trans hs hm, hD, hbb, fun x hx zs ho => Nat.le_trans (hlen x hx zs ho) hm, hap⟩
theorem tail_new {Hs Ps : Nat → Int} {k : Nat} (h : ∀ x, (Lit.int .u64 x).wf = true → (occ Hs Ps k x).tail = []) (he : occ Hs Ps k (Hs k) = []) : ∀ x, (Lit.int .u64 x).wf = true → (occ Hs Ps (k + 1) x).tail = [] := by
  intro x hx
  by_cases e : Hs k = x
  · subst e; rw [occ_hit rfl, he]; rfl
  · rw [occ_miss e]; exact h x hx
/-- A hash met for the first time is stored into the first map. -/
theorem maps_new {wr w1 : World} {B : Nat} {mv : Value} {k : Nat} {Hs Ps : Nat → Int} {D1 : DataW Unit} (hfirst : FirstOk D1 Hs Ps k) (hown : wr.ownsMap Try.prog 24 (plainElem Try.prog 2) B k D1)
    (hmore : (mv = .map none ∧ ∀ x, (Lit.int .u64 x).wf = true → (occ Hs Ps k x).tail = []) ∨ ∃ (b2 : Nat) (D2 : DataW Unit), mv = .map (some b2) ∧ B < b2 ∧ wr.ownsGroups Try.prog 24 (b2 + 1) 2 .i64 b2 k D2 ∧ MoreOk D2 Hs Ps k)
    (hw : (Lit.int .u64 (Hs k)).wf = true) (he : occ Hs Ps k (Hs k) = [])
    (hown1 : w1.ownsMap Try.prog 24 (plainElem Try.prog 2) B (k + 1) (D1.put (.int .u64 (Hs k)) (.lit (.int .i64 (Ps k))))) (hgrow : wr.grownBy w1 (some B)) : MapsAt w1 B mv (k + 1) Hs Ps := by
  refine ⟨⟨_, hown1, first_new hfirst (hown.tidy law) hw he⟩, ?_⟩
  rcases hmore with ⟨h1, h2⟩ | ⟨b2, D2, h1, h2, h3, h4⟩
  · exact .inl ⟨h1, tail_new h2 he⟩
  · exact .inr ⟨b2, D2, h1, h2, groups_mono (h3.kept hgrow (by simp; omega) (h3.rowsAbove (fun j hj => by cases hj; omega))) (Nat.le_succ _), more_new h4 he⟩

/-- A hash met again is stored into the second map. -/
theorem maps_old {wm w1 w2 : World} {B b2 k : Nat} {Hs Ps : Nat → Int} {D1 D2 : DataW Unit} {v v' : Value} {x p p0 : Int} {zs : List Int} (hfirst : FirstOk D1 Hs Ps k) (hown : wm.ownsMap Try.prog 24 (plainElem Try.prog 2) B k D1) (hb : B < b2) (hmo : MoreOk D2 Hs Ps k) (him : IsMap D2)
    (hx : Hs k = x) (hp : Ps k = p) (hocc : occ Hs Ps k (Hs k) = p0 :: zs) (hg1 : wm.grownBy w1 v.ownBlock) (hrow : ∀ j, v.ownBlock = some j → b2 + 1 ≤ j) (ho1 : w1.ownsInts (b2 + 1) 2 .i64 v' (zs ++ [p]))
    (hown2 : w2.ownsGroups Try.prog 24 (b2 + 1) 2 .i64 b2 (k + 1) (D2.put (.int .u64 x) (rowDatum .i64 v' (zs ++ [p])))) (hg2 : w1.grownBy w2 (some b2)) : MapsAt w2 B (.map (some b2)) (k + 1) Hs Ps := by
  have h1 : w1.ownsMap Try.prog 24 (plainElem Try.prog 2) B k D1 := hown.kept hg1 (fun e => by have := hrow B e.symm; omega)
  have h2 : w2.ownsMap Try.prog 24 (plainElem Try.prog 2) B k D1 := h1.kept hg2 (by simp; omega)
  refine ⟨⟨D1, h2.mono (Nat.le_succ _), first_old hfirst hocc⟩, .inr ⟨b2, _, rfl, hb, hown2, ?_⟩⟩
  rw [ho1.datum_pos (by simp)]
  subst hx hp
  exact more_old hmo him hocc
theorem grown_of_drew {x y : World} {r : Option Nat} (h : x.drew.grownBy y r) : x.grownBy y r := ⟨h.os, h.tape, h.output, h.size, h.block⟩

theorem maps_none (a1 : Option Addr) (l1 c1 : Nat) (a2 : Option Addr) (l2 c2 : Nat) (w : World) :
    Calls Try.prog 7 #[.slice a1 l1 c1, .slice a2 l2 c2, .int .i64 0] w fun e w' => e = .returned (.tuple #[.map none, .map none]) ∧ w = w' := by
  go_enter Try.func7, Try.ntmps7
  go_wp2
  go_ret2
  exact ⟨rfl, rfl⟩

set_option maxHeartbeats 4000000 in
set_option maxRecDepth 100000 in
theorem maps_any (bh oh l1 c1 bp op l2 c2 n : Nat) (Hs Ps : Nat → Int) (w : World) (hn : 0 < n) (hn2 : n ≤ 131072) (hl1 : n ≤ l1) (hl2 : n ≤ l2)
    (hH : ∀ i, i < n → w.cell? ⟨bh, oh + i, none⟩ = some (.int .u64 (Hs i))) (hbh : bh < w.heap.size) (hwH : ∀ i, i < n → (Lit.int .u64 (Hs i)).wf = true)
    (hP : ∀ i, i < n → w.cell? ⟨bp, op + i, none⟩ = some (.int .i64 (Ps i))) (hbp : bp < w.heap.size) (hwP : ∀ i, i < n → (Lit.int .i64 (Ps i)).wf = true) :
    Calls Try.prog 7 #[.slice (some ⟨bh, oh, none⟩) l1 c1, .slice (some ⟨bp, op, none⟩) l2 c2, .int .i64 n] w fun e w' =>
      ∃ b1 mv, e = .returned (.tuple #[.map (some b1), mv]) ∧ w.heap.size ≤ b1 ∧ MapsAt w' b1 mv n Hs Ps ∧ Below w.heap.size w w' := by
  have hmm := @run_makeMap Try.prog
  obtain ⟨i0, hi, hz0, hz1, hz2⟩ := info_parts info2
  have hne : ((n : Int) == 0) = false := by simp; omega
  go_enter Try.func7, Try.ntmps7
  go_wp2
  obtain ⟨B, hB⟩ : ∃ B, w.heap.size = B := ⟨_, rfl⟩
  have hst : MapsAt (w.alloc (.map #[] 0)) B (.map none) 0 Hs Ps := by
    rw [← hB]
    exact ⟨⟨_, World.ownsMap_made _ _ _ _, first_start Hs Ps⟩, .inl ⟨rfl, fun x _ => by simp [occ]⟩⟩
  have hbel0 : Below B w (w.alloc (.map #[] 0)) := by rw [← hB]; exact (Below.refl _ _).alloc (Nat.le_refl _) _
  rw [hB]
  go_loopw [9, 10] (fun mv i wr => ∃ k : Nat, k ≤ n ∧ i = .int .i64 k ∧ MapsAt wr B mv k Hs Ps ∧ Below B w wr) (fun _ i _ => n - (intOf i).toNat)
  case atStart => exact ⟨0, Nat.zero_le _, rfl, hst, hbel0⟩
  case round =>
    clear hst hbel0
    obtain ⟨k, hk, rfl, hmaps, hbel⟩ := hrel
    by_cases hlt : k < n
    · have hcx : wr.cell? ⟨bh, oh + k, none⟩ = some (.int .u64 (Hs k)) := (hbel.cell (by rw [← hB]; exact hbh)).trans (hH k hlt)
      have hcp : wr.cell? ⟨bp, op + k, none⟩ = some (.int .i64 (Ps k)) := (hbel.cell (by rw [← hB]; exact hbp)).trans (hP k hlt)
      obtain ⟨⟨D1, hown, hfirst⟩, hmore⟩ := hmaps
      have hws : B ≤ wr.heap.size := by have := hbel.size; omega
      have hwk := hwH k hlt
      have hwp := hwP k hlt
      have hhas := hfirst.has _ hwk
      cases hocc : occ Hs Ps k (Hs k) with
      | nil =>
        rw [hocc] at hhas
        have HF : Hid (FirstOk D1 Hs Ps k) := hfirst
        have HM : Hid _ := hmore
        have HO : Hid (wr.ownsMap Try.prog 24 (plainElem Try.prog 2) B k D1) := hown
        have HBl : Hid (Below B w wr) := hbel
        have HOC : Hid (occ Hs Ps k (Hs k) = []) := hocc
        obtain ⟨x, hx⟩ : ∃ x, Hs k = x := ⟨_, rfl⟩
        obtain ⟨p, hp⟩ : ∃ p, Ps k = p := ⟨_, rfl⟩
        rw [hx] at hcx hwk hhas
        rw [hp] at hcp hwp
        have HX : Hid (Hs k = x) := hx
        have HP : Hid (Ps k = p) := hp
        simp only [List.isEmpty_nil, Bool.not_true] at hhas
        clear hfirst hmore hown hbel hocc hx hp hH hP hwH hwP
        go_wp2_with (first
          | (at_lookup; refine wpList_lookup_own_ok_int _ rfl _ _ 27 rfl 24 2 .i64 law Try.underlying27 Try.underlying2 (zero2 _) B k D1 rfl HO.out _ _ rfl (key_of hwk) ?_; intro c hat hwc)
          | (at_mapUpdate; refine wpList_mapUpdate_own _ rfl _ _ _ 27 rfl 24 2 law Try.underlying27 _ B k _ rfl HO.out (by unfold maxLen; omega) _ _ _ rfl rfl (key_of hwk) _ [] (plainElem_int Try.underlying2 hwp) ?_; intro w1 hown1 hgrow1)
          | go_in)
        go_roundw
        case rel => exact ⟨k + 1, by omega, by go_num, maps_new HF.out HO.out HM.out (by rw [HX.out]; exact hwk) HOC.out (by rw [HX.out, HP.out]; exact hown1) hgrow1, HBl.out.grown hgrow1 hws (fun j hj => by cases hj; exact Nat.le_refl _)⟩
        case measure => simp [intOf]; omega
      | cons p0 l0 =>
        rw [hocc] at hhas
        have HF : Hid (FirstOk D1 Hs Ps k) := hfirst
        have HO : Hid (wr.ownsMap Try.prog 24 (plainElem Try.prog 2) B k D1) := hown
        have HBl : Hid (Below B w wr) := hbel
        have HOC : Hid (occ Hs Ps k (Hs k) = p0 :: l0) := hocc
        have hll : l0.length ≤ k := by have := occ_le Hs Ps k (Hs k); rw [hocc] at this; simp at this; omega
        have hBw : B < wr.heap.size := hown.lt
        obtain ⟨x, hx⟩ : ∃ x, Hs k = x := ⟨_, rfl⟩
        obtain ⟨p, hp⟩ : ∃ p, Ps k = p := ⟨_, rfl⟩
        rw [hx] at hcx hwk hhas
        rw [hp] at hcp hwp
        have HX : Hid (Hs k = x) := hx
        have HP : Hid (Ps k = p) := hp
        simp only [List.isEmpty_cons, Bool.not_false] at hhas
        rw [hB] at hbp
        have hmn : ∀ w r, (binOp .eql 28 (.map r) (.map none)).run Try.prog w = .ok (.bool r.isNone) w := fun w r => run_eql_map_nil w 28 24 23 r Try.underlying28
        clear hfirst hown hbel hocc hx hp hH hP hwH hwP
        rcases hmore with ⟨rfl, hmo0⟩ | ⟨b2, D2, rfl, hb12, hg, hmo⟩
        · obtain ⟨D2, hD2⟩ : ∃ D2 : DataW Unit, DataW.map [] = D2 := ⟨_, rfl⟩
          have hmo : MoreOk D2 Hs Ps k := by rw [← hD2]; exact more_start Hs Ps k hmo0
          clear hmo0
          go_wp2_with (at_lookup; refine wpList_lookup_own_ok_int _ rfl _ _ 27 rfl 24 2 .i64 law Try.underlying27 Try.underlying2 (zero2 _) B k D1 rfl HO.out _ _ rfl (key_of hwk) ?_; intro c hat hwc)
          obtain ⟨b2, hb2⟩ : ∃ b2, wr.heap.size = b2 := ⟨_, rfl⟩
          obtain ⟨wm, hwm⟩ : ∃ wm, wr.alloc (.map #[] 0) = wm := ⟨_, rfl⟩
          have hb12 : B < b2 := by omega
          have hg : wm.ownsGroups Try.prog 24 (b2 + 1) 2 .i64 b2 k D2 := by rw [← hwm, ← hb2, ← hD2]; exact groups_mono (World.ownsGroups_made _ _ _ _ _) (Nat.zero_le _)
          have hcp' : wm.cell? ⟨bp, op + k, none⟩ = some (.int .i64 p) := by rw [← hwm, World.cell?_alloc_lt _ _ _ (World.block_lt_of_cell? _ _ hcp)]; exact hcp
          have HO' : Hid (wm.ownsMap Try.prog 24 (plainElem Try.prog 2) B k D1) := by rw [← hwm]; exact HO.out.alloc _
          have HBl' : Hid (Below B w wm) := by rw [← hwm]; exact HBl.out.alloc hws _
          have hws' : B ≤ wm.heap.size := by rw [← hwm]; simp; omega
          rw [hwm, hb2]
          clear hcp HO HBl hws hcx hBw hD2
          have hcp := hcp'
          have HO := HO'
          have HBl := HBl'
          have hws := hws'
          clear hcp' HO' HBl' hws' hwm hb2
          have hb2w : b2 < wm.heap.size := by obtain ⟨es, clock, hbk, _⟩ := hg; exact (Array.getElem?_eq_some_iff.1 hbk).1
          obtain ⟨v, zs, hrun, hat, hoi, hzl, hback⟩ := hg.at law Try.underlying28 (zero23 _) (by unfold maxLen; omega) (key_of hwk)
          obtain rfl : zs = l0 := tail_of hoi (by rw [← hat, hmo x hwk, ← HX.out, HOC.out]; rfl)
          have HIM : Hid (IsMap D2) := by obtain ⟨es, clock, _, _, _, rfl, _⟩ := hg; exact ⟨_, rfl⟩
          obtain ⟨es, clock, hbk, F, _⟩ := hg
          have heq1 : (Instr.lookup 28 (.map (some b2)) (.int .u64 x) false).run Try.prog wm.drew = .ok v wm.drew := look_same (w' := wm.drew) law Try.underlying28 zero23 hbk (by exact hbk) F (key_of hwk) false hrun
          have heq2 : ∀ o, (Instr.lookup 28 (.map (some b2)) (.int .u64 x) false).run Try.prog (wm.alloc o).drew = .ok v (wm.alloc o).drew := fun o => look_same (w' := (wm.alloc o).drew) law Try.underlying28 zero23 hbk (by exact (Below.heap_alloc wm o b2 hb2w).trans hbk) F (key_of hwk) false hrun
          have hrows : ∀ j, v.ownBlock = some j → b2 + 1 ≤ j := fun j hj => (hoi.1.lt j hj).1
          have av : v.ownBlock ≠ some bp := fun e => by have := hrows _ e; omega
          have hnp := World.new_ne wm _ hcp
          have lp := World.block_lt_of_cell? wm _ hcp
          have hzk : (0 : Int) ≤ (k : Int) := by omega
          have hzk2 : (k : Int) < (l2 : Int) := by omega
          have HOI : Hid (wm.ownsInts (b2 + 1) 2 .i64 v zs) := hoi
          have HBK : Hid (wm.groupBack Try.prog 28 24 (b2 + 1) 2 .i64 b2 k D2 (.int .u64 x) (.int .u64 x) v) := hback
          have HMO : Hid (MoreOk D2 Hs Ps k) := hmo
          have HRW : Hid (∀ j, v.ownBlock = some j → b2 + 1 ≤ j) := hrows
          have HES : Hid (wm.heap[b2]? = some (.map es clock)) := hbk
          clear hrun hat hoi hback hbk F hmo hrows
          go_region_held3 (fun w' => w'.cell? ⟨bp, op + k, none⟩ = some (.int .i64 p))
            (first | go_keep | (rw [hgrow.cell_far _ (by simp; omega) (Ne.symm av)]; assumption) | (rw [hgrow2.cell_far _ (by have hq := hgrow.size; simp at hq ⊢; omega) (by simp; omega)]; assumption))
            ((refine step_append_lies _ (by rfl) _ _ _ (by rfl) (b2 + 1) 2 i0 _ 1 8 Try.underlying23 hi hz0 hz1 hz2 rfl (by omega) v zs.length (zs.map (Value.int .i64)) (by rfl) ((HOI.out.1.alloc _).drew) ⟨wm.heap.size, 0, none⟩ 1 1 [.int .i64 p] (by rfl) (by rfl) (World.news_of_block (cs := #[.int .i64 p]) (t := 2) (fr := (0, 0)) (heap_alloc_new wm _)) (by simp [Value.oneCell']) (by omega) (by unfold maxLen; omega) (by omega) (by simp; omega) (wm.heap.size + 1) (by simp) ?_; intro g cap w1 hown1 hgrow hat1 hlt1; obtain ⟨w2, hrun2, hown2, hgrow2⟩ := HBK.out w1 (.slice (some ⟨g, 0, none⟩) (zs.length + 1) cap) (zs ++ [p]) ((World.grownBy_alloc wm _ _).trans (grown_of_drew hgrow)) (HOI.out.appended hown1 hwp) (by simp; omega) (hat1.imp (fun h => h.symm) (fun h => ⟨g, rfl, by omega⟩))))
          all_goals
            have hg1 := (World.grownBy_alloc wm _ _).trans (grown_of_drew hgrow)
            have HG1 : Hid _ := hg1
            have HA1 : Hid _ := HOI.out.appended hown1 hwp
            have hs1 := hg1.size
            have HW2 : Hid _ := hown2
            have HG2 : Hid _ := hgrow2
            clear hg1 hown1 hgrow hown2 hrun2 hat1 hlt1 heq1 heq2
            go_wp2
            go_roundw
            case rel => exact ⟨k + 1, by omega, by go_num, maps_old HF.out HO.out hb12 HMO.out HIM.out HX.out HP.out HOC.out HG1.out HRW.out HA1.out HW2.out HG2.out, (HBl.out.grown HG1.out hws (fun j hj => by have := HRW.out j hj; omega)).grown HG2.out (by omega) (fun j hj => by cases hj; omega)⟩
            case measure => simp [intOf]; omega
        · go_wp2_with (at_lookup; refine wpList_lookup_own_ok_int _ rfl _ _ 27 rfl 24 2 .i64 law Try.underlying27 Try.underlying2 (zero2 _) B k D1 rfl HO.out _ _ rfl (key_of hwk) ?_; intro c hat hwc)
          obtain ⟨wm, hwm⟩ : ∃ wm, wr = wm := ⟨_, rfl⟩
          rw [hwm] at hg hcp HO HBl hws ⊢
          clear hcx hBw hwm
          have hb2w : b2 < wm.heap.size := by obtain ⟨es, clock, hbk, _⟩ := hg; exact (Array.getElem?_eq_some_iff.1 hbk).1
          obtain ⟨v, zs, hrun, hat, hoi, hzl, hback⟩ := hg.at law Try.underlying28 (zero23 _) (by unfold maxLen; omega) (key_of hwk)
          obtain rfl : zs = l0 := tail_of hoi (by rw [← hat, hmo x hwk, ← HX.out, HOC.out]; rfl)
          have HIM : Hid (IsMap D2) := by obtain ⟨es, clock, _, _, _, rfl, _⟩ := hg; exact ⟨_, rfl⟩
          obtain ⟨es, clock, hbk, F, _⟩ := hg
          have heq1 : (Instr.lookup 28 (.map (some b2)) (.int .u64 x) false).run Try.prog wm.drew = .ok v wm.drew := look_same (w' := wm.drew) law Try.underlying28 zero23 hbk (by exact hbk) F (key_of hwk) false hrun
          have heq2 : ∀ o, (Instr.lookup 28 (.map (some b2)) (.int .u64 x) false).run Try.prog (wm.alloc o).drew = .ok v (wm.alloc o).drew := fun o => look_same (w' := (wm.alloc o).drew) law Try.underlying28 zero23 hbk (by exact (Below.heap_alloc wm o b2 hb2w).trans hbk) F (key_of hwk) false hrun
          have hrows : ∀ j, v.ownBlock = some j → b2 + 1 ≤ j := fun j hj => (hoi.1.lt j hj).1
          have av : v.ownBlock ≠ some bp := fun e => by have := hrows _ e; omega
          have hnp := World.new_ne wm _ hcp
          have lp := World.block_lt_of_cell? wm _ hcp
          have hzk : (0 : Int) ≤ (k : Int) := by omega
          have hzk2 : (k : Int) < (l2 : Int) := by omega
          have HOI : Hid (wm.ownsInts (b2 + 1) 2 .i64 v zs) := hoi
          have HBK : Hid (wm.groupBack Try.prog 28 24 (b2 + 1) 2 .i64 b2 k D2 (.int .u64 x) (.int .u64 x) v) := hback
          have HMO : Hid (MoreOk D2 Hs Ps k) := hmo
          have HRW : Hid (∀ j, v.ownBlock = some j → b2 + 1 ≤ j) := hrows
          have HES : Hid (wm.heap[b2]? = some (.map es clock)) := hbk
          clear hrun hat hoi hback hbk F hmo hrows
          go_region_held3 (fun w' => w'.cell? ⟨bp, op + k, none⟩ = some (.int .i64 p))
            (first | go_keep | (rw [hgrow.cell_far _ (by simp; omega) (Ne.symm av)]; assumption) | (rw [hgrow2.cell_far _ (by have hq := hgrow.size; simp at hq ⊢; omega) (by simp; omega)]; assumption))
            ((refine step_append_lies _ (by rfl) _ _ _ (by rfl) (b2 + 1) 2 i0 _ 1 8 Try.underlying23 hi hz0 hz1 hz2 rfl (by omega) v zs.length (zs.map (Value.int .i64)) (by rfl) ((HOI.out.1.alloc _).drew) ⟨wm.heap.size, 0, none⟩ 1 1 [.int .i64 p] (by rfl) (by rfl) (World.news_of_block (cs := #[.int .i64 p]) (t := 2) (fr := (0, 0)) (heap_alloc_new wm _)) (by simp [Value.oneCell']) (by omega) (by unfold maxLen; omega) (by omega) (by simp; omega) (wm.heap.size + 1) (by simp) ?_; intro g cap w1 hown1 hgrow hat1 hlt1; obtain ⟨w2, hrun2, hown2, hgrow2⟩ := HBK.out w1 (.slice (some ⟨g, 0, none⟩) (zs.length + 1) cap) (zs ++ [p]) ((World.grownBy_alloc wm _ _).trans (grown_of_drew hgrow)) (HOI.out.appended hown1 hwp) (by simp; omega) (hat1.imp (fun h => h.symm) (fun h => ⟨g, rfl, by omega⟩))))
          all_goals
            have hg1 := (World.grownBy_alloc wm _ _).trans (grown_of_drew hgrow)
            have HG1 : Hid _ := hg1
            have HA1 : Hid _ := HOI.out.appended hown1 hwp
            have hs1 := hg1.size
            have HW2 : Hid _ := hown2
            have HG2 : Hid _ := hgrow2
            clear hg1 hown1 hgrow hown2 hrun2 hat1 hlt1 heq1 heq2
            go_wp2
            go_roundw
            case rel => exact ⟨k + 1, by omega, by go_num, maps_old HF.out HO.out hb12 HMO.out HIM.out HX.out HP.out HOC.out HG1.out HRW.out HA1.out HW2.out HG2.out, (HBl.out.grown HG1.out hws (fun j hj => by have := HRW.out j hj; omega)).grown HG2.out (by omega) (fun j hj => by cases hj; omega)⟩
            case measure => simp [intOf]; omega
    · have hkn : n = k := by omega
      subst hkn
      have HM : Hid _ := hmaps
      have HBl : Hid _ := hbel
      clear hmaps hbel hlt
      go_wp2
      go_ret2
      exact ⟨B, _, rfl, by omega, HM.out, by rw [hB]; exact HBl.out⟩
end Go.Proofs.Qxb6609572a.Index
