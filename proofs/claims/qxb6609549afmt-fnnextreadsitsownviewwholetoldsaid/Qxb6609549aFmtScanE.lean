/- zzScanValue (6): the walk. -/
import Derived.Test.Qxb6609549aFmtScanD
namespace Go.Proofs.Qxb6609549aFmt.Dec
open Go.RowKit Go.ChangeShapes Go.WideShapes

/-- What zzScanValue answers. -/
def ScanAns (bs : Nat → Int) (u : Bool) (n pos depth values : Nat) (e : Ending) : Prop :=
  e = .returned (.tuple #[.int .i64 0, .int .i64 0, .bool false]) ∨ ∃ q c h : Nat, Va bs u pos q c h ∧ q ≤ n ∧ depth + h ≤ 512 ∧ values + c ≤ 2097152 ∧ e = .returned (.tuple #[.int .i64 q, .int .i64 c, .bool true])

theorem Stack.form {w : World} {base : Nat} {sv : Value} {L : List Fr} (h : Stack w base sv L) : ∃ a cap, sv = .slice a L.length cap := by
  rcases h.2 with ⟨rfl, h0⟩ | ⟨g, cap, cur, rfl, _⟩
  · exact ⟨none, 0, by rw [h0]⟩
  · exact ⟨_, cap, rfl⟩
/-- The top frame written anew. -/
def World.put5 (w : World) (g t : Nat) (f : Fr) : World := ((((w.setCell ⟨g, t * 5, none⟩ (.bool f.dict)).setCell ⟨g, t * 5 + 1, none⟩ (.bool f.want)).setCell ⟨g, t * 5 + 2, none⟩ (.bool f.has)).setCell ⟨g, t * 5 + 3, none⟩ (.int .i64 f.at_)).setCell ⟨g, t * 5 + 4, none⟩ (.int .i64 f.end_)
theorem set_at (A : List Value) (n j : Nat) (a b c d e x : Value) (h : A.length = n) (hj : j < 5) : (A ++ [a, b, c, d, e]).set (n + j) x = A ++ [a, b, c, d, e].set j x := by
  rw [← h, List.set_append_right _ _ (by omega), Nat.add_sub_cancel_left]
theorem Stack.put {w : World} {base g cap t : Nat} {I : List Fr} {f : Fr} (h : Stack w base (.slice (some ⟨g, 0, none⟩) (t + 1) cap) (I ++ [f])) (ht : I.length = t) (f' : Fr) :
    Stack (World.put5 w g t f') base (.slice (some ⟨g, 0, none⟩) (t + 1) cap) (I ++ [f']) ∧ w.grownBy (World.put5 w g t f') (some g) := by
  subst ht
  unfold Stack at h ⊢
  rw [flat_snoc, List.length_append, List.length_singleton] at h ⊢
  have hl := flat_length I
  obtain ⟨h1, g1⟩ := h.stored (I.length * 5) (.bool f'.dict)
  obtain ⟨h2, g2⟩ := h1.stored (I.length * 5 + 1) (.bool f'.want)
  obtain ⟨h3, g3⟩ := h2.stored (I.length * 5 + 2) (.bool f'.has)
  obtain ⟨h4, g4⟩ := h3.stored (I.length * 5 + 3) (.int .i64 f'.at_)
  obtain ⟨h5, g5⟩ := h4.stored (I.length * 5 + 4) (.int .i64 f'.end_)
  refine ⟨?_, (((g1.trans g2).trans g3).trans g4).trans g5⟩
  have e0 : (flat I ++ f.cells).set (I.length * 5) (.bool f'.dict) = flat I ++ f.cells.set 0 (.bool f'.dict) := by
    have := set_at (flat I) (I.length * 5) 0 (.bool f.dict) (.bool f.want) (.bool f.has) (.int .i64 f.at_) (.int .i64 f.end_) (.bool f'.dict) hl (by omega)
    exact this
  rw [e0] at h5
  simp only [Fr.cells, List.set_cons_zero] at h5 ⊢
  rw [set_at _ _ 1 _ _ _ _ _ _ hl (by omega)] at h5
  simp only [List.set_cons_succ, List.set_cons_zero] at h5
  rw [set_at _ _ 2 _ _ _ _ _ _ hl (by omega)] at h5
  simp only [List.set_cons_succ, List.set_cons_zero] at h5
  rw [set_at _ _ 3 _ _ _ _ _ _ hl (by omega)] at h5
  simp only [List.set_cons_succ, List.set_cons_zero] at h5
  rw [set_at _ _ 4 _ _ _ _ _ _ hl (by omega)] at h5
  exact h5
/-- Does the container at the top close at p? -/
def Shuts (bs : Nat → Int) (n p : Nat) (L : List Fr) : Prop := ∃ I f, L = I ++ [f] ∧ p < n ∧ bs p = 101 ∧ (f.dict = false ∨ f.want = true)
/-- Is a key wanted? -/
def Wants (L : List Fr) : Prop := ∃ I f, L = I ++ [f] ∧ f.dict = true ∧ f.want = true
theorem snoc_inj {I J : List Fr} {f g : Fr} (h : I ++ [f] = J ++ [g]) : I = J ∧ f = g := by
  have := List.append_inj' h rfl
  exact ⟨this.1, by simpa using this.2⟩

theorem ready_of {L : List Fr} (h : ¬ Wants L) : Ready L.reverse := by
  rcases List.eq_nil_or_concat L with hL | ⟨I, f, hL⟩
  · subst hL; trivial
  · rw [List.concat_eq_append] at hL
    subst hL
    rw [List.reverse_append]
    intro hd
    cases hw : f.want
    · rfl
    · exact absurd ⟨I, f, rfl, hd, hw⟩ h
theorem drawn_below {w w' : World} (h : Below w.heap.size w w') (nq : Nat) : Below w.heap.size w (w'.drewN nq) := h.grown (grown_drewN _ _ none) h.size (fun j hj => by cases hj)

/-- What holds at the head of each round. -/
structure Head (w wx : World) (bs : Nat → Int) (u : Bool) (n pos depth values : Nat) (sv : Value) (L : List Fr) (p c : Nat) : Prop where
  row : Stack wx w.heap.size sv L
  stk : Stk bs u depth pos L.reverse p c
  le : p ≤ n
  cnt : values + c ≤ 2097152
  ht : depth + L.length ≤ 512
  bel : Below w.heap.size w wx

/-- What holds behind the great if. -/
structure Mid (w wx : World) (bs : Nat → Int) (u : Bool) (n pos depth values : Nat) (sv : Value) (L : List Fr) (p c : Nat) (dn : Bool) : Prop where
  row : Stack wx w.heap.size sv L
  no : dn = false → Stk bs u depth pos L.reverse p c
  yes : dn = true → ∃ s c1 cv h, Ready L.reverse ∧ Stk bs u depth pos L.reverse s c1 ∧ Va bs u s p cv h ∧ c = c1 + cv ∧ depth + L.length + h ≤ 512
  le : p ≤ n
  cnt : values + c ≤ 2097152
  ht : depth + L.length ≤ 512
  bel : Below w.heap.size w wx

set_option maxHeartbeats 60000000 in
set_option maxRecDepth 100000 in
theorem scan_any (D n pos depth values : Nat) (bs : Nat → Int) (u : Bool) (w : World) (hdat : ∀ i, i < n → w.cell? ⟨D, i, none⟩ = some (.int .u8 (bs i))) (hby : ∀ i, i < n → 0 ≤ bs i ∧ bs i ≤ 255) (hnb : n ≤ 1048576) (hp : pos ≤ n) (hd : depth ≤ 512) (hv : values ≤ 2097152) (hD : 0 < n → D < w.heap.size) :
    Calls Tryf.prog 6 #[.slice (some ⟨D, 0, none⟩) n n, .int .i64 pos, .int .i64 depth, .int .i64 values, .bool u] w fun e w' => ScanAns bs u n pos depth values e ∧ Below w.heap.size w w' := by
  have HDAT : Hid (∀ i, i < n → w.cell? ⟨D, i, none⟩ = some (.int .u8 (bs i))) := hdat
  have HBY : Hid (∀ i, i < n → 0 ≤ bs i ∧ bs i ≤ 255) := hby
  have HDD : Hid (0 < n → D < w.heap.size) := hD
  clear hdat hby hD
  go_enter Tryf.func6, Tryf.ntmps6
  go_wp2_with fail
  go_loopw [13, 14, 15, 16] (fun sv p c st wx => ∃ (L : List Fr) (p' c' k : Nat), k ≤ n + 1 ∧ st = .int .i64 k ∧ p = .int .i64 p' ∧ c = .int .i64 c' ∧ Hid (Head w wx bs u n pos depth values sv L p' c')) (fun _ _ _ st _ => n + 1 - (intOf st).toNat)
  case atStart => exact ⟨[], pos, 0, 0, Nat.zero_le _, rfl, rfl, rfl, ⟨World.ownsRow_nil _ _ _ _, ⟨rfl, rfl⟩, hp, by omega, by simpa using hd, Below.refl _ _⟩⟩
  case round =>
    obtain ⟨L, p, c, k, hk, rfl, rfl, rfl, HH⟩ := hrel
    have hpn : p ≤ n := HH.out.le
    have hcb : values + c ≤ 2097152 := HH.out.cnt
    by_cases hkn : k = n + 1
    · subst hkn
      have hki : (n : Int) < ((n + 1 : Nat) : Int) := by omega
      go_wp2
      go_ret3
      exact ⟨.inl rfl, HH.out.bel⟩
    · have hki : (k : Int) ≤ (n : Int) := by omega
      have hll : L.length ≤ 512 := by have := HH.out.ht; omega
      clear hkn
      obtain ⟨a, cap, rfl⟩ := HH.out.row.form
      obtain ⟨m, hm⟩ : ∃ m, L.length = m := ⟨_, rfl⟩
      have HM : Hid (L.length = m) := hm
      rw [hm] at hll HH ⊢
      clear hm
      go_upto_region 9 with fail
      go_cut [70] (fun b wx => wr = wx ∧ ∃ bb : Bool, b = .bool bb ∧ Hid (bb = true ↔ Shuts bs n p L))
      case first =>
        as_aux_lemma =>
          rcases List.eq_nil_or_concat L with hL | ⟨I, f, hL⟩
          · have hm0 : m = 0 := by rw [← HM.out, hL]; rfl
            subst hm0
            go_wp2_with fail
            go_meet
            exact ⟨rfl, false, by simp, ⟨fun h => by (cases h), fun ⟨I, f, h, _⟩ => by rw [hL] at h; simp at h⟩⟩
          · rw [List.concat_eq_append] at hL
            have hrow : Stack wr w.heap.size (.slice a m cap) (I ++ [f]) := by rw [← hL]; exact HH.out.row
            obtain ⟨g, cap', esv, hgb, hgl, hcp, hlc, hcells, hfz⟩ := hrow.top
            simp only [Value.slice.injEq] at esv
            obtain ⟨rfl, hmt, rfl⟩ := esv
            obtain ⟨t, ht⟩ : ∃ t, I.length = t := ⟨_, rfl⟩
            rw [ht] at hmt hcells
            subst hmt
            have cd : wr.cell? ⟨g, t * 5, none⟩ = some (.bool f.dict) := by simpa using hcells 0 (.bool f.dict) rfl
            have cw : wr.cell? ⟨g, t * 5 + 1, none⟩ = some (.bool f.want) := hcells 1 (.bool f.want) rfl
            have hz0 : (0 : Int) ≤ (t : Int) := by omega
            have hz1 : (t : Int) < ((t + 1 : Nat) : Int) := by omega
            clear hrow hcells hfz
            by_cases hpe : p = n
            · subst hpe
              go_wp2_with fail
              go_meet
              exact ⟨rfl, false, by simp, ⟨fun h => by (cases h), fun ⟨_, _, _, h, _⟩ => absurd h (Nat.lt_irrefl _)⟩⟩
            · have hpl : p < n := by omega
              have hcx : wr.cell? ⟨D, p, none⟩ = some (.int .u8 (bs p)) := (HH.out.bel.cell (HDD.out (by omega))).trans (HDAT.out p hpl)
              obtain ⟨x, hx⟩ : ∃ x, bs p = x := ⟨_, rfl⟩
              have HX : Hid (bs p = x) := hx
              rw [hx] at hcx
              have hy0 : (0 : Int) ≤ (p : Int) := by omega
              have hy1 : (p : Int) < (n : Int) := by omega
              clear hx hpe
              by_cases hxe : x = 101
              · have hxb : (x == 101) = true := by simp [hxe]
                obtain ⟨fd, hfd⟩ : ∃ fd, f.dict = fd := ⟨_, rfl⟩
                obtain ⟨fw, hfw⟩ : ∃ fw, f.want = fw := ⟨_, rfl⟩
                rw [hfd] at cd
                rw [hfw] at cw
                have HE : Hid (x = 101) := hxe
                have HFD : Hid (f.dict = fd) := hfd
                have HFW : Hid (f.want = fw) := hfw
                have HLL : Hid (L = I ++ [f]) := hL
                clear hxe hfd hfw hL
                cases fd <;> cases fw
                all_goals
                  go_wp2_with fail
                  go_meet
                · exact ⟨rfl, true, by simp, ⟨fun _ => ⟨I, f, HLL.out, hpl, HX.out.trans HE.out, .inl HFD.out⟩, fun _ => rfl⟩⟩
                · exact ⟨rfl, true, by simp, ⟨fun _ => ⟨I, f, HLL.out, hpl, HX.out.trans HE.out, .inl HFD.out⟩, fun _ => rfl⟩⟩
                · refine ⟨rfl, false, by simp, ⟨fun h => by (cases h), fun ⟨J, f', h1, _, _, h2⟩ => ?_⟩⟩
                  obtain ⟨_, rfl⟩ := snoc_inj (HLL.out.symm.trans h1)
                  rcases h2 with h2 | h2
                  · rw [HFD.out] at h2; cases h2
                  · rw [HFW.out] at h2; cases h2
                · exact ⟨rfl, true, by simp, ⟨fun _ => ⟨I, f, HLL.out, hpl, HX.out.trans HE.out, .inr HFW.out⟩, fun _ => rfl⟩⟩
              · have hxb : (x == 101) = false := by simp [hxe]
                go_wp2_with fail
                go_meet
                exact ⟨rfl, false, by simp, ⟨fun h => by (cases h), fun ⟨_, _, _, _, h, _⟩ => absurd (HX.out.symm.trans h) hxe⟩⟩
      case rest =>
        obtain ⟨rfl, bb, rfl, HSH⟩ := hcut
        go_upto_if 70 with fail
        go_cut [13, 14, 15, 17, 18] (fun sv' p' c' dn _ wx => ∃ (L' : List Fr) (q c2 : Nat) (b : Bool), p' = .int .i64 q ∧ c' = .int .i64 c2 ∧ dn = .bool b ∧ Hid (Mid w wx bs u n pos depth values sv' L' q c2 b))
        case first =>
          cases bb
          · have HNS : Hid (¬ Shuts bs n p L) := fun h => by have := HSH.out.2 h; cases this
            clear HSH
            go_upto_region 13 with fail
            go_cut [91] (fun b wx => wr = wx ∧ ∃ b2 : Bool, b = .bool b2 ∧ Hid (b2 = true ↔ Wants L))
            case first =>
              as_aux_lemma =>
                rcases List.eq_nil_or_concat L with hL | ⟨I, f, hL⟩
                · have hm0 : m = 0 := by rw [← HM.out, hL]; rfl
                  subst hm0
                  go_wp2_with fail
                  go_meet
                  exact ⟨rfl, false, by simp, ⟨fun h => by (cases h), fun ⟨I, f, h, _⟩ => by rw [hL] at h; simp at h⟩⟩
                · rw [List.concat_eq_append] at hL
                  have hrow : Stack wr w.heap.size (.slice a m cap) (I ++ [f]) := by rw [← hL]; exact HH.out.row
                  obtain ⟨g, cap', esv, hgb, hgl, hcp, hlc, hcells, hfz⟩ := hrow.top
                  simp only [Value.slice.injEq] at esv
                  obtain ⟨rfl, hmt, rfl⟩ := esv
                  obtain ⟨t, ht⟩ : ∃ t, I.length = t := ⟨_, rfl⟩
                  rw [ht] at hmt hcells
                  subst hmt
                  have cd : wr.cell? ⟨g, t * 5, none⟩ = some (.bool f.dict) := by simpa using hcells 0 (.bool f.dict) rfl
                  have cw : wr.cell? ⟨g, t * 5 + 1, none⟩ = some (.bool f.want) := hcells 1 (.bool f.want) rfl
                  have hz0 : (0 : Int) ≤ (t : Int) := by omega
                  have hz1 : (t : Int) < ((t + 1 : Nat) : Int) := by omega
                  clear hrow hcells hfz
                  obtain ⟨fd, hfd⟩ : ∃ fd, f.dict = fd := ⟨_, rfl⟩
                  obtain ⟨fw, hfw⟩ : ∃ fw, f.want = fw := ⟨_, rfl⟩
                  rw [hfd] at cd
                  rw [hfw] at cw
                  have HFD : Hid (f.dict = fd) := hfd
                  have HFW : Hid (f.want = fw) := hfw
                  have HLL : Hid (L = I ++ [f]) := hL
                  clear hfd hfw hL
                  cases fd
                  · go_wp2_with fail
                    go_meet
                    refine ⟨rfl, false, by simp, ⟨fun h => by (cases h), fun ⟨J, f', h1, h2, _⟩ => ?_⟩⟩
                    obtain ⟨_, rfl⟩ := snoc_inj (HLL.out.symm.trans h1)
                    rw [HFD.out] at h2; cases h2
                  · cases fw
                    · go_wp2_with fail
                      go_meet
                      refine ⟨rfl, false, by simp, ⟨fun h => by (cases h), fun ⟨J, f', h1, _, h2⟩ => ?_⟩⟩
                      obtain ⟨_, rfl⟩ := snoc_inj (HLL.out.symm.trans h1)
                      rw [HFW.out] at h2; cases h2
                    · go_wp2_with fail
                      go_meet
                      exact ⟨rfl, true, by simp, ⟨fun _ => ⟨I, f, HLL.out, HFD.out, HFW.out⟩, fun _ => rfl⟩⟩
            case rest =>
              obtain ⟨rfl, b2, rfl, HW⟩ := hcut
              cases b2
              · have HRD : Hid (Ready L.reverse) := ready_of (fun h => by have := HW.out.2 h; cases this)
                clear HW HNS
                by_cases hpe : p = n
                · subst hpe
                  as_aux_lemma =>
                    go_wp2
                    go_ret3
                    exact ⟨.inl rfl, HH.out.bel⟩
                · have hpl : p < n := by omega
                  have HDW : Hid (∀ i, i < n → wr.cell? ⟨D, i, none⟩ = some (.int .u8 (bs i))) := fun i hi => (HH.out.bel.cell (HDD.out (by omega))).trans (HDAT.out i hi)
                  have hcx := HDW.out p hpl
                  obtain ⟨x, hx⟩ : ∃ x, bs p = x := ⟨_, rfl⟩
                  have HX : Hid (bs p = x) := hx
                  rw [hx] at hcx
                  have hy0 : (0 : Int) ≤ (p : Int) := by omega
                  have hy1 : (p : Int) < (n : Int) := by omega
                  clear hx hpe
                  by_cases hvc : values + c = 2097152
                  · have hvi : (2097152 : Int) ≤ (values : Int) + (c : Int) := by omega
                    as_aux_lemma =>
                      go_wp2
                      go_ret3
                      exact ⟨.inl rfl, HH.out.bel⟩
                  · have hvi : decide ((2097152 : Int) ≤ (values : Int) + (c : Int)) = false := by simp; omega
                    have HCL : Hid (values + (c + 1) ≤ 2097152) := by show values + (c + 1) ≤ 2097152; omega
                    by_cases hxi : x = 105
                    · have hxb : (x == 105) = true := by simp [hxi]
                      have HINT : Hid _ := intAt_any D n p bs wr HDW.out hnb hpl (HX.out.trans hxi)
                      clear hxi hvc
                      as_aux_lemma =>
                        go_wp2_with fail
                        refine Calls.mono HINT.out ?_
                        rintro e w' ⟨hans, rfl⟩
                        rcases hans with rfl | ⟨q, hint, hqn, rfl⟩
                        · go_wp2
                          go_ret3
                          exact ⟨.inl rfl, HH.out.bel⟩
                        · have HMID : Hid (Mid w wr bs u n pos depth values (.slice a m cap) L q (c + 1) true) :=
                            ⟨HH.out.row, fun h => by (cases h), fun _ => ⟨p, c, 1, 0, HRD.out, HH.out.stk, ⟨1, .inl ⟨hint, rfl, rfl⟩⟩, rfl, HH.out.ht⟩, hqn, HCL.out, HH.out.ht, HH.out.bel⟩
                          clear hint
                          go_wp2_with fail
                          go_meet
                          exact ⟨L, q, c + 1, true, rfl, by go_num, rfl, HMID.out⟩
                    · have hxb : (x == 105) = false := by simp [hxi]
                      clear hxi hvc
                      by_cases hxl : x = 108 ∨ x = 100
                      · obtain ⟨dd, h108, h100, hdx⟩ : ∃ dd : Bool, (x == 108) = !dd ∧ (x == 100) = dd ∧ x = if dd then 100 else 108 := by
                          rcases hxl with rfl | rfl
                          · exact ⟨false, rfl, rfl, rfl⟩
                          · exact ⟨true, rfl, rfl, rfl⟩
                        have HDX : Hid (bs p = if dd then 100 else 108) := HX.out.trans hdx
                        clear hdx hxl
                        by_cases hdp : depth + m < 512
                        · have hdi : decide ((512 : Int) ≤ (depth : Int) + (m : Int)) = false := by simp; omega
                          obtain ⟨i0, hi, hz0, hz1, hz2⟩ := info_parts info40
                          have HROW : Hid (wr.ownsRow w.heap.size 40 5 (.slice a m cap) m (flat L)) := by have h := HH.out.row; unfold Stack at h; rw [HM.out] at h; exact h
                          have HDP : Hid (depth + m < 512) := hdp
                          clear hdp
                          cases dd
                          · have h108' : (x == 108) = true := h108
                            clear h108
                            go_wp2_with (at_builtin; refine wpList_append_lies _ (by rfl) _ _ 38 (by rfl) w.heap.size 40 i0 (.agg #[.bool false, .bool false, .bool false, .int .i64 0, .int .i64 0]) 5 24 Tryf.underlying38 hi hz0 hz1 hz2 rfl (by decide) (.slice a m cap) m (flat L) (by rfl) (HROW.out.alloc _) ⟨wr.heap.size, 0, none⟩ 1 1 (Fr.cells ⟨false, true, false, 0, 0⟩) (by rfl) (by rfl) (World.news_of_block (cs := #[.bool false, .bool true, .bool false, .int .i64 0, .int .i64 0]) (t := 40) (fr := (0, 0)) (heap_alloc_new wr _)) (by simp [Fr.cells, Value.oneCell']) (by omega) (by unfold maxLen; omega) (by omega) (by simp; have := HH.out.bel.size; omega) (wr.heap.size + 1) (by simp) ?_)
                            intro g cap2 w1 hown hgrow hat hlt
                            have HMID : Hid (Mid w w1 bs u n pos depth values (.slice (some ⟨g, 0, none⟩) (m + 1) cap2) (L ++ [⟨false, true, false, 0, 0⟩]) (p + 1) (c + 1) false) := by
                              refine ⟨?_, fun _ => ?_, fun h => by (cases h), hpl, HCL.out, ?_, (Below.alloc HH.out.bel HH.out.bel.size _).grown hgrow (by simp; have := HH.out.bel.size; omega) (fun k hk => (HROW.out.lt k hk).1)⟩
                              · unfold Stack
                                rw [flat_snoc, List.length_append, HM.out]
                                exact hown
                              · rw [List.reverse_append]
                                exact Stk.push HH.out.stk HRD.out false HDX.out (by rw [List.length_reverse, HM.out]; exact HDP.out)
                              · rw [List.length_append, HM.out]
                                have := HDP.out
                                simp
                                omega
                            clear hown hgrow hat hlt
                            as_aux_lemma =>
                              go_wp2_with fail
                              go_meet
                              exact ⟨_, p + 1, c + 1, false, by go_num, by go_num, rfl, HMID.out⟩
                          · have h108' : (x == 108) = false := h108
                            clear h108
                            go_wp2_with (at_builtin; refine wpList_append_lies _ (by rfl) _ _ 38 (by rfl) w.heap.size 40 i0 (.agg #[.bool false, .bool false, .bool false, .int .i64 0, .int .i64 0]) 5 24 Tryf.underlying38 hi hz0 hz1 hz2 rfl (by decide) (.slice a m cap) m (flat L) (by rfl) (HROW.out.alloc _) ⟨wr.heap.size, 0, none⟩ 1 1 (Fr.cells ⟨true, true, false, 0, 0⟩) (by rfl) (by rfl) (World.news_of_block (cs := #[.bool true, .bool true, .bool false, .int .i64 0, .int .i64 0]) (t := 40) (fr := (0, 0)) (heap_alloc_new wr _)) (by simp [Fr.cells, Value.oneCell']) (by omega) (by unfold maxLen; omega) (by omega) (by simp; have := HH.out.bel.size; omega) (wr.heap.size + 1) (by simp) ?_)
                            intro g cap2 w1 hown hgrow hat hlt
                            have HMID : Hid (Mid w w1 bs u n pos depth values (.slice (some ⟨g, 0, none⟩) (m + 1) cap2) (L ++ [⟨true, true, false, 0, 0⟩]) (p + 1) (c + 1) false) := by
                              refine ⟨?_, fun _ => ?_, fun h => by (cases h), hpl, HCL.out, ?_, (Below.alloc HH.out.bel HH.out.bel.size _).grown hgrow (by simp; have := HH.out.bel.size; omega) (fun k hk => (HROW.out.lt k hk).1)⟩
                              · unfold Stack
                                rw [flat_snoc, List.length_append, HM.out]
                                exact hown
                              · rw [List.reverse_append]
                                exact Stk.push HH.out.stk HRD.out true HDX.out (by rw [List.length_reverse, HM.out]; exact HDP.out)
                              · rw [List.length_append, HM.out]
                                have := HDP.out
                                simp
                                omega
                            clear hown hgrow hat hlt
                            as_aux_lemma =>
                              go_wp2_with fail
                              go_meet
                              exact ⟨_, p + 1, c + 1, false, by go_num, by go_num, rfl, HMID.out⟩
                        · have hdi : (512 : Int) ≤ (depth : Int) + (m : Int) := by omega
                          clear hdp
                          as_aux_lemma =>
                            cases dd
                            · have h108' : (x == 108) = true := h108
                              clear h108
                              go_wp2
                              go_ret3
                              exact ⟨.inl rfl, HH.out.bel⟩
                            · have h108' : (x == 108) = false := h108
                              clear h108
                              go_wp2
                              go_ret3
                              exact ⟨.inl rfl, HH.out.bel⟩
                      · have h108 : (x == 108) = false := by simp; omega
                        have h100 : (x == 100) = false := by simp; omega
                        clear hxl
                        by_cases hx0 : x < 48
                        · as_aux_lemma =>
                            go_wp2
                            go_ret3
                            exact ⟨.inl rfl, HH.out.bel⟩
                        · have hx0' : 48 ≤ x := by omega
                          clear hx0
                          by_cases hx1 : 57 < x
                          · as_aux_lemma =>
                              go_wp2
                              go_ret3
                              exact ⟨.inl rfl, HH.out.bel⟩
                          · have hx1' : x ≤ 57 := by omega
                            clear hx1
                            have HSTR : Hid _ := stringAt_any D n p bs wr HDW.out hnb hpn
                            as_aux_lemma =>
                              go_wp2_with fail
                              refine Calls.mono HSTR.out ?_
                              rintro e w' ⟨hans, rfl⟩
                              rcases hans with rfl | ⟨ks, mm, q, hstr, hqn, rfl⟩
                              · go_wp2
                                go_ret3
                                exact ⟨.inl rfl, HH.out.bel⟩
                              · have HMID : Hid (Mid w wr bs u n pos depth values (.slice a m cap) L q (c + 1) true) :=
                                  ⟨HH.out.row, fun h => by (cases h), fun _ => ⟨p, c, 1, 0, HRD.out, HH.out.stk, ⟨1, .inr (.inl ⟨_, _, hstr, rfl, rfl⟩)⟩, rfl, HH.out.ht⟩, hqn, HCL.out, HH.out.ht, HH.out.bel⟩
                                clear hstr
                                go_wp2_with fail
                                go_meet
                                exact ⟨L, q, c + 1, true, rfl, by go_num, rfl, HMID.out⟩
              · obtain ⟨I, f, hL, hfd, hfw⟩ := HW.out.1 rfl
                clear HW HNS
                have hrow : Stack wr w.heap.size (.slice a m cap) (I ++ [f]) := by rw [← hL]; exact HH.out.row
                obtain ⟨g, cap', esv, hgb, hgl, hcp, hlc, hcells, hfz⟩ := hrow.top
                simp only [Value.slice.injEq] at esv
                obtain ⟨rfl, hmt, rfl⟩ := esv
                obtain ⟨t, ht⟩ : ∃ t, I.length = t := ⟨_, rfl⟩
                rw [ht] at hmt hcells hlc
                have HT : Hid (I.length = t) := ht
                subst hmt
                have HSTK : Hid (Stk bs u depth pos (f :: I.reverse) p c) := by have h := HH.out.stk; rw [hL, List.reverse_append] at h; exact h
                have HROW : Hid (Stack wr w.heap.size (.slice (some ⟨g, 0, none⟩) (t + 1) cap) (I ++ [f])) := hrow
                have HHT : Hid (depth + (I.length + 1) ≤ 512) := by show depth + (I.length + 1) ≤ 512; have h := HH.out.ht; rw [hL] at h; simpa using h
                have HFD : Hid (f.dict = true) := hfd
                have HFW : Hid (f.want = true) := hfw
                have cd : wr.cell? ⟨g, t * 5, none⟩ = some (.bool true) := by rw [← hfd]; simpa using hcells 0 (.bool f.dict) rfl
                have cw : wr.cell? ⟨g, t * 5 + 1, none⟩ = some (.bool true) := by rw [← hfw]; exact hcells 1 (.bool f.want) rfl
                have ch : wr.cell? ⟨g, t * 5 + 2, none⟩ = some (.bool f.has) := hcells 2 (.bool f.has) rfl
                have ca : wr.cell? ⟨g, t * 5 + 3, none⟩ = some (.int .i64 f.at_) := hcells 3 (.int .i64 f.at_) rfl
                have cb : wr.cell? ⟨g, t * 5 + 4, none⟩ = some (.int .i64 f.end_) := hcells 4 (.int .i64 f.end_) rfl
                have f0 := hfz (t * 5)
                have f1 := hfz (t * 5 + 1)
                have f2 := hfz (t * 5 + 2)
                have f3 := hfz (t * 5 + 3)
                have f4 := hfz (t * 5 + 4)
                have hz0 : (0 : Int) ≤ (t : Int) := by omega
                have hz1 : (t : Int) < ((t + 1 : Nat) : Int) := by omega
                clear hrow hcells hfz ht hL hfd hfw
                by_cases hpe : p = n
                · subst hpe
                  as_aux_lemma =>
                    go_wp2
                    go_ret3
                    exact ⟨.inl rfl, HH.out.bel⟩
                · have hpl : p < n := by omega
                  have HDW : Hid (∀ i, i < n → wr.cell? ⟨D, i, none⟩ = some (.int .u8 (bs i))) := fun i hi => (HH.out.bel.cell (HDD.out (by omega))).trans (HDAT.out i hi)
                  have hcx := HDW.out p hpl
                  obtain ⟨x, hx⟩ : ∃ x, bs p = x := ⟨_, rfl⟩
                  rw [hx] at hcx
                  have hy0 : (0 : Int) ≤ (p : Int) := by omega
                  have hy1 : (p : Int) < (n : Int) := by omega
                  clear hx hpe
                  by_cases hx0 : x < 48
                  · as_aux_lemma =>
                      go_wp2
                      go_ret3
                      exact ⟨.inl rfl, HH.out.bel⟩
                  · have hx0' : 48 ≤ x := by omega
                    clear hx0
                    by_cases hx1 : 57 < x
                    · as_aux_lemma =>
                        go_wp2
                        go_ret3
                        exact ⟨.inl rfl, HH.out.bel⟩
                    · have hx1' : x ≤ 57 := by omega
                      clear hx1
                      have HSTR : Hid _ := stringAt_any D n p bs wr HDW.out hnb hpn
                      as_aux_lemma =>
                        go_wp2_with fail
                        refine Calls.mono HSTR.out ?_
                        rintro e w' ⟨hans, rfl⟩
                        rcases hans with rfl | ⟨kk, mm, q, hstr, hqn, rfl⟩
                        · go_wp2
                          go_ret3
                          exact ⟨.inl rfl, HH.out.bel⟩
                        · have hqe := hstr.stop
                          obtain ⟨ks, hks⟩ : ∃ ks, p + kk + 1 = ks := ⟨_, rfl⟩
                          have HKS : Hid (p + kk + 1 = ks ∧ ks + mm = q) := ⟨hks, by omega⟩
                          have HSTA : Hid (StrAt bs p kk mm q) := hstr
                          rw [hks]
                          clear hstr hqe hks HSTR
                          go_upto_region 19 with fail
                          go_cut [144] (fun b wx => Hid (∃ nq, wx = wr.drewN nq) ∧ ∃ bb : Bool, b = .bool bb ∧ Hid (bb = false → u = false → f.has = true → ∀ l : Nat × Nat, f.at_ = (l.1 : Nat) → f.end_ = (l.1 + l.2 : Nat) → 0 < ord (seg bs ks mm) (seg bs l.1 l.2)))
                          case first =>
                            as_aux_lemma =>
                              have ch' : wr.cell? ⟨g, t * 5 + 2, none⟩ = some (.bool f.has) := ch
                              cases u
                              · cases hh : f.has
                                · rw [hh] at ch
                                  go_quiet (fail)
                                  go_wp2_with fail
                                  go_meet
                                  exact ⟨⟨nq, rfl⟩, false, by simp, fun _ _ h => by rw [hh] at h; cases h⟩
                                · rw [hh] at ch
                                  obtain ⟨la, lm, hla, hlm, hlp⟩ := Stk.last HSTK.out HFD.out HFW.out hh
                                  rw [hla] at ca
                                  rw [hlm] at cb
                                  have HSP : Hid (∀ k, Calls Tryf.prog 14 #[.slice (some ⟨D, 0, none⟩) n n, .int .i64 ks, .int .i64 q, .int .i64 la, .int .i64 (la + lm : Nat)] (wr.drewN k) fun e w' => e = .returned (.int .i64 (ord (seg bs ks mm) (seg bs la lm))) ∧ w' = wr.drewN k) := fun k => by
                                    have := spans_any D n ks mm la lm bs (wr.drewN k) (fun i hi => by rw [World.cell?_drewN]; exact HDW.out i hi) HBY.out hnb (by have := HKS.out; omega) (by omega)
                                    rw [HKS.out.2] at this
                                    exact this.mono fun _ _ h => ⟨h.1, h.2.symm⟩
                                  go_quiet ((go_at_call 14; exact Calls.quiet_of_same (HSP.out _)))
                                  go_wp2_with fail
                                  go_meet
                                  refine ⟨⟨nq, rfl⟩, _, rfl, fun h1 _ _ l h2 h3 => ?_⟩
                                  have e1 : la = l.1 := by have := hla.symm.trans h2; omega
                                  have e2 : lm = l.2 := by have := hlm.symm.trans h3; omega
                                  rw [← e1, ← e2]
                                  have h4 : ¬ ord (seg bs ks mm) (seg bs la lm) ≤ 0 := by simpa using h1
                                  omega
                              · go_quiet (fail)
                                go_wp2_with fail
                                go_meet
                                exact ⟨⟨nq, rfl⟩, false, by simp, fun _ h => by cases h⟩
                          case rest =>
                            rename World => wk
                            obtain ⟨HNQ, bb, rfl, HORD⟩ := hcut
                            have HBK : Hid (Below w.heap.size w wk) := by obtain ⟨nq, rfl⟩ := HNQ.out; exact drawn_below HH.out.bel nq
                            have hsame : (∀ b o, wk.cell? ⟨b, o, none⟩ = wr.cell? ⟨b, o, none⟩) ∧ (∀ b o, wk.frozen? ⟨b, o, none⟩ = wr.frozen? ⟨b, o, none⟩) := by obtain ⟨nq, rfl⟩ := HNQ.out; exact ⟨fun _ _ => rfl, fun _ _ => rfl⟩
                            have HROWK : Hid (Stack wk w.heap.size (.slice (some ⟨g, 0, none⟩) (t + 1) cap) (I ++ [f])) := by obtain ⟨nq, rfl⟩ := HNQ.out; exact HROW.out.kept (grown_drewN wr nq none) (.inr (by simp [Value.ownBlock]))
                            have hglk : g < wk.heap.size := by obtain ⟨nq, rfl⟩ := HNQ.out; exact hgl
                            rw [← hsame.1] at cd cw ch ca cb
                            rw [← hsame.2] at f0 f1 f2 f3 f4
                            clear hsame HNQ HROW HH HDW hgl
                            cases bb
                            · as_aux_lemma =>
                                have HMID : Hid (∀ o, Mid w ((World.put5 wk g t ⟨true, false, true, (ks : Nat), (q : Nat)⟩).alloc o) bs u n pos depth values (.slice (some ⟨g, 0, none⟩) (t + 1) cap) (I ++ [⟨true, false, true, (ks : Nat), (q : Nat)⟩]) q c false) := fun o => by
                                  obtain ⟨hput, hgr⟩ := Stack.put HROWK.out HT.out ⟨true, false, true, (ks : Nat), (q : Nat)⟩
                                  have hb := HBK.out.grown hgr HBK.out.size (fun j hj => by cases hj; exact hgb)
                                  refine ⟨World.ownsRow.alloc hput o, fun _ => ?_, fun h => by (cases h), hqn, hcb, by have := HHT.out; simpa using this, hb.alloc hb.size o⟩
                                  rw [List.reverse_append]
                                  have := Stk.keyed HSTK.out HFD.out HFW.out HSTA.out (by rw [HKS.out.1]; exact HORD.out rfl)
                                  rw [HKS.out.1] at this
                                  exact this
                                clear HORD
                                go_wp2_with fail
                                go_meet
                                exact ⟨_, q, c, false, rfl, rfl, rfl, HMID.out _⟩
                            · go_wp2
                              go_ret3
                              exact ⟨.inl rfl, HBK.out⟩
          · as_aux_lemma =>
              obtain ⟨I, f, hL, hpl, hx, hfw⟩ := HSH.out.1 rfl
              have hrow : Stack wr w.heap.size (.slice a m cap) (I ++ [f]) := by rw [← hL]; exact HH.out.row
              obtain ⟨g, cap', esv, hgb, hgl, hcp, hlc, _, _⟩ := hrow.top
              simp only [Value.slice.injEq] at esv
              obtain ⟨rfl, hmt, rfl⟩ := esv
              have hpop := (show Stack wr w.heap.size (.slice (some ⟨g, 0, none⟩) (I.length + 1) cap) (I ++ [f]) by rw [← hmt]; exact hrow).pop
              obtain ⟨t, ht⟩ : ∃ t, I.length = t := ⟨_, rfl⟩
              rw [ht] at hmt hlc hpop
              have hst := HH.out.stk
              rw [hL, List.reverse_append] at hst
              obtain ⟨s0, c1, cv, h0, hrd, hs1, hva, hcc, hhh, _⟩ := Stk.pop (fs := I.reverse) hst hfw hx
              rw [List.length_reverse] at hhh
              have HMID : Hid (Mid w wr bs u n pos depth values (.slice (some ⟨g, 0, none⟩) t cap) I (p + 1) c true) :=
                ⟨hpop, fun h => by (cases h), fun _ => ⟨s0, c1, cv, h0, hrd, hs1, hva, hcc, hhh⟩, hpl, hcb, by omega, HH.out.bel⟩
              subst hmt
              have hc0 : cap ≠ 0 := by omega
              have hti : (t : Int) ≤ (cap : Int) := by omega
              have hz0 : (0 : Int) ≤ (t : Int) := by omega
              clear hrow hpop hst hrd hs1 hva hcc hhh hL hx hfw HSH
              go_wp2_with fail
              go_meet
              exact ⟨I, p + 1, c, true, by go_num, rfl, rfl, HMID.out⟩
        case rest =>
          as_aux_lemma =>
            rename World => wq
            obtain ⟨L', q, c2, b, rfl, rfl, rfl, HMID⟩ := hcut
            clear HH HSH HM
            obtain ⟨a2, cap2, rfl⟩ := HMID.out.row.form
            obtain ⟨m2, hm2⟩ : ∃ m2, L'.length = m2 := ⟨_, rfl⟩
            have HM2 : Hid (L'.length = m2) := hm2
            have hm512 : m2 ≤ 512 := by have := HMID.out.ht; omega
            rw [hm2] at HMID ⊢
            clear hm2
            cases b
            · have HHD : Hid (Head w wq bs u n pos depth values (.slice a2 m2 cap2) L' q c2) := ⟨HMID.out.row, HMID.out.no rfl, HMID.out.le, HMID.out.cnt, HMID.out.ht, HMID.out.bel⟩
              go_wp2
              go_roundw
              case rel => exact ⟨L', q, c2, k + 1, by omega, by go_num, rfl, rfl, HHD.out⟩
              case measure => simp [intOf]; omega
            · obtain ⟨s0, c1, cv, h0, hrd, hs1, hva, hcc, hhh⟩ := HMID.out.yes rfl
              rcases List.eq_nil_or_concat L' with hL | ⟨I, f, hL⟩
              · subst hL
                have hm0 : m2 = 0 := by rw [← HM2.out]; rfl
                subst hm0
                obtain ⟨hva', hc0⟩ := Stk.done hs1 hva
                have HANS : Hid (ScanAns bs u n pos depth values (.returned (.tuple #[.int .i64 q, .int .i64 c2, .bool true]))) := .inr ⟨q, c2, h0, by rw [show c2 = cv by omega]; exact hva', HMID.out.le, by simpa using hhh, HMID.out.cnt, rfl⟩
                clear hrd hs1 hva hcc hhh hva' hc0
                go_wp2
                go_ret3
                exact ⟨HANS.out, HMID.out.bel⟩
              · rw [List.concat_eq_append] at hL
                subst hL
                have hrow := HMID.out.row
                have hle2 := HMID.out.le
                have hcn2 := HMID.out.cnt
                obtain ⟨g, cap', esv, hgb, hgl, hcp, hlc, hcells, hfz⟩ := hrow.top
                simp only [Value.slice.injEq] at esv
                obtain ⟨rfl, hmt, rfl⟩ := esv
                rw [List.reverse_append] at hrd hs1
                have hfe := Stk.feed (f := f) (fs := I.reverse) hs1 hrd hva (by rw [List.length_reverse]; simp at hhh; omega)
                rw [← hcc] at hfe
                have HFE : Hid (Stk bs u depth pos (I ++ [fed f]).reverse q c2) := by show Stk _ _ _ _ _ _ _; rw [List.reverse_append]; exact hfe
                obtain ⟨t, ht⟩ : ∃ t, I.length = t := ⟨_, rfl⟩
                rw [ht] at hmt hcells hlc
                have HT : Hid (I.length = t) := ht
                subst hmt
                have cd : wq.cell? ⟨g, t * 5, none⟩ = some (.bool f.dict) := by simpa using hcells 0 (.bool f.dict) rfl
                have cw : wq.cell? ⟨g, t * 5 + 1, none⟩ = some (.bool f.want) := hcells 1 (.bool f.want) rfl
                have ch : wq.cell? ⟨g, t * 5 + 2, none⟩ = some (.bool f.has) := hcells 2 (.bool f.has) rfl
                have ca : wq.cell? ⟨g, t * 5 + 3, none⟩ = some (.int .i64 f.at_) := hcells 3 (.int .i64 f.at_) rfl
                have cb : wq.cell? ⟨g, t * 5 + 4, none⟩ = some (.int .i64 f.end_) := hcells 4 (.int .i64 f.end_) rfl
                have HFZ : Hid (∀ j, wq.frozen? ⟨g, j, none⟩ = false) := hfz
                have hti : ((t + 1 : Nat) : Int) - 1 = (t : Int) := by omega
                have hz0 : (0 : Int) ≤ (t : Int) := by omega
                have hz1 : (t : Int) < ((t + 1 : Nat) : Int) := by omega
                have HROW : Hid (Stack wq w.heap.size (.slice (some ⟨g, 0, none⟩) (t + 1) cap2) (I ++ [f])) := hrow
                clear hrd hs1 hva hcc hhh hfe hcells hfz hrow ht
                cases hfd : f.dict
                · have HHD : Hid (Head w wq bs u n pos depth values (.slice (some ⟨g, 0, none⟩) (t + 1) cap2) (I ++ [f]) q c2) := ⟨HROW.out, by have h9 := HFE.out; rw [show fed f = f by simp [fed, hfd]] at h9; exact h9, hle2, hcn2, HMID.out.ht, HMID.out.bel⟩
                  rw [hfd] at cd
                  clear hfd cw ch ca cb
                  go_wp2
                  go_roundw
                  case rel => exact ⟨I ++ [f], q, c2, k + 1, by omega, by go_num, rfl, rfl, HHD.out⟩
                  case measure => simp [intOf]; omega
                · rw [hfd] at cd
                  have f0 := HFZ.out (t * 5)
                  have f1 := HFZ.out (t * 5 + 1)
                  have f2 := HFZ.out (t * 5 + 2)
                  have f3 := HFZ.out (t * 5 + 3)
                  have f4 := HFZ.out (t * 5 + 4)
                  obtain ⟨hput, hgr⟩ := HROW.out.put HT.out (fed f)
                  have hfe2 : fed f = ⟨true, true, f.has, f.at_, f.end_⟩ := by simp [fed, hfd]
                  have HHD : Hid (∀ o, Head w ((World.put5 wq g t (fed f)).alloc o) bs u n pos depth values (.slice (some ⟨g, 0, none⟩) (t + 1) cap2) (I ++ [fed f]) q c2) := fun o =>
                    ⟨World.ownsRow.alloc hput o, HFE.out, hle2, hcn2, by have := HMID.out.ht; simpa using this, (HMID.out.bel.grown hgr HMID.out.bel.size (fun j hj => by cases hj; exact hgb)).alloc (Nat.le_trans HMID.out.bel.size hgr.size) o⟩
                  rw [hfe2] at HHD
                  clear hput hgr hfe2
                  go_wp2
                  go_roundw
                  case rel => exact ⟨_, q, c2, k + 1, by omega, by go_num, rfl, rfl, HHD.out _⟩
                  case measure => simp [intOf]; omega
end Go.Proofs.Qxb6609549aFmt.Dec
