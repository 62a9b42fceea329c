/- hashes.places (15), index.places (13), ZZindexPlaces (8), ZZnewIndex (9). -/
import Derived.Test.Qxb6609572aIndexB
namespace Go.Proofs.Qxb6609572a.Index
open Go.RowKit Go.Maps Go.WideElems Go.MapKept Go.ChangeShapes Go.WideShapes

theorem grown_of_below {w w' : World} (h : Below w.heap.size w w') : w.grownBy w' none := ⟨h.os, h.tape, h.output, h.size, fun k hk _ => h.block k hk⟩

/-- One half of an index: its two maps' values; what they hold under each hash. -/
def Half (w : World) (v1 mv : Value) (pl : Int → List Int) (sz : Nat) : Prop :=
  (v1 = .map none ∧ mv = .map none ∧ (∀ x, pl x = []) ∧ sz = 0) ∨ ∃ (b1 k : Nat) (Hs Ps : Nat → Int), v1 = .map (some b1) ∧ MapsAt w b1 mv k Hs Ps ∧ k ≤ 131072 ∧ (∀ x, pl x = occ Hs Ps k x) ∧ sz = nd Hs k

theorem MapsAt.kept {w w' : World} {b1 k : Nat} {mv : Value} {Hs Ps : Nat → Int} (h : MapsAt w b1 mv k Hs Ps) (hb : Below w.heap.size w w') : MapsAt w' b1 mv k Hs Ps := by
  have hg := grown_of_below hb
  obtain ⟨⟨D1, h1, h2⟩, h3⟩ := h
  refine ⟨⟨D1, h1.kept hg (by simp), h2⟩, ?_⟩
  rcases h3 with h3 | ⟨b2, D2, h4, h5, h6, h7⟩
  · exact .inl h3
  · exact .inr ⟨b2, D2, h4, h5, h6.kept hg (by simp) (h6.rowsAbove (fun j hj => by cases hj)), h7⟩
theorem Half.kept {w w' : World} {v1 mv : Value} {pl : Int → List Int} {sz : Nat} (h : Half w v1 mv pl sz) (hb : Below w.heap.size w w') : Half w' v1 mv pl sz := by
  rcases h with h | ⟨b1, k, Hs, Ps, h1, h2, h3⟩
  · exact .inl h
  · exact .inr ⟨b1, k, Hs, Ps, h1, h2.kept hb, h3⟩

theorem Half.first {w : World} {v1 mv : Value} {pl : Int → List Int} {sz : Nat} (h : Half w v1 mv pl sz) {x : Int} (hx : (Lit.int .u64 x).wf = true) :
    ∃ c : Int, (Instr.lookup 27 v1 (.int .u64 x) true).run Try.prog w = .ok (.tuple #[.int .i64 c, .bool (!(pl x).isEmpty)]) w ∧ ∀ p l, pl x = p :: l → c = p := by
  rcases h with ⟨rfl, _, h, _⟩ | ⟨b1, k, Hs, Ps, rfl, ⟨⟨D1, h1, h2⟩, _⟩, _, hpl, _⟩
  · refine ⟨0, ?_, fun p l e => by rw [h x] at e; cases e⟩
    rw [Maps.look_nil true law Try.underlying27 (zero2 w) (key_of hx), h x]
    rfl
  · obtain ⟨v, ps, hrun, hv⟩ := h1.look_ok law Try.underlying27 (zero2 w) (plainElem_int Try.underlying2 (by decide)) (key_of hx)
    obtain ⟨c, rfl, hc, _⟩ := plainElem_int_inv Try.underlying2 hv
    refine ⟨c, by rw [hrun, h2.has x hx, hpl x], fun p l e => ?_⟩
    rw [hpl x] at e
    have := h2.val x p l hx e
    simp only [Prod.mk.injEq] at hc
    rw [this] at hc
    simpa using hc.1.symm

theorem Half.more {w : World} {v1 mv : Value} {pl : Int → List Int} {sz : Nat} (h : Half w v1 mv pl sz) {x : Int} (hx : (Lit.int .u64 x).wf = true) :
    ∃ vm : Value, (∀ w', Below w.heap.size w w' → (Instr.lookup 28 mv (.int .u64 x) false).run Try.prog w' = .ok vm w') ∧
      ((vm = .slice none 0 0 ∧ (pl x).tail = []) ∨ ∃ g cap, vm = .slice (some ⟨g, 0, none⟩) (pl x).tail.length cap ∧ (pl x).tail ≠ [] ∧ g < w.heap.size ∧ (∀ j u, ((pl x).tail.map (Value.int .i64))[j]? = some u → w.cell? ⟨g, j, none⟩ = some u) ∧ (pl x).tail.length ≤ 131072) := by
  rcases h with ⟨rfl, rfl, h, _⟩ | ⟨b1, k, Hs, Ps, rfl, ⟨_, hmore⟩, hk, hpl, _⟩
  · refine ⟨.slice none 0 0, fun w' _ => ?_, .inl ⟨rfl, by rw [h x]; rfl⟩⟩
    rw [Maps.look_nil false law Try.underlying28 (zero23 w') (key_of hx)]
    rfl
  · rcases hmore with ⟨rfl, h0⟩ | ⟨b2, D2, rfl, _, hg, hmo⟩
    · refine ⟨.slice none 0 0, fun w' _ => ?_, .inl ⟨rfl, by rw [hpl x, h0 x hx]⟩⟩
      rw [Maps.look_nil false law Try.underlying28 (zero23 w') (key_of hx)]
      rfl
    · obtain ⟨v, zs, hrun, hat, hoi, hzl, _⟩ := hg.at law Try.underlying28 (zero23 _) (by unfold maxLen; omega) (key_of hx)
      have hz : zs = (occ Hs Ps k x).tail := tail_of hoi (by rw [← hat, hmo x hx])
      have hd : gd (occ Hs Ps k x).tail = rowDatum .i64 v zs := by rw [← hat, hmo x hx]
      obtain ⟨es, clock, hbk, F, _⟩ := hg
      have hb2w : b2 < w.heap.size := (Array.getElem?_eq_some_iff.1 hbk).1
      refine ⟨v, fun w' hb => look_same law Try.underlying28 zero23 hbk ((hb.block b2 hb2w).trans hbk) F (key_of hx) false hrun, ?_⟩
      rw [hpl x]
      subst hz
      rcases hoi.1.2 with ⟨rfl, h0⟩ | ⟨g, cap, cur, rfl, hgb, hgh, _⟩
      · exact .inl ⟨rfl, List.length_eq_zero_iff.1 h0⟩
      · refine .inr ⟨g, cap, rfl, fun e => ?_, (Array.getElem?_eq_some_iff.1 hgh).1, fun j u hu => ?_, by omega⟩
        · rw [e] at hd
          simp [gd, rowDatum] at hd
        · have := hoi.1.cells (g := g) rfl j u hu
          rw [add_plain, Nat.zero_add] at this
          exact this

/-- append(v, nil...) at a step of a region that draws its order. -/
theorem step_append_none {P : Program} {w : World} {ops : Array Oper} {o : Oper} {a : Act} {K : Act → World → Prop} {Q : Exit → Act → World → Prop} {E : Prop} (hgd : o.guard = none) (s x : Operand) (t : TypeId)
    (ho : o.op = .call { callee := .builtin .append, args := #[s, x], argTypes := #[t, t] })
    (base : Nat) (e : TypeId) (i : TypeInfo) (size : Nat) (ht : P.underlying t = some (.slice e)) (hi : P.info? e = some i)
    (v : Value) (n : Nat) (xs : List Value) (hs : a.eval s = v) (hown : w.ownsRow base e size v n xs) (hx : a.eval x = .slice none 0 0)
    (h : K (a.put o.dst v) w) : if Region.wanted o (yielded ops a.tmps) = true then Oper.wp P o a w K Q else E := by
  have hw : Region.wanted o (yielded ops a.tmps) = true := by simp [Region.wanted, hgd]
  rw [if_pos hw]
  have hrun := run_append_owned_none (P := P) (w := w) base t o.type e i size ht hi v n xs hown
  unfold Oper.wp execOp
  simp only [ho, resolve, invoke, builtin, Sem.run_bind, Sem.run_pure, Result.andThen_ok, List.map_toArray, List.map_cons, List.map_nil, hs, hx, hrun]
  exact h

theorem row_join {w : World} {base : Nat} {v : Value} {zs l : List Int} {c : Int} (h : w.ownsRow base 2 1 v (zs.length + 1 + l.length) (zs.map (Value.int .i64) ++ [.int .i64 c] ++ l.map (Value.int .i64))) :
    w.ownsRow base 2 1 v (zs ++ c :: l).length ((zs ++ c :: l).map (Value.int .i64)) := by
  have e : (zs ++ c :: l).length = zs.length + 1 + l.length := by simp; omega
  have e2 : (zs ++ c :: l).map (Value.int .i64) = zs.map (Value.int .i64) ++ [.int .i64 c] ++ l.map (Value.int .i64) := by simp
  rw [e, e2]
  exact h

theorem places_miss (B o : Nat) (v1 mv tv : Value) (pl : Int → List Int) (sz : Nat) (h : Int) (w0 w : World) (hw : (Lit.int .u64 h).wf = true) (hh : Half w0 v1 mv pl sz) (hb0 : Below w0.heap.size w0 w)
    (c0 : w.cell? ⟨B, o, none⟩ = some v1) (hpl : pl h = []) :
    Calls Try.prog 15 #[.pointer (some ⟨B, o, none⟩), .int .u64 h, tv] w fun e w' => e = .returned tv ∧ w' = w := by
  obtain ⟨c, hrun, _⟩ := (hh.kept hb0).first hw
  rw [hpl] at hrun
  simp only [List.isEmpty_nil, Bool.not_true] at hrun
  have hv1 : ∃ r, v1 = .map r := by rcases hh with ⟨e, _⟩ | ⟨b1, k, Hs, Ps, e, _⟩ <;> exact ⟨_, e⟩
  obtain ⟨r, rfl⟩ := hv1
  clear hh hb0
  go_enter Try.func15, Try.ntmps15
  go_wp2
  go_ret
  exact ⟨rfl, rfl⟩

set_option maxHeartbeats 2000000 in
theorem places_hit (B o base : Nat) (v1 mv tv : Value) (pl : Int → List Int) (sz : Nat) (h p : Int) (l zs : List Int) (w0 w : World) (hw : (Lit.int .u64 h).wf = true) (hh : Half w0 v1 mv pl sz) (hb0 : Below w0.heap.size w0 w)
    (c0 : w.cell? ⟨B, o, none⟩ = some v1) (c1 : w.cell? ⟨B, o + 1, none⟩ = some mv) (hpl : pl h = p :: l) (hwp : (Lit.int .i64 p).wf = true) (hB : B < w.heap.size) (hBb : B < base) (hbase : w0.heap.size ≤ base) (hbw : base ≤ w.heap.size)
    (hown : w.ownsRow base 2 1 tv zs.length (zs.map (Value.int .i64))) (hzl : zs.length ≤ 200000) :
    Calls Try.prog 15 #[.pointer (some ⟨B, o, none⟩), .int .u64 h, tv] w fun e w' => ∃ v', e = .returned v' ∧ w'.ownsRow base 2 1 v' (zs ++ pl h).length ((zs ++ pl h).map (Value.int .i64)) ∧ Below base w w' := by
  obtain ⟨i0, hi, hz0, hz1, hz2⟩ := info_parts info2
  obtain ⟨c, hrun, hc⟩ := (hh.kept hb0).first hw
  obtain rfl := hc p l hpl
  obtain ⟨vm, hlook, hvm⟩ := hh.more hw
  rw [hpl] at hrun hvm
  simp only [List.isEmpty_cons, Bool.not_false, List.tail_cons] at hrun hvm
  have hv1 : ∃ r, v1 = .map r := by rcases hh with ⟨e, _⟩ | ⟨b1, k, Hs, Ps, e, _⟩ <;> exact ⟨_, e⟩
  have hmv : ∃ r, mv = .map r := by
    rcases hh with ⟨_, e, _⟩ | ⟨b1, k, Hs, Ps, _, ⟨_, ⟨e, _⟩ | ⟨b2, D2, e, _⟩⟩, _⟩ <;> exact ⟨_, e⟩
  obtain ⟨r, rfl⟩ := hv1
  obtain ⟨r2, rfl⟩ := hmv
  have hw0 := hb0.size
  have heq1 : (Instr.lookup 28 (.map r2) (.int .u64 h) false).run Try.prog w.drew = .ok vm w.drew := hlook _ hb0.drew
  have heq2 : ∀ o, (Instr.lookup 28 (.map r2) (.int .u64 h) false).run Try.prog (w.alloc o).drew = .ok vm (w.alloc o).drew := fun o => hlook _ (hb0.alloc hw0 o).drew
  have HL : Hid (∀ w', Below w0.heap.size w0 w' → (Instr.lookup 28 (.map r2) (.int .u64 h) false).run Try.prog w' = .ok vm w') := hlook
  have HB0 : Hid (Below w0.heap.size w0 w) := hb0
  have HO : Hid (w.ownsRow base 2 1 tv zs.length (zs.map (Value.int .i64))) := hown
  have hrows : ∀ j, tv.ownBlock = some j → base ≤ j := fun j hj => (hown.lt j hj).1
  have HRW : Hid (∀ j, tv.ownBlock = some j → base ≤ j) := hrows
  have atv : tv.ownBlock ≠ some B := fun e => by have := hrows _ e; omega
  have HPL : Hid (pl h = c :: l) := hpl
  have hn1 := World.new_ne w _ c1
  clear hh hb0 hlook hown hrows hpl
  rcases hvm with ⟨rfl, rfl⟩ | ⟨g2, cap2, rfl, hl0, hg2, hcells, hll⟩
  · go_enter Try.func15, Try.ntmps15
    go_wp2_with fail
    go_region_held3 (fun w' => w'.cell? ⟨B, o + 1, none⟩ = some (.map r2))
      (first | go_keep | (rw [hgrow.cell_far _ (by simp; omega) (Ne.symm atv)]; assumption))
      (first
        | (refine step_append_lies _ (by rfl) (.tmp 21) (.tmp 23) 23 (by rfl) base 2 i0 _ 1 8 Try.underlying23 hi hz0 hz1 hz2 rfl (by omega) tv zs.length (zs.map (Value.int .i64)) (by rfl) ((HO.out.alloc _).drew) ⟨w.heap.size, 0, none⟩ 1 1 [.int .i64 c] (by rfl) (by rfl) (World.news_of_block (cs := #[.int .i64 c]) (t := 2) (fr := (0, 0)) (heap_alloc_new w _)) (by simp [Value.oneCell']) (by omega) (by unfold maxLen; omega) (by omega) (by simp; omega) (w.heap.size + 1) (by simp) ?_; intro g cap w1 hown1 hgrow hat1 hlt1; have heq3 := HL.out w1 ((HB0.out.alloc hw0 _).drew.grown hgrow (by simp; omega) (fun j hj => by have := HRW.out j hj; omega)))
        | (refine step_append_none (by rfl) (.tmp 24) (.tmp 30) 23 (by rfl) base 2 i0 1 Try.underlying23 hi _ _ _ (by rfl) hown1 (by rfl) ?_))
    all_goals
      go_wp2
      go_ret
      exact ⟨_, rfl, by rw [HPL.out]; simpa using hown1, ((Below.refl _ _).alloc hbw _).drew.grown hgrow (by simp; omega) HRW.out⟩
  · have hlpos : 0 < l.length := List.length_pos_iff.2 hl0
    have HCE : Hid (∀ j u, (l.map (Value.int .i64))[j]? = some u → w0.cell? ⟨g2, j, none⟩ = some u) := hcells
    clear hcells
    go_enter Try.func15, Try.ntmps15
    go_wp2_with fail
    go_region_held3 (fun w' => w'.cell? ⟨B, o + 1, none⟩ = some (.map r2))
      (first | go_keep | (rw [hgrow2.cell_far _ (by have hq := hgrow.size; simp at hq ⊢; omega) (by have hq := hown1.lt g rfl; simp [Value.ownBlock]; omega)]; assumption) | (rw [hgrow.cell_far _ (by simp; omega) (Ne.symm atv)]; assumption))
      (first
        | (refine step_append_lies _ (by rfl) (.tmp 21) (.tmp 23) 23 (by rfl) base 2 i0 _ 1 8 Try.underlying23 hi hz0 hz1 hz2 rfl (by omega) tv zs.length (zs.map (Value.int .i64)) (by rfl) ((HO.out.alloc _).drew) ⟨w.heap.size, 0, none⟩ 1 1 [.int .i64 c] (by rfl) (by rfl) (World.news_of_block (cs := #[.int .i64 c]) (t := 2) (fr := (0, 0)) (heap_alloc_new w _)) (by simp [Value.oneCell']) (by omega) (by unfold maxLen; omega) (by omega) (by simp; omega) (w.heap.size + 1) (by simp) ?_; intro g cap w1 hown1 hgrow hat1 hlt1; have hbw1 := ((HB0.out.alloc hw0 _).drew.grown hgrow (by simp; omega) (fun j hj => by have := HRW.out j hj; omega)); have heq3 := HL.out w1 hbw1; have hq1 := hgrow.size)
        | (refine step_append_lies _ (by rfl) (.tmp 24) (.tmp 30) 23 (by rfl) base 2 i0 _ 1 8 Try.underlying23 hi hz0 hz1 hz2 rfl (by omega) (.slice (some ⟨g, 0, none⟩) (zs.length + 1) cap) (zs.length + 1) (zs.map (Value.int .i64) ++ [.int .i64 c]) (by rfl) hown1 ⟨g2, 0, none⟩ l.length cap2 (l.map (Value.int .i64)) (by rfl) (by simp) (fun j u hu => by rw [add_plain, Nat.zero_add]; exact (hbw1.cell (by exact hg2)).trans (HCE.out j u hu)) (ints_oneCell _ _) hlpos (by unfold maxLen; omega) (by omega) (by simp at hq1; omega) w1.heap.size rfl ?_; intro g3 cap3 w2 hown2 hgrow2 hat2 hlt2))
    all_goals
      go_wp2
      go_ret
      exact ⟨_, rfl, by rw [HPL.out]; exact row_join hown2, (((Below.refl _ _).alloc hbw _).drew.grown hgrow (by simp; omega) HRW.out).grown hgrow2 (by simp at hq1; omega) (fun j hj => by simp [Value.ownBlock] at hj; have := (hown1.lt g rfl).1; omega)⟩

/-- Both ways in one contract. -/
theorem places_any (B o base : Nat) (v1 mv tv : Value) (pl : Int → List Int) (sz : Nat) (h : Int) (zs : List Int) (w0 w : World) (hw : (Lit.int .u64 h).wf = true) (hh : Half w0 v1 mv pl sz) (hb0 : Below w0.heap.size w0 w)
    (c0 : w.cell? ⟨B, o, none⟩ = some v1) (c1 : w.cell? ⟨B, o + 1, none⟩ = some mv) (hwp : ∀ p ∈ pl h, (Lit.int .i64 p).wf = true) (hB : B < w.heap.size) (hBb : B < base) (hbase : w0.heap.size ≤ base) (hbw : base ≤ w.heap.size)
    (hown : w.ownsRow base 2 1 tv zs.length (zs.map (Value.int .i64))) (hzl : zs.length ≤ 200000) :
    Calls Try.prog 15 #[.pointer (some ⟨B, o, none⟩), .int .u64 h, tv] w fun e w' => ∃ v', e = .returned v' ∧ w'.ownsRow base 2 1 v' (zs ++ pl h).length ((zs ++ pl h).map (Value.int .i64)) ∧ Below base w w' := by
  cases hpl : pl h with
  | nil =>
    refine (places_miss B o v1 mv tv pl sz h w0 w hw hh hb0 c0 hpl).mono ?_
    rintro e w' ⟨rfl, rfl⟩
    exact ⟨tv, rfl, by simpa using hown, Below.refl _ _⟩
  | cons p l =>
    rw [← hpl]
    exact places_hit B o base v1 mv tv pl sz h p l zs w0 w hw hh hb0 c0 c1 hpl (hwp p (by rw [hpl]; simp)) hB hBb hbase hbw hown hzl

theorem newidx_any (v1 m1 v2 m2 : Value) (h1 : ∃ r, v1 = .map r) (h2 : ∃ r, m1 = .map r) (h3 : ∃ r, v2 = .map r) (h4 : ∃ r, m2 = .map r) (w : World) :
    Calls Try.prog 9 #[v1, m1, v2, m2] w fun e w' => e = .returned (.pointer (some ⟨w.heap.size, 0, none⟩)) ∧ w' = w.alloc (.cells #[v1, m1, v2, m2] 43) := by
  obtain ⟨r1, rfl⟩ := h1
  obtain ⟨r2, rfl⟩ := h2
  obtain ⟨r3, rfl⟩ := h3
  obtain ⟨r4, rfl⟩ := h4
  go_enter Try.func9, Try.ntmps9
  go_wp2
  go_ret
  exact ⟨rfl, rfl⟩

set_option maxHeartbeats 2000000 in
/-- The index's places: the frozen half's, then the recent half's. -/
theorem idx_any (B : Nat) (v1 m1 v2 m2 : Value) (pf pr : Int → List Int) (sf sr : Nat) (h : Int) (w0 w : World) (hw : (Lit.int .u64 h).wf = true) (hf : Half w0 v1 m1 pf sf) (hr : Half w0 v2 m2 pr sr) (hb0 : Below w0.heap.size w0 w)
    (c0 : w.cell? ⟨B, 0, none⟩ = some v1) (c1 : w.cell? ⟨B, 1, none⟩ = some m1) (c2 : w.cell? ⟨B, 2, none⟩ = some v2) (c3 : w.cell? ⟨B, 3, none⟩ = some m2)
    (hwf : ∀ p ∈ pf h, (Lit.int .i64 p).wf = true) (hwr : ∀ p ∈ pr h, (Lit.int .i64 p).wf = true) (hB : B < w.heap.size) (hBb : w0.heap.size ≤ B) (hlf : (pf h).length ≤ 200000) :
    Calls Try.prog 13 #[.pointer (some ⟨B, 0, none⟩), .int .u64 h] w fun e w' => ∃ v', e = .returned v' ∧ w'.ownsRow (B + 1) 2 1 v' (pf h ++ pr h).length ((pf h ++ pr h).map (Value.int .i64)) ∧ Below (B + 1) w w' := by
  have HF : Hid (∀ w1, Below w0.heap.size w0 w1 → w1.cell? ⟨B, 0, none⟩ = some v1 → w1.cell? ⟨B, 1, none⟩ = some m1 → B + 1 ≤ w1.heap.size → Calls Try.prog 15 #[.pointer (some ⟨B, 0, none⟩), .int .u64 h, .slice none 0 0] w1 fun e w' => ∃ v', e = .returned v' ∧ w'.ownsRow (B + 1) 2 1 v' (pf h).length ((pf h).map (Value.int .i64)) ∧ Below (B + 1) w1 w') := by
    intro w1 hb a0 a1 hs
    refine (places_any B 0 (B + 1) v1 m1 (.slice none 0 0) pf sf h [] w0 w1 hw hf hb a0 a1 hwf (by omega) (by omega) (by omega) hs (World.ownsRow_nil _ _ _ _) (by simp)).mono ?_
    rintro e w' ⟨v', rfl, ho, hb'⟩
    exact ⟨v', rfl, by simpa using ho, hb'⟩
  have HR : Hid (∀ w1 tv, Below w0.heap.size w0 w1 → w1.cell? ⟨B, 2, none⟩ = some v2 → w1.cell? ⟨B, 3, none⟩ = some m2 → B + 1 ≤ w1.heap.size → w1.ownsRow (B + 1) 2 1 tv (pf h).length ((pf h).map (Value.int .i64)) → Calls Try.prog 15 #[.pointer (some ⟨B, 2, none⟩), .int .u64 h, tv] w1 fun e w' => ∃ v', e = .returned v' ∧ w'.ownsRow (B + 1) 2 1 v' (pf h ++ pr h).length ((pf h ++ pr h).map (Value.int .i64)) ∧ Below (B + 1) w1 w') := by
    intro w1 tv hb a0 a1 hs ho
    exact places_any B 2 (B + 1) v2 m2 tv pr sr h (pf h) w0 w1 hw hr hb a0 a1 hwr (by omega) (by omega) (by omega) hs ho hlf
  have HB0 : Hid (Below w0.heap.size w0 w) := hb0
  have hbw := hb0.size
  clear hf hr hb0
  go_enter Try.func13, Try.ntmps13
  go_wp2_with fail
  go_region_held3 (fun _ => True) (trivial)
    (first
      | (go_at_call_of 15 (Value.slice none 0 0); refine Calls.mono (HF.out w.drew HB0.out.drew c0 c1 hB) ?_; rintro e w1 ⟨tv, rfl, ho1, hb1⟩)
      | (go_at_call 15; refine Calls.mono (HR.out w1 tv (HB0.out.drew.trans (hb1.mono (by omega))) ((hb1.cell (by simp)).trans c2) ((hb1.cell (by simp)).trans c3) (by have hq := hb1.size; simp at hq; omega) ho1) ?_; rintro e w2 ⟨v', rfl, ho2, hb2⟩))
  go_wp2
  go_ret
  exact ⟨v', rfl, ho2, (Below.refl _ _).drew.trans (hb1.trans hb2)⟩

theorem zidx_any (B : Nat) (v1 m1 v2 m2 : Value) (pf pr : Int → List Int) (sf sr : Nat) (h : Int) (w0 w : World) (hw : (Lit.int .u64 h).wf = true) (hf : Half w0 v1 m1 pf sf) (hr : Half w0 v2 m2 pr sr) (hb0 : Below w0.heap.size w0 w)
    (c0 : w.cell? ⟨B, 0, none⟩ = some v1) (c1 : w.cell? ⟨B, 1, none⟩ = some m1) (c2 : w.cell? ⟨B, 2, none⟩ = some v2) (c3 : w.cell? ⟨B, 3, none⟩ = some m2)
    (hwf : ∀ p ∈ pf h, (Lit.int .i64 p).wf = true) (hwr : ∀ p ∈ pr h, (Lit.int .i64 p).wf = true) (hB : B < w.heap.size) (hBb : w0.heap.size ≤ B) (hlf : (pf h).length ≤ 200000) :
    Calls Try.prog 8 #[.pointer (some ⟨B, 0, none⟩), .int .u64 h] w fun e w' => ∃ v', e = .returned v' ∧ w'.ownsRow (B + 1) 2 1 v' (pf h ++ pr h).length ((pf h ++ pr h).map (Value.int .i64)) ∧ Below (B + 1) w w' := by
  have HI : Hid _ := idx_any B v1 m1 v2 m2 pf pr sf sr h w0 w hw hf hr hb0 c0 c1 c2 c3 hwf hwr hB hBb hlf
  clear hf hr hb0
  go_enter Try.func8, Try.ntmps8
  go_wp2_with fail
  refine Calls.mono HI.out ?_
  rintro e w' ⟨v', rfl, h1, h2⟩
  go_wp2
  go_ret
  exact ⟨v', rfl, h1, h2⟩
end Go.Proofs.Qxb6609572a.Index
