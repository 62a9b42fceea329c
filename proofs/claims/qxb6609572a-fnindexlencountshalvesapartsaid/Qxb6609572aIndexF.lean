/- The law FnIndexLenCountsHalvesApart (4): the walk. -/
import Derived.Test.Qxb6609572aIndexE
namespace Go.Proofs.Qxb6609572a.Index
open Go.RowKit Go.Maps Go.WideElems Go.MapKept Go.ChangeShapes Go.WideShapes

theorem info24 : (Try.prog.info? 24).map (fun i => (i.zero, i.size, i.bytes)) = some (some (.int .u64 0), 1, 8) := by kernel_rfl

/-- What a slice looks like that came in. -/
def Shp (a : Option Addr) (l c : Nat) : Prop := (a = none ∧ l = 0 ∧ c = 0) ∨ ∃ x, a = some x ∧ l ≤ c
/-- The first n of a row. -/
def firsts (k : IntKind) (Z : Nat → Int) (n : Nat) : List Value := (List.range n).map fun i => .int k (Z i)
/-- A slice value whose elements are to be appended. -/
def News (w : World) (sv : Value) (m : Nat) (news : List Value) : Prop :=
  (sv = .slice none 0 0 ∧ m = 0 ∧ news = []) ∨ ∃ ad c, sv = .slice (some ad) m c ∧ news.length = m ∧ (∀ j u, news[j]? = some u → w.cell? (ad.add j) = some u) ∧ ∀ u ∈ news, u.oneCell' = true
theorem firsts_length (k : IntKind) (Z : Nat → Int) (n : Nat) : (firsts k Z n).length = n := by simp [firsts]
theorem firsts_get {k : IntKind} {Z : Nat → Int} {n j : Nat} (h : j < n) : (firsts k Z n)[j]? = some (.int k (Z j)) := by simp [firsts, h]
theorem News.of {k : IntKind} {w : World} {a : Option Addr} {l c n : Nat} {Z : Nat → Int} (h : NumRow k w a l Z) (hs : Shp a l c) (hn : n ≤ l) : News w (.slice a n c) n (firsts k Z n) := by
  rcases hs with ⟨rfl, rfl, rfl⟩ | ⟨x, rfl, hlc⟩
  · obtain rfl : n = 0 := by omega
    exact .inl ⟨rfl, rfl, rfl⟩
  · refine .inr ⟨x, c, rfl, firsts_length _ _ _, fun j u hu => ?_, ?_⟩
    · have hj : j < n := by
        have := (List.getElem?_eq_some_iff.1 hu).1
        rwa [firsts_length] at this
      rw [firsts_get hj] at hu
      obtain ⟨b, o, e, _, hc⟩ := h.pos (by omega)
      simp only [Option.some.injEq] at e
      subst e
      rw [add_plain, hc j (by omega)]
      exact hu
    · intro u hu
      simp only [firsts, List.mem_map] at hu
      obtain ⟨i, _, rfl⟩ := hu
      rfl
theorem News.kept {w w' : World} {sv : Value} {m : Nat} {news : List Value} (h : News w sv m news) (hc : ∀ a u, w.cell? a = some u → w'.cell? a = some u) : News w' sv m news := by
  rcases h with h | ⟨ad, c, h1, h2, h3, h4⟩
  · exact .inl h
  · exact .inr ⟨ad, c, h1, h2, fun j u hu => hc _ _ (h3 j u hu), h4⟩

/-- The row that the two appends have laid. -/
theorem num_chain {k : IntKind} {w : World} {G e nf nr T : Nat} {F R : Nat → Int} (hT : nf + nr = T) (ho : w.ownsRow G e 1 (.slice (some ⟨G, 0, none⟩) T T) T (firsts k F nf ++ firsts k R nr)) (hTb : T ≤ 131072) (hF : ∀ i, i < nf → (Lit.int k (F i)).wf = true) (hR : ∀ i, i < nr → (Lit.int k (R i)).wf = true) :
    NumRow k w (some ⟨G, 0, none⟩) T (chain F R nf) := by
  have ho' := ho
  refine ⟨by unfold maxLen; omega, fun i hi => ?_, fun _ => ⟨G, 0, rfl, ?_, fun i hi => ?_⟩⟩
  · unfold chain
    split
    · exact hF i (by assumption)
    · exact hR _ (by omega)
  · rcases ho.2 with ⟨h, _⟩ | ⟨g, cap, cur, h, _, hg, _⟩
    · simp at h
    · simp only [Value.slice.injEq, Option.some.injEq, Addr.mk.injEq, and_true, true_and] at h
      rw [h.1]
      exact (Array.getElem?_eq_some_iff.1 hg).1
  · have := ho'.cells (g := G) rfl i (.int k (chain F R nf i)) (by
      unfold chain
      split
      · rename_i h
        rw [List.getElem?_append_left (by rw [firsts_length]; exact h), firsts_get h]
      · rename_i h
        rw [List.getElem?_append_right (by rw [firsts_length]; omega), firsts_length, firsts_get (by omega)])
    rw [add_plain] at this
    exact this

theorem row_eq {w : World} {G e nf nr T g : Nat} {xs ys : List Value} (hT : nf + nr = T) (h : w.ownsRow G e 1 (.slice (some ⟨g, 0, none⟩) (0 + nf + nr) T) (0 + nf + nr) ([] ++ xs ++ ys)) : w.ownsRow G e 1 (.slice (some ⟨g, 0, none⟩) T T) T (xs ++ ys) := by
  rw [Nat.zero_add, hT, List.nil_append] at h
  exact h
theorem both_old2 {A B : Nat → Int} {b a : Nat} {x : Int} (hx : A a = x) (h : seen A a x = true) : both A B b (a + 1) = both A B b a := by rw [both, fresh_seen, hx, h]; rfl
theorem both_hit2 {A B : Nat → Int} {b a : Nat} {x : Int} (hx : A a = x) (h : seen A a x = false) (hr : seen B b x = true) : both A B b (a + 1) = both A B b a + 1 := by rw [both, fresh_seen, hx, h, hr]; rfl
theorem both_miss2 {A B : Nat → Int} {b a : Nat} {x : Int} (hx : A a = x) (hr : seen B b x = false) : both A B b (a + 1) = both A B b a := by rw [both, hx, hr, Bool.and_false]; rfl
theorem zlen_x (B : Nat) (v1 m1 v2 m2 : Value) (pf pr : Int → List Int) (sf sr X : Nat) (w : World) (hX : sf + sr = X) (hf : Half w v1 m1 pf sf) (hr : Half w v2 m2 pr sr) (c0 : w.cell? ⟨B, 0, none⟩ = some v1) (c2 : w.cell? ⟨B, 2, none⟩ = some v2) :
    Calls Try.prog 12 #[.pointer (some ⟨B, 0, none⟩)] w fun e w' => e = .returned (.int .i64 X) ∧ Below w.heap.size w w' := by
  subst hX
  exact zlen_any B v1 m1 v2 m2 pf pr sf sr w hf hr c0 c2

/-- append(v, sv...) where there is room, at a step of a region that draws its order. -/
theorem step_append_row {P : Program} {w : World} {ops : Array Oper} {o : Oper} {a : Act} {K : Act → World → Prop} {Q : Exit → Act → World → Prop} {E : Prop} (hgd : o.guard = none) (s x : Operand) (t : TypeId)
    (ho : o.op = .call { callee := .builtin .append, args := #[s, x], argTypes := #[t, t] })
    (base : Nat) (e : TypeId) (i : TypeInfo) (ht : P.underlying t = some (.slice e)) (hi : P.info? e = some i) (hsz : i.size = 1)
    (g n cap : Nat) (xs : List Value) (hs : a.eval s = .slice (some ⟨g, 0, none⟩) n cap) (hown : w.ownsRow base e 1 (.slice (some ⟨g, 0, none⟩) n cap) n xs) (sv : Value) (m : Nat) (news : List Value) (hx : a.eval x = sv) (hN : News w sv m news) (hroom : n + m ≤ cap)
    (h : ∀ w', w'.ownsRow base e 1 (.slice (some ⟨g, 0, none⟩) (n + m) cap) (n + m) (xs ++ news) → w.grownBy w' (some g) → K (a.put o.dst (.slice (some ⟨g, 0, none⟩) (n + m) cap)) w') : if Region.wanted o (yielded ops a.tmps) = true then Oper.wp P o a w K Q else E := by
  have hw : Region.wanted o (yielded ops a.tmps) = true := by simp [Region.wanted, hgd]
  rw [if_pos hw]
  rcases hN with ⟨rfl, rfl, rfl⟩ | ⟨ad, c, rfl, hl, hc, h1⟩
  · have hrun := run_append_owned_none (P := P) (w := w) base t o.type e i 1 ht hi _ n xs hown
    unfold Oper.wp execOp
    simp only [ho, resolve, invoke, builtin, Sem.run_bind, Sem.run_pure, Result.andThen_ok, List.map_toArray, List.map_cons, List.map_nil, hs, hx, hrun]
    exact h w (by simpa using hown) ⟨rfl, rfl, rfl, Nat.le_refl _, fun _ _ _ => rfl⟩
  · obtain ⟨w', hrun, h2, h3⟩ := run_append_fits (P := P) w base t o.type e i 1 ht hi hsz g n cap xs hown ad m c news (by omega) hc h1 hroom
    unfold Oper.wp execOp
    simp only [ho, resolve, invoke, builtin, Sem.run_bind, Sem.run_pure, Result.andThen_ok, List.map_toArray, List.map_cons, List.map_nil, hs, hx, hrun]
    exact h w' h2 h3

set_option maxRecDepth 100000 in
theorem law4_early (a0 : Option Addr) (l0 c0 : Nat) (a1 : Option Addr) (l1 c1 : Nat) (a2 : Option Addr) (l2 c2 : Nat) (a3 : Option Addr) (l3 c3 : Nat) (w : World) (h0 : l0 ≤ maxLen) (h1 : l1 ≤ maxLen) (h2 : l2 ≤ maxLen) (h3 : l3 ≤ maxLen)
    (hne : 131072 < l0 ∨ 131072 < l1 ∨ 131072 < l2 ∨ 131072 < l3 ∨ 131072 < l0 + l1 + l2 + l3) :
    Calls Try.prog 4 #[.slice a0 l0 c0, .slice a1 l1 c1, .slice a2 l2 c2, .slice a3 l3 c3] w fun e w' => e = .returned (.bool true) ∧ Below w.heap.size w w' := by
  have HBY : Hid _ := bytes4_any a0 l0 c0 a1 l1 c1 a2 l2 c2 a3 l3 c3 w h0 h1 h2 h3
  unfold maxLen at h0 h1 h2 h3
  go_enter Try.func4, Try.ntmps4
  go_wp2_with fail
  refine Calls.mono HBY.out ?_
  rintro e w' ⟨⟨ok, rfl⟩, rfl⟩
  clear HBY
  go_wp2_with fail
  all_goals (go_ret; exact ⟨rfl, Below.refl _ _⟩)

set_option maxHeartbeats 8000000 in
set_option maxRecDepth 100000 in
theorem law4_main (a0 : Option Addr) (l0 c0 : Nat) (a1 : Option Addr) (l1 c1 : Nat) (a2 : Option Addr) (l2 c2 : Nat) (a3 : Option Addr) (l3 c3 : Nat) (Hf Pf Hr Pr : Nat → Int) (w : World)
    (r0 : NumRow .u64 w a0 l0 Hf) (r1 : NumRow .i64 w a1 l1 Pf) (r2 : NumRow .u64 w a2 l2 Hr) (r3 : NumRow .i64 w a3 l3 Pr) (s0 : Shp a0 l0 c0) (s1 : Shp a1 l1 c1) (s2 : Shp a2 l2 c2) (s3 : Shp a3 l3 c3) (hsum : l0 + l1 + l2 + l3 ≤ 131072) :
    Calls Try.prog 4 #[.slice a0 l0 c0, .slice a1 l1 c1, .slice a2 l2 c2, .slice a3 l3 c3] w fun e w' => e = .returned (.bool true) ∧ Below w.heap.size w w' := by
  obtain ⟨nf, hnf⟩ : ∃ nf, min l0 l1 = nf := ⟨_, rfl⟩
  obtain ⟨nr, hnr⟩ : ∃ nr, min l2 l3 = nr := ⟨_, rfl⟩
  have HBY : Hid _ := bytes4_any a0 l0 c0 a1 l1 c1 a2 l2 c2 a3 l3 c3 w r0.le r1.le r2.le r3.le
  have HM1 : Hid _ := min_nat l0 l1 nf w hnf
  have HM2 : Hid _ := min_nat l2 l3 nr w hnr
  have HH1 : Hid _ := half_any a0 l0 c0 a1 l1 c1 nf Hf Pf w r0 r1 (by omega) (by omega) (by omega)
  have hnf0 : nf ≤ l0 := by omega
  have hnf1 : nf ≤ l1 := by omega
  have hnr0 : nr ≤ l2 := by omega
  have hnr1 : nr ≤ l3 := by omega
  have R0 : Hid _ := r0
  have R1 : Hid _ := r1
  have R2 : Hid _ := r2
  have R3 : Hid _ := r3
  have hc0 : l0 ≤ c0 := by rcases s0 with ⟨_, h, h'⟩ | ⟨_, _, h⟩ <;> omega
  have hc1 : l1 ≤ c1 := by rcases s1 with ⟨_, h, h'⟩ | ⟨_, _, h⟩ <;> omega
  have hc2 : l2 ≤ c2 := by rcases s2 with ⟨_, h, h'⟩ | ⟨_, _, h⟩ <;> omega
  have hc3 : l3 ≤ c3 := by rcases s3 with ⟨_, h, h'⟩ | ⟨_, _, h⟩ <;> omega
  have S0 : Hid (Shp a0 l0 c0) := s0
  have S1 : Hid (Shp a1 l1 c1) := s1
  have S2 : Hid (Shp a2 l2 c2) := s2
  have S3 : Hid (Shp a3 l3 c3) := s3
  obtain ⟨T, hT⟩ : ∃ T, nf + nr = T := ⟨_, rfl⟩
  have hTi : (nf : Int) + (nr : Int) = (T : Int) := by omega
  have hTb : T ≤ 131072 := by omega
  have HT : Hid (nf + nr = T) := hT
  obtain ⟨i24, hi24, hz24, hs24, hb24⟩ := info_parts info24
  obtain ⟨i2, hi2, hz2, hs2, hb2⟩ := info_parts info2
  have Hi24 : Hid _ := hi24
  have Hz24 : Hid _ := hz24
  have Hs24 : Hid _ := hs24
  have Hi2 : Hid _ := hi2
  have Hz2 : Hid _ := hz2
  have Hs2 : Hid _ := hs2
  clear hnf hnr r0 r1 r2 r3 s0 s1 s2 s3 hT hi24 hz24 hs24 hi2 hz2 hs2
  go_enter Try.func4, Try.ntmps4
  go_wp2_with fail
  refine Calls.mono HBY.out ?_
  rintro e w' ⟨⟨ok, rfl⟩, rfl⟩
  clear HBY
  cases ok
  · go_wp2
    go_ret
    exact ⟨rfl, Below.refl _ _⟩
  · go_wp2_with fail
    refine Calls.mono HM1.out ?_
    rintro e w' ⟨rfl, rfl⟩
    go_wp2_with fail
    refine Calls.mono HM2.out ?_
    rintro e w' ⟨rfl, rfl⟩
    go_wp2_with fail
    refine Calls.mono HH1.out ?_
    rintro e wa ⟨v1, m1, rfl, hhf, hba⟩
    have HH2 : Hid _ := half_any a2 l2 c2 a3 l3 c3 nr Hr Pr wa (R2.out.kept hba) (R3.out.kept hba) (by omega) (by omega) (by omega)
    have HHF : Hid (Half wa v1 m1 (occ Hf Pf nf) (nd Hf nf)) := hhf
    clear hhf HM1 HM2 HH1
    go_wp2_with fail
    refine Calls.mono HH2.out ?_
    rintro e wb ⟨v2, m2, rfl, hhr, hbb⟩
    have HF2 : Hid (Half wb v1 m1 (occ Hf Pf nf) (nd Hf nf)) := HHF.out.kept hbb
    have HR2 : Hid (Half wb v2 m2 (occ Hr Pr nr) (nd Hr nr)) := hhr
    have HAB : Hid (Below w.heap.size w wb) := hba.trans (hbb.mono hba.size)
    have hsz : w.heap.size ≤ wb.heap.size := HAB.out.size
    clear HHF hhr HH2 hba hbb
    obtain ⟨G, hG⟩ : ∃ G, wb.heap.size = G := ⟨_, rfl⟩
    go_upto_region 12 with (at_make; refine wpList_make_own _ rfl _ _ 22 rfl G 24 i24 _ 1 Try.underlying22 Hi24.out Hz24.out Hs24.out _ _ _ T rfl rfl (by omega) (by rw [hb24]; omega) (by unfold maxLen; omega) (by omega) ?_; intro w1 hown1 hgrow1)
    have hG1 : G < w1.heap.size := by obtain ⟨g, cap, cur, e, _, hg, _⟩ := hown1.2.resolve_left (fun h => by simp at h); simp only [Value.slice.injEq, Option.some.injEq, Addr.mk.injEq, and_true, true_and] at e; rw [hG] at e; rw [e.1]; exact (Array.getElem?_eq_some_iff.1 hg).1
    rw [hG] at hown1
    have HO1 : Hid (w1.ownsRow G 24 1 (.slice (some ⟨G, 0, none⟩) 0 T) 0 []) := hown1
    have HB1 : Hid (Below G wb w1) := by rw [← hG]; exact (Below.refl _ _).grown hgrow1 (by omega) (fun j hj => by cases hj)
    clear hown1 hgrow1
    obtain ⟨G2, hG2⟩ : ∃ G2, w1.heap.size = G2 := ⟨_, rfl⟩
    go_upto_region 13 with (at_make; refine wpList_make_own _ rfl _ _ 23 rfl G2 2 i2 _ 1 Try.underlying23 Hi2.out Hz2.out Hs2.out _ _ _ T rfl rfl (by omega) (by rw [hb2]; omega) (by unfold maxLen; omega) (by omega) ?_; intro w2 hown2 hgrow2)
    rw [hG2] at hown2
    have HO2 : Hid (w2.ownsRow G2 2 1 (.slice (some ⟨G2, 0, none⟩) 0 T) 0 []) := hown2
    have HO1' : Hid (w2.ownsRow G 24 1 (.slice (some ⟨G, 0, none⟩) 0 T) 0 []) := HO1.out.kept hgrow2 (.inr (by simp [Value.ownBlock]))
    have HB2 : Hid (Below G wb w2) := HB1.out.grown hgrow2 (by omega) (fun j hj => by cases hj)
    have hG12 : G < G2 := by omega
    have hG3 : G2 ≤ w2.heap.size := by have := hgrow2.size; omega
    clear hown2 hgrow2 HO1 HB1 hG1 hG2
    have hz0 : (0 : Int) ≤ (nf : Int) := by omega
    have hz1 : (0 : Int) ≤ (nr : Int) := by omega
    have hy0 : (nf : Int) ≤ (c0 : Int) := by omega
    have hy1 : (nf : Int) ≤ (c1 : Int) := by omega
    have hy2 : (nr : Int) ≤ (c2 : Int) := by omega
    have hy3 : (nr : Int) ≤ (c3 : Int) := by omega
    go_cut [15] (fun v wx => v = .slice (some ⟨G, 0, none⟩) T T ∧ wx.ownsRow G 24 1 (.slice (some ⟨G, 0, none⟩) T T) T (firsts .u64 Hf nf ++ firsts .u64 Hr nr) ∧ w2.grownBy wx (some G))
    case first =>
      have HN0 : Hid (∀ wx, Below G wb wx → News wx (.slice a0 nf c0) nf (firsts .u64 Hf nf)) := fun wx hb => News.of (R0.out.kept (HAB.out.trans (hb.mono (by omega)))) S0.out (by omega)
      have HN2 : Hid (∀ wx, Below G wb wx → News wx (.slice a2 nr c2) nr (firsts .u64 Hr nr)) := fun wx hb => News.of (R2.out.kept (HAB.out.trans (hb.mono (by omega)))) S2.out (by omega)
      have hm0 : Option.map (fun x : Addr => x.add 0) a0 = a0 := by cases a0 <;> simp [Addr.add]
      have hm2 : Option.map (fun x : Addr => x.add 0) a2 = a2 := by cases a2 <;> simp [Addr.add]
      clear S0 S1 S2 S3 R0 R1 R2 R3
      go_region_held3 (fun _ => True) (trivial)
        (first
          | (refine step_append_row (by rfl) (.tmp 98) (.tmp 101) 22 (by rfl) G 24 i24 Try.underlying22 Hi24.out Hs24.out G 0 T [] (by rfl) HO1'.out.drew (.slice a0 nf c0) nf (firsts .u64 Hf nf) (by rfl) (HN0.out _ HB2.out.drew) (by omega) ?_; intro wp hwp hgp)
          | (refine step_append_row (by rfl) (.tmp 102) (.tmp 105) 22 (by rfl) G 24 i24 Try.underlying22 Hi24.out Hs24.out G (0 + nf) T _ (by rfl) hwp (.slice a2 nr c2) nr (firsts .u64 Hr nr) (by rfl) (HN2.out _ (HB2.out.drew.grown hgp (by show G ≤ w2.heap.size; omega) (fun j hj => by cases hj; omega))) (by omega) ?_; intro wq hwq hgq))
      have HWQ : Hid (wq.ownsRow G 24 1 (.slice (some ⟨G, 0, none⟩) T T) T (firsts .u64 Hf nf ++ firsts .u64 Hr nr)) := row_eq HT.out hwq
      have HGQ : Hid _ := hgq
      have HGP : Hid _ := hgp
      clear hwq hgq hgp hwp
      go_wp2_with fail
      go_meet
      exact ⟨by rw [HT.out], HWQ.out, (grown_of_drew HGP.out).trans HGQ.out⟩
    case rest =>
      rename World => w3
      obtain ⟨rfl, ho3, hg3⟩ := hcut
      have HO3 : Hid (w3.ownsRow G 24 1 (.slice (some ⟨G, 0, none⟩) T T) T (firsts .u64 Hf nf ++ firsts .u64 Hr nr)) := ho3
      have HO2' : Hid (w3.ownsRow G2 2 1 (.slice (some ⟨G2, 0, none⟩) 0 T) 0 []) := HO2.out.kept hg3 (.inr (by simp [Value.ownBlock]; omega))
      have HB3 : Hid (Below G wb w3) := HB2.out.grown hg3 (by omega) (fun j hj => by cases hj; omega)
      have hG4 : G2 ≤ w3.heap.size := by have := hg3.size; omega
      clear ho3 hg3 HO2 HO1' HB2
      go_upto_region 14 with fail
      go_cut [16] (fun v wx => v = .slice (some ⟨G2, 0, none⟩) T T ∧ wx.ownsRow G2 2 1 (.slice (some ⟨G2, 0, none⟩) T T) T (firsts .i64 Pf nf ++ firsts .i64 Pr nr) ∧ w3.grownBy wx (some G2))
      case first =>
        have HN0 : Hid (∀ wx, Below G wb wx → News wx (.slice a1 nf c1) nf (firsts .i64 Pf nf)) := fun wx hb => News.of (R1.out.kept (HAB.out.trans (hb.mono (by omega)))) S1.out (by omega)
        have HN2 : Hid (∀ wx, Below G wb wx → News wx (.slice a3 nr c3) nr (firsts .i64 Pr nr)) := fun wx hb => News.of (R3.out.kept (HAB.out.trans (hb.mono (by omega)))) S3.out (by omega)
        have hm0 : Option.map (fun x : Addr => x.add 0) a1 = a1 := by cases a1 <;> simp [Addr.add]
        have hm2 : Option.map (fun x : Addr => x.add 0) a3 = a3 := by cases a3 <;> simp [Addr.add]
        clear S0 S1 S2 S3 R0 R1 R2 R3
        go_region_held3 (fun _ => True) (trivial)
          (first
            | (refine step_append_row (by rfl) (.tmp 107) (.tmp 110) 23 (by rfl) G2 2 i2 Try.underlying23 Hi2.out Hs2.out G2 0 T [] (by rfl) HO2'.out.drew (.slice a1 nf c1) nf (firsts .i64 Pf nf) (by rfl) (HN0.out _ HB3.out.drew) (by omega) ?_; intro wp hwp hgp)
            | (refine step_append_row (by rfl) (.tmp 111) (.tmp 114) 23 (by rfl) G2 2 i2 Try.underlying23 Hi2.out Hs2.out G2 (0 + nf) T _ (by rfl) hwp (.slice a3 nr c3) nr (firsts .i64 Pr nr) (by rfl) (HN2.out _ (HB3.out.drew.grown hgp (by show G ≤ w3.heap.size; omega) (fun j hj => by cases hj; omega))) (by omega) ?_; intro wq hwq hgq))
        have HWQ : Hid (wq.ownsRow G2 2 1 (.slice (some ⟨G2, 0, none⟩) T T) T (firsts .i64 Pf nf ++ firsts .i64 Pr nr)) := row_eq HT.out hwq
        have HGQ : Hid _ := hgq
        have HGP : Hid _ := hgp
        clear hwq hgq hgp hwp
        go_wp2_with fail
        go_meet
        exact ⟨by rw [HT.out], HWQ.out, (grown_of_drew HGP.out).trans HGQ.out⟩
      case rest =>
        rename World => w4
        obtain ⟨rfl, ho4, hg4⟩ := hcut
        have HO4 : Hid (w4.ownsRow G 24 1 (.slice (some ⟨G, 0, none⟩) T T) T (firsts .u64 Hf nf ++ firsts .u64 Hr nr)) := HO3.out.kept hg4 (.inr (by simp [Value.ownBlock]; omega))
        have HP4 : Hid (w4.ownsRow G2 2 1 (.slice (some ⟨G2, 0, none⟩) T T) T (firsts .i64 Pf nf ++ firsts .i64 Pr nr)) := ho4
        have HB4 : Hid (Below G wb w4) := HB3.out.grown hg4 (by omega) (fun j hj => by cases hj; omega)
        clear ho4 hg4 HO3 HO2' HB3
        clear hz0 hz1 hy0 hy1 hy2 hy3
        have NC : Hid (NumRow .u64 w4 (some ⟨G, 0, none⟩) T (chain Hf Hr nf)) := num_chain HT.out HO4.out (by omega) (fun i hi => R0.out.wf i (by omega)) (fun i hi => R2.out.wf i (by omega))
        have NP : Hid (NumRow .i64 w4 (some ⟨G2, 0, none⟩) T (chain Pf Pr nf)) := num_chain HT.out HP4.out (by omega) (fun i hi => R1.out.wf i (by omega)) (fun i hi => R3.out.wf i (by omega))
        have HH3 : Hid _ := half_any (some ⟨G, 0, none⟩) T T (some ⟨G2, 0, none⟩) T T T (chain Hf Hr nf) (chain Pf Pr nf) w4 NC.out NP.out (by omega) (by omega) (by omega)
        go_wp2_with fail
        refine Calls.mono HH3.out ?_
        rintro e wd ⟨v3, m3, rfl, hh3, hbd⟩
        have HBD : Hid (Below G wb wd) := HB4.out.trans (hbd.mono (by have := HB4.out.size; omega))
        have HF5 : Hid (Half wd v1 m1 (occ Hf Pf nf) (nd Hf nf)) := HF2.out.kept (by rw [hG]; exact HBD.out)
        have HR5 : Hid (Half wd v2 m2 (occ Hr Pr nr) (nd Hr nr)) := HR2.out.kept (by rw [hG]; exact HBD.out)
        have HC5 : Hid (Half wd v3 m3 (occ (chain Hf Hr nf) (chain Pf Pr nf) T) (nd (chain Hf Hr nf) T)) := hh3
        have NC5 : Hid (NumRow .u64 wd (some ⟨G, 0, none⟩) T (chain Hf Hr nf)) := NC.out.kept hbd
        have R05 : Hid (NumRow .u64 wd a0 l0 Hf) := R0.out.kept (HAB.out.trans (HBD.out.mono (by omega)))
        have R25 : Hid (NumRow .u64 wd a2 l2 Hr) := R2.out.kept (HAB.out.trans (HBD.out.mono (by omega)))
        have HWD : Hid (Below w.heap.size w wd) := HAB.out.trans (HBD.out.mono (by omega))
        have hszd : w.heap.size ≤ wd.heap.size := HWD.out.size
        clear hh3 hbd HB4 HF2 HR2 NC NP HH3 HO4 HP4 R0 R1 R2 R3 S0 S1 S2 S3 HAB HBD
        have hmm := @run_makeMap Try.prog
        obtain ⟨B1, hB1⟩ : ∃ B1, wd.heap.size = B1 := ⟨_, rfl⟩
        have HS0 : Hid (SetAt (wd.alloc (.map #[] 0)) B1 0 (seen Hr 0)) := SetAt.start wd B1 hB1
        have HL0 : Hid (Below B1 wd (wd.alloc (.map #[] 0))) := by rw [← hB1]; exact (Below.refl _ _).alloc (Nat.le_refl _) _
        go_upto_block 0 with fail
        go_cut [20] (fun i wx => SetAt wx B1 nr (seen Hr nr) ∧ Below B1 wd wx)
        case first =>
          by_cases h00 : nr = 0
          · subst h00
            go_wp2_with fail
            refine wp_loop_rounds 1 ?_
            rw [rounds_succ]
            go_wp2
            go_meet
            exact ⟨HS0.out, HL0.out⟩
          · obtain ⟨bh, oh, ea, hbh, hch⟩ := R25.out.pos (by omega)
            have hwf := R25.out.wf
            have EA : Hid _ := ea
            clear ea
            obtain rfl := EA.out
            clear EA
            go_wp2_with fail
            go_loopw [20] (fun i wx => ∃ q : Nat, q ≤ nr ∧ i = .int .i64 q ∧ SetAt wx B1 q (seen Hr q) ∧ Below B1 wd wx) (fun i _ => nr - (intOf i).toNat)
            case atStart => exact ⟨0, Nat.zero_le _, rfl, HS0.out, HL0.out⟩
            case round =>
              obtain ⟨q, hq, rfl, hset, hbx⟩ := hrel
              by_cases hlt : q < nr
              · have hcx : wr.cell? ⟨bh, oh + q, none⟩ = some (.int .u64 (Hr q)) := (hbx.cell (by show bh < _; omega)).trans (hch q (by omega))
                have hwx := hwf q (by omega)
                obtain ⟨x, hx⟩ : ∃ x, Hr q = x := ⟨_, rfl⟩
                rw [hx] at hcx hwx
                have HX : Hid (Hr q = x) := hx
                have HB : Hid (Below B1 wd wr) := hbx
                have hws : B1 ≤ wr.heap.size := by have := hbx.size; omega
                obtain ⟨D, hD1, hD2⟩ := hset
                have HD1 : Hid _ := hD1
                have HD2 : Hid _ := hD2
                clear hx hbx hD1 hD2 hch hwf
                go_wp2_with (first
                  | (at_mapUpdate; refine wpList_mapUpdate_own _ rfl _ _ _ 35 rfl 24 4 law Try.underlying35 _ B1 q _ rfl HD1.out (by unfold maxLen; omega) _ _ _ rfl rfl (key_of hwx) _ [] (plainElem_bool Try.underlying4 true) ?_; intro wn hown1 hgrow1)
                  | go_in)
                go_roundw
                case rel => exact ⟨q + 1, by omega, by go_num, (SetAt.put HD1.out HD2.out hown1).as (seen_next HX.out), HB.out.grown hgrow1 hws (fun j hj => by cases hj; exact Nat.le_refl _)⟩
                case measure => simp [intOf]; omega
              · have hqn : nr = q := by omega
                subst hqn
                have HB : Hid (Below B1 wd wr) := hbx
                have HS : Hid (SetAt wr B1 nr (seen Hr nr)) := hset
                clear hset hbx hlt hch hwf
                go_wp2
                go_meet
                exact ⟨HS.out, HB.out⟩
        case rest =>
          rename World => we
          obtain ⟨hs1, hb1⟩ := hcut
          have HS1 : Hid (SetAt we B1 nr (seen Hr nr)) := hs1
          have HB1 : Hid (Below B1 wd we) := hb1
          have hsze : B1 < we.heap.size := hs1.lt
          clear hs1 hb1 HS0 HL0
          obtain ⟨B2, hB2⟩ : ∃ B2, we.heap.size = B2 := ⟨_, rfl⟩
          have hB12 : B1 < B2 := by omega
          have HS0 : Hid (SetAt (we.alloc (.map #[] 0)) B2 0 (seen Hf 0)) := SetAt.start we B2 hB2
          have HS10 : Hid (SetAt (we.alloc (.map #[] 0)) B1 nr (seen Hr nr)) := HS1.out.kept (World.grownBy_alloc we _ none) (by simp)
          have HL0 : Hid (Below B1 wd (we.alloc (.map #[] 0))) := HB1.out.alloc (by omega) _
          clear HS1 HB1
          go_upto_block 2 with fail
          go_cut [22] (fun c wx => c = .int .i64 (both Hf Hr nr nf) ∧ Below B1 wd wx)
          case first =>
            by_cases h00 : nf = 0
            · subst h00
              go_wp2_with fail
              refine wp_loop_rounds 1 ?_
              rw [rounds_succ]
              go_wp2
              go_meet
              exact ⟨rfl, HL0.out⟩
            · obtain ⟨bh, oh, ea, hbh, hch⟩ := R05.out.pos (by omega)
              have hwf := R05.out.wf
              have EA : Hid _ := ea
              clear ea
              obtain rfl := EA.out
              clear EA
              go_wp2_with fail
              go_loopw [22, 23] (fun c i wx => ∃ q : Nat, q ≤ nf ∧ i = .int .i64 q ∧ c = .int .i64 (both Hf Hr nr q) ∧ SetAt wx B1 nr (seen Hr nr) ∧ SetAt wx B2 q (seen Hf q) ∧ Below B1 wd wx) (fun _ i _ => nf - (intOf i).toNat)
              case atStart => exact ⟨0, Nat.zero_le _, rfl, rfl, HS10.out, HS0.out, HL0.out⟩
              case round =>
                obtain ⟨q, hq, rfl, rfl, hset1, hset, hbx⟩ := hrel
                have hbq := both_le Hf Hr nr q
                obtain ⟨c, hc⟩ : ∃ c, both Hf Hr nr q = c := ⟨_, rfl⟩
                have HC : Hid (both Hf Hr nr q = c) := hc
                rw [hc] at hbq ⊢
                clear hc
                by_cases hlt : q < nf
                · have hcx : wr.cell? ⟨bh, oh + q, none⟩ = some (.int .u64 (Hf q)) := (hbx.cell (by show bh < _; omega)).trans (hch q (by omega))
                  have hwx := hwf q (by omega)
                  obtain ⟨x, hx⟩ : ∃ x, Hf q = x := ⟨_, rfl⟩
                  rw [hx] at hcx hwx
                  have HX : Hid (Hf q = x) := hx
                  have HB : Hid (Below B1 wd wr) := hbx
                  have hws : B1 ≤ wr.heap.size := by have := hbx.size; omega
                  have hl := hset.look hwx
                  obtain ⟨sb, hsb⟩ : ∃ sb, seen Hf q x = sb := ⟨_, rfl⟩
                  rw [hsb] at hl
                  have HSB : Hid (seen Hf q x = sb) := hsb
                  have HS : Hid (SetAt wr B2 q (seen Hf q)) := hset
                  have HS1 : Hid (SetAt wr B1 nr (seen Hr nr)) := hset1
                  clear hx hbx hsb hset hset1 hch hwf
                  cases sb with
                  | true =>
                    go_wp2
                    go_roundw
                    case rel => exact ⟨q + 1, by omega, by go_num, by rw [both_old2 HX.out HSB.out, HC.out], HS1.out, SetAt.mono (SetAt.as HS.out (seen_again HX.out HSB.out)) (Nat.le_succ _), HB.out⟩
                    case measure => simp [intOf]; omega
                  | false =>
                    obtain ⟨D, hD1, hD2⟩ := HS.out
                    have HD1 : Hid _ := hD1
                    have HD2 : Hid _ := hD2
                    clear hD1 hD2
                    obtain ⟨sr, hsr⟩ : ∃ sr, seen Hr nr x = sr := ⟨_, rfl⟩
                    have HSR : Hid (seen Hr nr x = sr) := hsr
                    clear hsr
                    have hl2 : ∀ wn : World, wr.grownBy wn (some B2) → (Instr.lookup 35 (.map (some B1)) (.int .u64 x) false).run Try.prog wn = .ok (.bool sr) wn := fun wn hg => by
                      have h9 := (HS1.out.kept hg (by simp; omega)).look hwx
                      rw [HSR.out] at h9
                      exact h9
                    have HL2 : Hid _ := hl2
                    clear hl2
                    cases sr with
                    | true =>
                      go_wp2_with (first
                        | (at_mapUpdate; refine wpList_mapUpdate_own _ rfl _ _ _ 35 rfl 24 4 law Try.underlying35 _ B2 q _ rfl HD1.out (by unfold maxLen; omega) _ _ _ rfl rfl (key_of hwx) _ [] (plainElem_bool Try.underlying4 true) ?_; intro wn hown1 hgrow1; have hl3 := HL2.out wn hgrow1)
                        | go_in)
                      go_roundw
                      case rel => exact ⟨q + 1, by omega, by go_num, by rw [both_hit2 HX.out HSB.out HSR.out, HC.out]; go_num, HS1.out.kept hgrow1 (by simp; omega), (SetAt.put HD1.out HD2.out hown1).as (seen_next HX.out), HB.out.grown hgrow1 hws (fun j hj => by cases hj; omega)⟩
                      case measure => simp [intOf]; omega
                    | false =>
                      go_wp2_with (first
                        | (at_mapUpdate; refine wpList_mapUpdate_own _ rfl _ _ _ 35 rfl 24 4 law Try.underlying35 _ B2 q _ rfl HD1.out (by unfold maxLen; omega) _ _ _ rfl rfl (key_of hwx) _ [] (plainElem_bool Try.underlying4 true) ?_; intro wn hown1 hgrow1; have hl3 := HL2.out wn hgrow1)
                        | go_in)
                      go_roundw
                      case rel => exact ⟨q + 1, by omega, by go_num, by rw [both_miss2 HX.out HSR.out, HC.out], HS1.out.kept hgrow1 (by simp; omega), (SetAt.put HD1.out HD2.out hown1).as (seen_next HX.out), HB.out.grown hgrow1 hws (fun j hj => by cases hj; omega)⟩
                      case measure => simp [intOf]; omega
                · have hqn : nf = q := by omega
                  subst hqn
                  have HB : Hid (Below B1 wd wr) := hbx
                  clear hset hset1 hbx hlt hch hwf
                  go_wp2
                  go_meet
                  exact ⟨by rw [HC.out], HB.out⟩
          case rest =>
            rename World => wf
            obtain ⟨rfl, hb2⟩ := hcut
            have HBF : Hid (Below B1 wd wf) := hb2
            clear hb2 HS0 HS10 HL0
            have hbo := both_le Hf Hr nr nf
            have hp := plain Hf Hr nf nr
            have hlf := (HF5.out.len 0).2
            have hlr := (HR5.out.len 0).2
            rw [HT.out] at hp
            have HF6 : Hid (∀ wx, Below B1 wd wx → Half wx v1 m1 (occ Hf Pf nf) (nd Hf nf)) := fun wx hb => HF5.out.kept (by rw [hB1]; exact hb)
            have HR6 : Hid (∀ wx, Below B1 wd wx → Half wx v2 m2 (occ Hr Pr nr) (nd Hr nr)) := fun wx hb => HR5.out.kept (by rw [hB1]; exact hb)
            have HC6 : Hid (∀ wx, Below B1 wd wx → Half wx v3 m3 (occ (chain Hf Hr nf) (chain Pf Pr nf) T) (nd (chain Hf Hr nf) T)) := fun wx hb => HC5.out.kept (by rw [hB1]; exact hb)
            have HDI : Hid _ := distinct_any (some ⟨G, 0, none⟩) T T T (chain Hf Hr nf) wf (NC5.out.kept (by rw [hB1]; exact HBF.out)) (by omega) (by omega)
            clear HF5 HR5 HC5 NC5 R05 R25
            obtain ⟨sF, hsF⟩ : ∃ x, nd Hf nf = x := ⟨_, rfl⟩
            obtain ⟨sR, hsR⟩ : ∃ x, nd Hr nr = x := ⟨_, rfl⟩
            obtain ⟨sC, hsC⟩ : ∃ x, nd (chain Hf Hr nf) T = x := ⟨_, rfl⟩
            obtain ⟨bo, hsb⟩ : ∃ x, both Hf Hr nr nf = x := ⟨_, rfl⟩
            rw [hsF] at HF6 hlf hp
            rw [hsR] at HR6 hlr hp
            rw [hsC] at HC6 hp HDI
            rw [hsb] at hp hbo ⊢
            clear hsF hsR hsC hsb
            obtain ⟨X, hX⟩ : ∃ X, sF + sR = X := ⟨_, rfl⟩
            have hsum2 : (sC : Int) + (bo : Int) = (X : Int) := by omega
            have hXb : X ≤ 300000 := by omega
            have HX1 : Hid (sF + sR = X) := hX
            have HX2 : Hid (sR + sF = X) := by show _ = _; omega
            clear hX hp
            have hszf : B1 ≤ wf.heap.size := by have := HBF.out.size; omega
            go_wp2_with fail
            refine Calls.mono HDI.out ?_
            rintro e wg ⟨rfl, hbg⟩
            have HBG : Hid (Below B1 wd wg) := HBF.out.trans (hbg.mono hszf)
            have hszg : B1 ≤ wg.heap.size := by have := HBG.out.size; omega
            clear hbg HBF HDI
            have HN1 : Hid _ := newidx_any v1 m1 v2 m2 (HF6.out _ HBG.out).isMap.1 (HF6.out _ HBG.out).isMap.2 (HR6.out _ HBG.out).isMap.1 (HR6.out _ HBG.out).isMap.2 wg
            have HZ1 : Hid _ := zlen_x wg.heap.size v1 m1 v2 m2 _ _ sF sR X (wg.alloc (.cells #[v1, m1, v2, m2] 43)) HX1.out (HF6.out _ (HBG.out.alloc hszg _)) (HR6.out _ (HBG.out.alloc hszg _)) (by simp) (by simp)
            go_wp2_with fail
            refine Calls.mono HN1.out ?_
            rintro e w' ⟨rfl, rfl⟩
            go_wp2_with fail
            refine Calls.mono HZ1.out ?_
            rintro e wh ⟨rfl, hbh⟩
            have HBH : Hid (Below B1 wd wh) := (HBG.out.alloc hszg _).trans (hbh.mono (by simp; omega))
            have hszh : B1 ≤ wh.heap.size := by have := HBH.out.size; omega
            clear hbh HBG HN1 HZ1
            have HN1 : Hid _ := newidx_any v2 m2 v1 m1 (HR6.out _ HBH.out).isMap.1 (HR6.out _ HBH.out).isMap.2 (HF6.out _ HBH.out).isMap.1 (HF6.out _ HBH.out).isMap.2 wh
            have HZ1 : Hid _ := zlen_x wh.heap.size v2 m2 v1 m1 _ _ sR sF X (wh.alloc (.cells #[v2, m2, v1, m1] 43)) HX2.out (HR6.out _ (HBH.out.alloc hszh _)) (HF6.out _ (HBH.out.alloc hszh _)) (by simp) (by simp)
            go_wp2_with fail
            refine Calls.mono HN1.out ?_
            rintro e w' ⟨rfl, rfl⟩
            go_wp2_with fail
            refine Calls.mono HZ1.out ?_
            rintro e wi ⟨rfl, hbi⟩
            have HBI : Hid (Below B1 wd wi) := (HBH.out.alloc hszh _).trans (hbi.mono (by simp; omega))
            have hszi : B1 ≤ wi.heap.size := by have := HBI.out.size; omega
            clear hbi HBH HN1 HZ1
            have HN1 : Hid _ := newidx_any (.map none) (.map none) v3 m3 ⟨_, rfl⟩ ⟨_, rfl⟩ (HC6.out _ HBI.out).isMap.1 (HC6.out _ HBI.out).isMap.2 wi
            have HZ1 : Hid _ := zlen_x wi.heap.size (.map none) (.map none) v3 m3 (fun _ => []) _ 0 sC sC (wi.alloc (.cells #[.map none, .map none, v3, m3] 43)) (by omega) (.inl ⟨rfl, rfl, fun _ => rfl, rfl⟩) (HC6.out _ (HBI.out.alloc hszi _)) (by simp) (by simp)
            go_wp2_with fail
            refine Calls.mono HN1.out ?_
            rintro e w' ⟨rfl, rfl⟩
            go_wp2_with fail
            refine Calls.mono HZ1.out ?_
            rintro e wj ⟨rfl, hbj⟩
            have HBJ : Hid (Below B1 wd wj) := (HBI.out.alloc hszi _).trans (hbj.mono (by simp; omega))
            clear hbj HBI HN1 HZ1
            go_wp2
            go_ret
            exact ⟨by simp, HWD.out.trans (HBJ.out.mono (by omega))⟩
end Go.Proofs.Qxb6609572a.Index
