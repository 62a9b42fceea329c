/- The law FnIndexPlacesFollowLog (3). -/
import Derived.Test.Qxb6609572aIndexC
namespace Go.Proofs.Qxb6609572a.Index
open Go.RowKit Go.Maps Go.WideElems Go.MapKept Go.ChangeShapes Go.WideShapes

/-- What the walk is told of a slice of numbers that came in. -/
structure NumRow (k : IntKind) (w : World) (a : Option Addr) (len : Nat) (Z : Nat → Int) : Prop where
  le : len ≤ maxLen
  wf : ∀ i, i < len → (Lit.int k (Z i)).wf = true
  pos : 0 < len → ∃ b o, a = some ⟨b, o, none⟩ ∧ b < w.heap.size ∧ ∀ i, i < len → w.cell? ⟨b, o + i, none⟩ = some (.int k (Z i))
theorem NumRow.kept {k : IntKind} {w w' : World} {a : Option Addr} {len : Nat} {Z : Nat → Int} (h : NumRow k w a len Z) (hb : Below w.heap.size w w') : NumRow k w' a len Z :=
  ⟨h.le, h.wf, fun hp => by obtain ⟨b, o, e, h1, h2⟩ := h.pos hp; exact ⟨b, o, e, Nat.lt_of_lt_of_le h1 hb.size, fun i hi => (hb.cell (by exact h1)).trans (h2 i hi)⟩⟩
theorem NumRow.keptB {k : IntKind} {w w' : World} {a : Option Addr} {len n : Nat} {Z : Nat → Int} (h : NumRow k w a len Z) (hb : Below n w w') (hn : w.heap.size ≤ n) : NumRow k w' a len Z := h.kept (hb.mono hn)

theorem min_nat (a b n : Nat) (w : World) (h : min a b = n) : Calls Try.prog 6 #[.int .i64 a, .int .i64 b] w fun e w' => e = .returned (.int .i64 n) ∧ w = w' := by
  go_enter Try.func6, Try.ntmps6
  by_cases h1 : a < b
  · go_wp2
    go_ret
    exact ⟨by rw [show n = a from by omega]; rfl, rfl⟩
  · have h2 : b ≤ a := by omega
    clear h1
    go_wp2
    go_ret
    exact ⟨by rw [show n = b from by omega]; rfl, rfl⟩

theorem bytes_any (a0 : Option Addr) (l0 c0 : Nat) (a1 : Option Addr) (l1 c1 : Nat) (a2 : Option Addr) (l2 c2 : Nat) (a3 : Option Addr) (l3 c3 : Nat) (h : Int) (w : World) (h0 : l0 ≤ maxLen) (h1 : l1 ≤ maxLen) (h2 : l2 ≤ maxLen) (h3 : l3 ≤ maxLen) :
    Calls Try.prog 5 #[.slice a0 l0 c0, .slice a1 l1 c1, .slice a2 l2 c2, .slice a3 l3 c3, .int .u64 h] w fun e w' => (∃ b, e = .returned (.bool b)) ∧ w = w' := by
  unfold maxLen at h0 h1 h2 h3
  go_enter Try.func5, Try.ntmps5
  go_wp2
  all_goals (go_ret; exact ⟨⟨_, rfl⟩, rfl⟩)

/-- zzIndexMaps makes one half. -/
theorem half_any (a1 : Option Addr) (l1 c1 : Nat) (a2 : Option Addr) (l2 c2 n : Nat) (Hs Ps : Nat → Int) (w : World) (hH : NumRow .u64 w a1 l1 Hs) (hP : NumRow .i64 w a2 l2 Ps) (hn : n ≤ 131072) (hn1 : n ≤ l1) (hn2 : n ≤ l2) :
    Calls Try.prog 7 #[.slice a1 l1 c1, .slice a2 l2 c2, .int .i64 n] w fun e w' => ∃ v1 mv, e = .returned (.tuple #[v1, mv]) ∧ Half w' v1 mv (occ Hs Ps n) (nd Hs n) ∧ Below w.heap.size w w' := by
  by_cases h0 : n = 0
  · subst h0
    refine (maps_none a1 l1 c1 a2 l2 c2 w).mono ?_
    rintro e w' ⟨rfl, rfl⟩
    exact ⟨_, _, rfl, .inl ⟨rfl, rfl, fun x => rfl, rfl⟩, Below.refl _ _⟩
  · obtain ⟨b1, o1, rfl, hb1, hc1⟩ := hH.pos (by omega)
    obtain ⟨b2, o2, rfl, hb2, hc2⟩ := hP.pos (by omega)
    refine (maps_any b1 o1 l1 c1 b2 o2 l2 c2 n Hs Ps w (by omega) hn hn1 hn2 (fun i hi => hc1 i (by omega)) hb1 (fun i hi => hH.wf i (by omega)) (fun i hi => hc2 i (by omega)) hb2 (fun i hi => hP.wf i (by omega))).mono ?_
    rintro e w' ⟨b, mv, rfl, _, hm, hb⟩
    exact ⟨_, _, rfl, .inr ⟨b, n, Hs, Ps, rfl, hm, hn, fun x => rfl, rfl⟩, hb⟩
theorem Half.isMap {w : World} {v1 mv : Value} {pl : Int → List Int} {sz : Nat} (h : Half w v1 mv pl sz) : (∃ r, v1 = .map r) ∧ ∃ r, mv = .map r := by
  rcases h with ⟨e1, e2, _⟩ | ⟨b1, k, Hs, Ps, e1, ⟨_, ⟨e2, _⟩ | ⟨b2, D2, e2, _⟩⟩, _⟩ <;> exact ⟨⟨_, e1⟩, ⟨_, e2⟩⟩
theorem occ_wf {Hs Ps : Nat → Int} {n : Nat} {x : Int} (h : ∀ i, i < n → (Lit.int .i64 (Ps i)).wf = true) : ∀ p ∈ occ Hs Ps n x, (Lit.int .i64 p).wf = true := by
  induction n with
  | zero => simp [occ]
  | succ n ih =>
    intro p hp
    simp only [occ, List.mem_append] at hp
    rcases hp with hp | hp
    · exact ih (fun i hi => h i (by omega)) p hp
    · split at hp
      · simp at hp; subst hp; exact h n (by omega)
      · simp at hp

theorem occ_at (Hs Ps : Nat → Int) (n i : Nat) (x : Int) (hi : i < n) (h : Hs i = x) : (occ Hs Ps n x)[(occ Hs Ps i x).length]? = some (Ps i) := by
  induction n with
  | zero => omega
  | succ n ih =>
    by_cases e : i = n
    · subst e; rw [occ_hit h]; simp
    · have := ih (by omega)
      simp only [occ]
      obtain ⟨hlt, _⟩ := List.getElem?_eq_some_iff.1 this
      rw [List.getElem?_append_left hlt]
      exact this
theorem occ_lt (Hs Ps : Nat → Int) (n i : Nat) (x : Int) (hi : i < n) (h : Hs i = x) : (occ Hs Ps i x).length < (occ Hs Ps n x).length := (List.getElem?_eq_some_iff.1 (occ_at Hs Ps n i x hi h)).1
/-- What a value looks like that owns T numbers. -/
theorem row_form {w : World} {base T : Nat} {v : Value} {zs : List Int} (h : w.ownsRow base 2 1 v T (zs.map (Value.int .i64))) :
    ∃ ao cap, v = .slice ao T cap ∧ (0 < T → ∃ g, ao = some ⟨g, 0, none⟩ ∧ g < w.heap.size ∧ ∀ (j : Nat) (p : Int), zs[j]? = some p → w.cell? ⟨g, j, none⟩ = some (.int .i64 p)) := by
  have h' := h
  rcases h.2 with ⟨rfl, rfl⟩ | ⟨g, cap, cur, rfl, hgb, hgh, _⟩
  · exact ⟨none, 0, rfl, fun h => by omega⟩
  · refine ⟨_, cap, rfl, fun _ => ⟨g, rfl, (Array.getElem?_eq_some_iff.1 hgh).1, fun j p hp => ?_⟩⟩
    have := h'.cells (g := g) rfl j (.int .i64 p) (by simp [hp])
    rw [add_plain, Nat.zero_add] at this
    exact this

set_option maxRecDepth 100000 in
theorem law3_early (a0 : Option Addr) (l0 c0 : Nat) (a1 : Option Addr) (l1 c1 : Nat) (a2 : Option Addr) (l2 c2 : Nat) (a3 : Option Addr) (l3 c3 : Nat) (h : Int) (w : World) (h0 : l0 ≤ maxLen) (h1 : l1 ≤ maxLen) (h2 : l2 ≤ maxLen) (h3 : l3 ≤ maxLen)
    (hne : 131072 < l0 ∨ 131072 < l1 ∨ 131072 < l2 ∨ 131072 < l3 ∨ 131072 < l0 + l1 + l2 + l3) :
    Calls Try.prog 3 #[.slice a0 l0 c0, .slice a1 l1 c1, .slice a2 l2 c2, .slice a3 l3 c3, .int .u64 h] w fun e w' => e = .returned (.bool true) ∧ Below w.heap.size w w' := by
  have HBY : Hid _ := bytes_any a0 l0 c0 a1 l1 c1 a2 l2 c2 a3 l3 c3 h w h0 h1 h2 h3
  unfold maxLen at h0 h1 h2 h3
  go_enter Try.func3, Try.ntmps3
  go_wp2_with fail
  refine Calls.mono HBY.out ?_
  rintro e w' ⟨⟨ok, rfl⟩, rfl⟩
  clear HBY
  go_wp2_with fail
  all_goals (go_ret; exact ⟨rfl, Below.refl _ _⟩)

set_option maxHeartbeats 4000000 in
set_option maxRecDepth 100000 in
theorem law3_main (a0 : Option Addr) (l0 c0 : Nat) (a1 : Option Addr) (l1 c1 : Nat) (a2 : Option Addr) (l2 c2 : Nat) (a3 : Option Addr) (l3 c3 : Nat) (h : Int) (Hf Pf Hr Pr : Nat → Int) (w : World)
    (r0 : NumRow .u64 w a0 l0 Hf) (r1 : NumRow .i64 w a1 l1 Pf) (r2 : NumRow .u64 w a2 l2 Hr) (r3 : NumRow .i64 w a3 l3 Pr) (hw : (Lit.int .u64 h).wf = true) (hsum : l0 + l1 + l2 + l3 ≤ 131072) :
    Calls Try.prog 3 #[.slice a0 l0 c0, .slice a1 l1 c1, .slice a2 l2 c2, .slice a3 l3 c3, .int .u64 h] w fun e w' => e = .returned (.bool true) ∧ Below w.heap.size w w' := by
  obtain ⟨nf, hnf⟩ : ∃ nf, min l0 l1 = nf := ⟨_, rfl⟩
  obtain ⟨nr, hnr⟩ : ∃ nr, min l2 l3 = nr := ⟨_, rfl⟩
  have HBY : Hid _ := bytes_any a0 l0 c0 a1 l1 c1 a2 l2 c2 a3 l3 c3 h w r0.le r1.le r2.le r3.le
  have HM1 : Hid _ := min_nat l0 l1 nf w hnf
  have HM2 : Hid _ := min_nat l2 l3 nr w hnr
  have HH1 : Hid _ := half_any a0 l0 c0 a1 l1 c1 nf Hf Pf w r0 r1 (by omega) (by omega) (by omega)
  have hnf0 : nf ≤ l0 := by omega
  have hnf1 : nf ≤ l1 := by omega
  have hnr0 : nr ≤ l2 := by omega
  have hnr1 : nr ≤ l3 := by omega
  have R0 : Hid _ := r0
  have R1 : Hid _ := r1
  have R2 : Hid _ := r2
  have R3 : Hid _ := r3
  clear hnf hnr r0 r1 r2 r3
  go_enter Try.func3, Try.ntmps3
  go_wp2_with fail
  refine Calls.mono HBY.out ?_
  rintro e w' ⟨⟨ok, rfl⟩, rfl⟩
  clear HBY
  cases ok
  · go_wp2
    go_ret
    exact ⟨rfl, Below.refl _ _⟩
  · go_wp2_with fail
    refine Calls.mono HM1.out ?_
    rintro e w' ⟨rfl, rfl⟩
    go_wp2_with fail
    refine Calls.mono HM2.out ?_
    rintro e w' ⟨rfl, rfl⟩
    go_wp2_with fail
    refine Calls.mono HH1.out ?_
    rintro e wa ⟨v1, m1, rfl, hhf, hba⟩
    have HH2 : Hid _ := half_any a2 l2 c2 a3 l3 c3 nr Hr Pr wa (R2.out.kept hba) (R3.out.kept hba) (by omega) (by omega) (by omega)
    have HHF : Hid (Half wa v1 m1 (occ Hf Pf nf) (nd Hf nf)) := hhf
    clear hhf HM1 HM2 HH1
    go_wp2_with fail
    refine Calls.mono HH2.out ?_
    rintro e wb ⟨v2, m2, rfl, hhr, hbb⟩
    have hhf2 := HHF.out.kept hbb
    have hbab : Below w.heap.size w wb := hba.trans (hbb.mono hba.size)
    have hsz1 := hba.size
    have hsz2 := hbb.size
    have HNI : Hid _ := newidx_any v1 m1 v2 m2 hhf2.isMap.1 hhf2.isMap.2 hhr.isMap.1 hhr.isMap.2 wb
    have HID : Hid _ := zidx_any wb.heap.size v1 m1 v2 m2 (occ Hf Pf nf) (occ Hr Pr nr) (nd Hf nf) (nd Hr nr) h wb (wb.alloc (.cells #[v1, m1, v2, m2] 43)) hw hhf2 hhr ((Below.refl _ _).alloc (Nat.le_refl _) _) (by simp) (by simp) (by simp) (by simp) (occ_wf (fun i hi => R1.out.wf i (by omega))) (occ_wf (fun i hi => R3.out.wf i (by omega))) (by simp) (Nat.le_refl _) (by have := occ_le Hf Pf nf h; omega)
    clear HHF hhf2 hhr HH2 hba hbb
    go_wp2_with fail
    refine Calls.mono HNI.out ?_
    rintro e w' ⟨rfl, rfl⟩
    go_wp2_with fail
    refine Calls.mono HID.out ?_
    rintro e wc0 ⟨got, rfl, hown, hbc⟩
    obtain ⟨T, hT⟩ : ∃ T, (occ Hf Pf nf h ++ occ Hr Pr nr h).length = T := ⟨_, rfl⟩
    have HT : Hid ((occ Hf Pf nf h ++ occ Hr Pr nr h).length = T) := hT
    rw [hT] at hown
    clear hT
    obtain ⟨ao, capg, rfl, hgo⟩ := row_form hown
    have HBC : Hid (Below w.heap.size w wc0) := (hbab.alloc (by omega) _).trans (hbc.mono (by omega))
    have hszc : w.heap.size ≤ wc0.heap.size := HBC.out.size
    have hTb : T ≤ 262144 := by have h9 := HT.out; rw [List.length_append] at h9; have h1 := occ_le Hf Pf nf h; have h2 := occ_le Hr Pr nr h; omega
    clear HNI HID hown hbab hbc hsz1 hsz2
    go_upto_block 0 with fail
    go_cut [18] (fun kk wx => kk = .int .i64 ((occ Hf Pf nf h).length : Nat) ∧ Below wc0.heap.size wc0 wx)
    case first =>
      by_cases h00 : nf = 0
      · subst h00
        go_wp2_with fail
        refine wp_loop_rounds 1 ?_
        rw [rounds_succ]
        go_wp2
        go_meet
        exact ⟨by simp [occ], Below.refl _ _⟩
      · obtain ⟨bh, oh, ea, hbh, hch⟩ := R0.out.pos (by omega)
        obtain ⟨bp, op, eb, hbp, hcp⟩ := R1.out.pos (by omega)
        have EA : Hid _ := ea
        have EB : Hid _ := eb
        clear ea eb
        obtain rfl := EA.out
        obtain rfl := EB.out
        clear EA EB
        go_wp2_with fail
        go_loopw [18, 19] (fun kk i wx => ∃ q : Nat, q ≤ nf ∧ i = .int .i64 q ∧ kk = .int .i64 ((occ Hf Pf q h).length : Nat) ∧ Below wc0.heap.size wc0 wx) (fun _ i _ => nf - (intOf i).toNat)
        case atStart => exact ⟨0, Nat.zero_le _, rfl, by simp [occ], Below.refl _ _⟩
        case round =>
          obtain ⟨q, hq, rfl, rfl, hbx⟩ := hrel
          have hlq := occ_le Hf Pf q h
          by_cases hlt : q < nf
          · have hcx : wr.cell? ⟨bh, oh + q, none⟩ = some (.int .u64 (Hf q)) := (hbx.cell (by show bh < _; omega)).trans ((HBC.out.cell (by show bh < _; omega)).trans (hch q (by omega)))
            have hcy : wr.cell? ⟨bp, op + q, none⟩ = some (.int .i64 (Pf q)) := (hbx.cell (by show bp < _; omega)).trans ((HBC.out.cell (by show bp < _; omega)).trans (hcp q (by omega)))
            obtain ⟨x, hx⟩ : ∃ x, Hf q = x := ⟨_, rfl⟩
            obtain ⟨p, hp⟩ : ∃ p, Pf q = p := ⟨_, rfl⟩
            rw [hx] at hcx
            rw [hp] at hcy
            have HBX : Hid (Below wc0.heap.size wc0 wr) := hbx
            have hz0 : (0 : Int) ≤ (q : Int) := by omega
            have hza : (q : Int) < (l0 : Int) := by omega
            have hzb : (q : Int) < (l1 : Int) := by omega
            clear hbx
            by_cases hxh : x = h
            · have hxb : (x == h) = true := by simp [hxh]
              have hat := occ_at Hf Pf nf q h hlt (hx.trans hxh)
              have hlo := occ_lt Hf Pf nf q h hlt (hx.trans hxh)
              have HNX : Hid ((occ Hf Pf (q + 1) h).length = (occ Hf Pf q h).length + 1) := by rw [occ_hit (hx.trans hxh)]; show _ = _; simp
              have hTl : (occ Hf Pf nf h).length ≤ T ∧ (occ Hf Pf nf h).length ≤ T := by have := HT.out; simp at this; omega
              obtain ⟨g, ego, hgl, hgc⟩ := hgo (by omega)
              have hcg : wr.cell? ⟨g, (occ Hf Pf q h).length, none⟩ = some (.int .i64 p) := by
                refine (HBX.out.cell (by exact hgl)).trans (hgc _ _ ?_)
                rw [List.getElem?_append_left hlo, hat, hp]
              have EG : Hid _ := ego
              have hlT : (occ Hf Pf q h).length < T := by omega
              clear hxh hat hlo hgc hx hp ego
              obtain rfl := EG.out
              obtain ⟨y, hy⟩ : ∃ y, (occ Hf Pf q h).length = y := ⟨_, rfl⟩
              have HY : Hid ((occ Hf Pf q h).length = y) := hy
              have hyT : y < T := by rw [← hy]; exact hlT
              clear hlT
              rw [hy] at hcg ⊢
              clear hy EG
              have hd : decide ((T : Int) ≤ (y : Int)) = false := by simp; omega
              have hy0 : (0 : Int) ≤ (y : Int) := by omega
              have hy1 : (y : Int) < (T : Int) := by omega
              have hyb : y ≤ 300000 := by omega
              go_wp2_with fail
              go_quiet (fail)
              go_wp2
              go_roundw
              case rel => exact ⟨q + 1, by omega, by go_num, by rw [← HY.out, HNX.out]; go_num, below_drewN HBX.out _⟩
              case measure => simp [intOf]; omega
            · have hxb : (x == h) = false := by simp [hxh]
              have HNX : Hid ((occ Hf Pf (q + 1) h).length = (occ Hf Pf q h).length) := by rw [occ_miss (by rw [hx]; exact hxh)]; rfl
              clear hxh hx hp
              go_wp2
              go_roundw
              case rel => exact ⟨q + 1, by omega, by go_num, by rw [HNX.out], HBX.out⟩
              case measure => simp [intOf]; omega
          · have hqn : nf = q := by omega
            subst hqn
            have HBX : Hid (Below wc0.heap.size wc0 wr) := hbx
            clear hbx hlt
            go_wp2
            go_meet
            exact ⟨rfl, HBX.out⟩
    case rest =>
      obtain ⟨rfl, hbx1⟩ := hcut
      have hbx0 : Hid _ := hbx1
      clear hbx1
      go_upto_block 2 with fail
      go_cut [18] (fun kk wx => kk = .int .i64 ((occ Hf Pf nf h).length + (occ Hr Pr nr h).length : Nat) ∧ Below wc0.heap.size wc0 wx)
      case first =>
        by_cases h00 : nr = 0
        · subst h00
          go_wp2_with fail
          refine wp_loop_rounds 1 ?_
          rw [rounds_succ]
          go_wp2
          go_meet
          exact ⟨by simp [occ], hbx0.out⟩
        · obtain ⟨bh, oh, ea, hbh, hch⟩ := R2.out.pos (by omega)
          obtain ⟨bp, op, eb, hbp, hcp⟩ := R3.out.pos (by omega)
          have EA : Hid _ := ea
          have EB : Hid _ := eb
          clear ea eb
          obtain rfl := EA.out
          obtain rfl := EB.out
          clear EA EB
          go_wp2_with fail
          go_loopw [18, 20] (fun kk i wx => ∃ q : Nat, q ≤ nr ∧ i = .int .i64 q ∧ kk = .int .i64 ((occ Hf Pf nf h).length + (occ Hr Pr q h).length : Nat) ∧ Below wc0.heap.size wc0 wx) (fun _ i _ => nr - (intOf i).toNat)
          case atStart => exact ⟨0, Nat.zero_le _, rfl, by simp [occ], hbx0.out⟩
          case round =>
            obtain ⟨q, hq, rfl, rfl, hbx⟩ := hrel
            have hlq := occ_le Hr Pr q h
            by_cases hlt : q < nr
            · have hcx : wr.cell? ⟨bh, oh + q, none⟩ = some (.int .u64 (Hr q)) := (hbx.cell (by show bh < _; omega)).trans ((HBC.out.cell (by show bh < _; omega)).trans (hch q (by omega)))
              have hcy : wr.cell? ⟨bp, op + q, none⟩ = some (.int .i64 (Pr q)) := (hbx.cell (by show bp < _; omega)).trans ((HBC.out.cell (by show bp < _; omega)).trans (hcp q (by omega)))
              obtain ⟨x, hx⟩ : ∃ x, Hr q = x := ⟨_, rfl⟩
              obtain ⟨p, hp⟩ : ∃ p, Pr q = p := ⟨_, rfl⟩
              rw [hx] at hcx
              rw [hp] at hcy
              have HBX : Hid (Below wc0.heap.size wc0 wr) := hbx
              have hz0 : (0 : Int) ≤ (q : Int) := by omega
              have hza : (q : Int) < (l2 : Int) := by omega
              have hzb : (q : Int) < (l3 : Int) := by omega
              clear hbx
              by_cases hxh : x = h
              · have hxb : (x == h) = true := by simp [hxh]
                have hat := occ_at Hr Pr nr q h hlt (hx.trans hxh)
                have hlo := occ_lt Hr Pr nr q h hlt (hx.trans hxh)
                have HNX : Hid ((occ Hr Pr (q + 1) h).length = (occ Hr Pr q h).length + 1) := by rw [occ_hit (hx.trans hxh)]; show _ = _; simp
                have hTl : (occ Hf Pf nf h).length ≤ T ∧ (occ Hf Pf nf h).length + (occ Hr Pr nr h).length ≤ T := by have := HT.out; simp at this; omega
                obtain ⟨g, ego, hgl, hgc⟩ := hgo (by omega)
                have hcg : wr.cell? ⟨g, (occ Hf Pf nf h).length + (occ Hr Pr q h).length, none⟩ = some (.int .i64 p) := by
                  refine (HBX.out.cell (by exact hgl)).trans (hgc _ _ ?_)
                  rw [List.getElem?_append_right (by omega), Nat.add_sub_cancel_left, hat, hp]
                have EG : Hid _ := ego
                have hlT : (occ Hf Pf nf h).length + (occ Hr Pr q h).length < T := by omega
                clear hxh hat hlo hgc hx hp ego
                obtain rfl := EG.out
                obtain ⟨y, hy⟩ : ∃ y, (occ Hf Pf nf h).length + (occ Hr Pr q h).length = y := ⟨_, rfl⟩
                have HY : Hid ((occ Hf Pf nf h).length + (occ Hr Pr q h).length = y) := hy
                have hyT : y < T := by rw [← hy]; exact hlT
                clear hlT
                rw [hy] at hcg ⊢
                clear hy EG
                have hd : decide ((T : Int) ≤ (y : Int)) = false := by simp; omega
                have hy0 : (0 : Int) ≤ (y : Int) := by omega
                have hy1 : (y : Int) < (T : Int) := by omega
                have hyb : y ≤ 300000 := by omega
                go_wp2_with fail
                go_quiet (fail)
                go_wp2
                go_roundw
                case rel => exact ⟨q + 1, by omega, by go_num, by rw [← HY.out, HNX.out]; go_num, below_drewN HBX.out _⟩
                case measure => simp [intOf]; omega
              · have hxb : (x == h) = false := by simp [hxh]
                have HNX : Hid ((occ Hr Pr (q + 1) h).length = (occ Hr Pr q h).length) := by rw [occ_miss (by rw [hx]; exact hxh)]; rfl
                clear hxh hx hp
                go_wp2
                go_roundw
                case rel => exact ⟨q + 1, by omega, by go_num, by rw [HNX.out], HBX.out⟩
                case measure => simp [intOf]; omega
            · have hqn : nr = q := by omega
              subst hqn
              have HBX : Hid (Below wc0.heap.size wc0 wr) := hbx
              clear hbx hlt
              go_wp2
              go_meet
              exact ⟨rfl, HBX.out⟩
      case rest =>
        obtain ⟨rfl, hbx2⟩ := hcut
        have HB2 : Hid _ := hbx2
        have hTeq : ((occ Hf Pf nf h).length + (occ Hr Pr nr h).length : Nat) = T := by have := HT.out; simp at this; omega
        rw [hTeq]
        clear hbx2 hgo
        go_wp2
        go_ret
        exact ⟨rfl, HBC.out.trans (HB2.out.mono hszc)⟩
end Go.Proofs.Qxb6609572a.Index
