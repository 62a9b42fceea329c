/- The law FnIndexLenCountsHalvesApart: the plain side; zzBytes (10), zzDistinct (11), index.len (14), ZZindexLen (12). -/
import Derived.Test.Qxb6609572aIndexD
namespace Go.Proofs.Qxb6609572a.Index
open Go.RowKit Go.Maps Go.WideElems Go.MapKept Go.ChangeShapes Go.WideShapes

/-! ### The plain side -/
/-- Does x stand among the first k? -/
def seen (Hs : Nat → Int) : Nat → Int → Bool
  | 0, _ => false
  | k + 1, x => seen Hs k x || Hs k == x
theorem seen_iff (Hs : Nat → Int) (k : Nat) (x : Int) : seen Hs k x = true ↔ ∃ j, j < k ∧ Hs j = x := by
  induction k with
  | zero => simp [seen]
  | succ k ih =>
    simp only [seen, Bool.or_eq_true, ih, beq_iff_eq]
    constructor
    · rintro (⟨j, h1, h2⟩ | h)
      · exact ⟨j, by omega, h2⟩
      · exact ⟨k, by omega, h⟩
    · rintro ⟨j, h1, h2⟩
      by_cases e : j = k
      · subst e; exact .inr h2
      · exact .inl ⟨j, by omega, h2⟩
theorem fresh_seen (Hs : Nat → Int) (k : Nat) : fresh Hs k = !seen Hs k (Hs k) := by
  cases h : seen Hs k (Hs k)
  · rw [Bool.not_false, fresh_iff]
    intro j hj e
    have := (seen_iff Hs k (Hs k)).2 ⟨j, hj, e⟩
    rw [h] at this; cases this
  · obtain ⟨j, hj, e⟩ := (seen_iff Hs k (Hs k)).1 h
    cases h2 : fresh Hs k
    · rfl
    · exact absurd e ((fresh_iff Hs k).1 h2 j hj)
/-- How many hashes of the first a of A, counted once each, stand among the first b of B. -/
def both (A : Nat → Int) (B : Nat → Int) (b : Nat) : Nat → Nat
  | 0 => 0
  | a + 1 => both A B b a + (fresh A a && seen B b (A a)).toNat
theorem both_le (A B : Nat → Int) (b a : Nat) : both A B b a ≤ a := by
  induction a with
  | zero => simp [both]
  | succ a ih => simp only [both]; have := Bool.toNat_le (fresh A a && seen B b (A a)); omega
theorem both_one (A B : Nat → Int) (a b : Nat) (hf : fresh A a = true) : both B A (a + 1) b = both B A a b + (seen B b (A a)).toNat := by
  induction b with
  | zero => simp [both, seen]
  | succ b ih =>
    have hs : seen A a (A a) = false := by rw [fresh_seen] at hf; simpa using hf
    simp only [both, ih, seen]
    by_cases e : B b = A a
    · rw [e, hs, fresh_seen B b, e]
      cases seen B b (A a) <;> simp
    · have e1 : (A a == B b) = false := by simpa using Ne.symm e
      have e2 : (B b == A a) = false := by simpa using e
      rw [e1, e2, Bool.or_false, Bool.or_false]
      omega
theorem both_old (A B : Nat → Int) (a b : Nat) (hf : fresh A a = false) : both B A (a + 1) b = both B A a b := by
  induction b with
  | zero => simp [both]
  | succ b ih =>
    have hs : seen A a (A a) = true := by rw [fresh_seen] at hf; simpa using hf
    simp only [both, ih, seen]
    by_cases e : A a = B b
    · rw [← e, hs]; simp
    · have e1 : (A a == B b) = false := by simpa using e
      rw [e1, Bool.or_false]
theorem both_comm (A B : Nat → Int) (a b : Nat) : both A B b a = both B A a b := by
  induction a with
  | zero =>
    simp only [both]
    induction b with
    | zero => rfl
    | succ b ih => simp [both, seen, ← ih]
  | succ a ih =>
    simp only [both, ih]
    cases hf : fresh A a
    · rw [both_old A B a b hf]; simp
    · rw [both_one A B a b hf]; simp
theorem nd_succ (Hs : Nat → Int) (k : Nat) : nd Hs (k + 1) = nd Hs k + (fresh Hs k).toNat := by simp only [nd]; cases fresh Hs k <;> rfl
/-- One log behind another. -/
def chain (F R : Nat → Int) (nf i : Nat) : Int := if i < nf then F i else R (i - nf)
theorem seen_chain_low (F R : Nat → Int) (nf k : Nat) (x : Int) (h : k ≤ nf) : seen (chain F R nf) k x = seen F k x := by
  induction k with
  | zero => rfl
  | succ k ih => simp only [seen, ih (by omega), chain, if_pos (show k < nf by omega)]
theorem seen_chain (F R : Nat → Int) (nf m : Nat) (x : Int) : seen (chain F R nf) (nf + m) x = (seen F nf x || seen R m x) := by
  induction m with
  | zero => rw [Nat.add_zero, seen_chain_low _ _ _ _ _ (Nat.le_refl _)]; simp [seen]
  | succ m ih =>
    rw [← Nat.add_assoc]
    simp only [seen, ih, chain, if_neg (show ¬ nf + m < nf by omega), Nat.add_sub_cancel_left, Bool.or_assoc]
theorem nd_chain_low (F R : Nat → Int) (nf k : Nat) (h : k ≤ nf) : nd (chain F R nf) k = nd F k := by
  induction k with
  | zero => rfl
  | succ k ih =>
    have : chain F R nf k = F k := by simp [chain, show k < nf by omega]
    rw [nd_succ, nd_succ, ih (by omega), fresh_seen, fresh_seen, this, seen_chain_low F R nf k _ (by omega)]
theorem nd_chain (F R : Nat → Int) (nf m : Nat) : nd (chain F R nf) (nf + m) + both R F nf m = nd F nf + nd R m := by
  induction m with
  | zero => simp [both, nd, nd_chain_low]
  | succ m ih =>
    rw [← Nat.add_assoc]
    have : chain F R nf (nf + m) = R m := by unfold chain; rw [if_neg (by omega), Nat.add_sub_cancel_left]
    rw [nd_succ, nd_succ, fresh_seen, fresh_seen, this, seen_chain, both, fresh_seen]
    cases seen F nf (R m) <;> cases seen R m (R m) <;> simp <;> omega
/-- THE PLAIN LAW. -/
theorem plain (F R : Nat → Int) (nf nr : Nat) : nd F nf + nd R nr = nd (chain F R nf) (nf + nr) + both F R nr nf := by
  have := nd_chain F R nf nr
  rw [both_comm F R nf nr]
  omega

/-! ### A set of hashes -/
def SetAt (w : World) (b k : Nat) (S : Int → Bool) : Prop :=
  ∃ D : DataW Unit, w.ownsMap Try.prog 24 (plainElem Try.prog 4) b k D ∧ ∀ x, (Lit.int .u64 x).wf = true → D.atKey (.int .u64 x) (.lit (.bool false)) = .lit (.bool (S x))
theorem zero4 (w : World) : (zeroValue 4).run Try.prog w = .ok (.bool false) w := by kernel_rfl
theorem plainElem_bool_inv {v : Value} {z : DataW Unit × List MemPlace} (h : plainElem Try.prog 4 v = some z) : ∃ x, v = .bool x ∧ z = (.lit (.bool x), []) := by
  unfold plainElem at h
  rw [Try.underlying4] at h
  cases v <;> simp at h
  exact ⟨_, rfl, h.symm⟩
theorem SetAt.start (w : World) (b : Nat) (hb : w.heap.size = b) : SetAt (w.alloc (.map #[] 0)) b 0 (fun _ => false) := by
  subst hb
  exact ⟨_, World.ownsMap_made _ _ _ _, fun x _ => rfl⟩
theorem SetAt.look {w : World} {b k : Nat} {S : Int → Bool} (h : SetAt w b k S) {x : Int} (hx : (Lit.int .u64 x).wf = true) : (Instr.lookup 35 (.map (some b)) (.int .u64 x) false).run Try.prog w = .ok (.bool (S x)) w := by
  obtain ⟨D, h1, h2⟩ := h
  obtain ⟨v, ps, hrun, hv⟩ := h1.lookup law Try.underlying35 (zero4 w) (plainElem_bool Try.underlying4 false) (key_of hx)
  obtain ⟨y, rfl, hy⟩ := plainElem_bool_inv hv
  rw [h2 x hx] at hy
  simp only [Prod.mk.injEq, DataW.lit.injEq, Lit.bool.injEq] at hy
  rw [hrun, hy.1]
theorem SetAt.kept {w w' : World} {b k : Nat} {S : Int → Bool} (h : SetAt w b k S) {r : Option Nat} (hg : w.grownBy w' r) (hne : some b ≠ r) : SetAt w' b k S := by
  obtain ⟨D, h1, h2⟩ := h
  exact ⟨D, h1.kept hg hne, h2⟩
theorem SetAt.mono {w : World} {b k m : Nat} {S : Int → Bool} (h : SetAt w b k S) (hm : k ≤ m) : SetAt w b m S := by
  obtain ⟨D, h1, h2⟩ := h
  exact ⟨D, h1.mono hm, h2⟩
theorem SetAt.put {w w' : World} {b k : Nat} {S : Int → Bool} {D : DataW Unit} {x : Int} (h1 : w.ownsMap Try.prog 24 (plainElem Try.prog 4) b k D) (h2 : ∀ x, (Lit.int .u64 x).wf = true → D.atKey (.int .u64 x) (.lit (.bool false)) = .lit (.bool (S x)))
    (hown : w'.ownsMap Try.prog 24 (plainElem Try.prog 4) b (k + 1) (D.put (.int .u64 x) (.lit (.bool true)))) : SetAt w' b (k + 1) (fun y => S y || x == y) := by
  refine ⟨_, hown, fun y hy => ?_⟩
  by_cases e : x = y
  · subst e
    rw [atKey_put_same h1.isMap (key_lit _)]
    simp
  · rw [atKey_put_other (by simpa using Ne.symm e), h2 y hy]
    simp [e]
theorem SetAt.lt {w : World} {b k : Nat} {S : Int → Bool} (h : SetAt w b k S) : b < w.heap.size := by obtain ⟨D, h1, _⟩ := h; exact h1.lt
theorem SetAt.as {w : World} {b k : Nat} {S S' : Int → Bool} (h : SetAt w b k S) (he : ∀ x, S x = S' x) : SetAt w b k S' := by
  obtain ⟨D, h1, h2⟩ := h
  exact ⟨D, h1, fun x hx => by rw [h2 x hx, he x]⟩

/-! ### The callees -/
theorem bytes4_any (a0 : Option Addr) (l0 c0 : Nat) (a1 : Option Addr) (l1 c1 : Nat) (a2 : Option Addr) (l2 c2 : Nat) (a3 : Option Addr) (l3 c3 : Nat) (w : World) (h0 : l0 ≤ maxLen) (h1 : l1 ≤ maxLen) (h2 : l2 ≤ maxLen) (h3 : l3 ≤ maxLen) :
    Calls Try.prog 10 #[.slice a0 l0 c0, .slice a1 l1 c1, .slice a2 l2 c2, .slice a3 l3 c3] w fun e w' => (∃ b, e = .returned (.bool b)) ∧ w = w' := by
  unfold maxLen at h0 h1 h2 h3
  go_enter Try.func10, Try.ntmps10
  go_wp2
  all_goals (go_ret; exact ⟨⟨_, rfl⟩, rfl⟩)

theorem Half.len {w : World} {v1 mv : Value} {pl : Int → List Int} {sz : Nat} (h : Half w v1 mv pl sz) (ty : TypeId) : (Builtin.len_ #[27] ty #[v1]).run Try.prog w = .ok (.int .i64 sz) w ∧ sz ≤ 131072 := by
  rcases h with ⟨rfl, _, _, rfl⟩ | ⟨b1, k, Hs, Ps, rfl, ⟨⟨D1, h1, h2⟩, _⟩, hk, _, rfl⟩
  · exact ⟨Maps.len_nil Try.underlying27 ty, by omega⟩
  · exact ⟨by rw [h1.len Try.underlying27 ty, h2.size], by have := nd_le Hs k; omega⟩

theorem len_any (B : Nat) (v1 m1 v2 m2 : Value) (pf pr : Int → List Int) (sf sr : Nat) (w : World) (hf : Half w v1 m1 pf sf) (hr : Half w v2 m2 pr sr) (c0 : w.cell? ⟨B, 0, none⟩ = some v1) (c2 : w.cell? ⟨B, 2, none⟩ = some v2) :
    Calls Try.prog 14 #[.pointer (some ⟨B, 0, none⟩)] w fun e w' => e = .returned (.int .i64 (sf + sr : Nat)) ∧ Below w.heap.size w w' := by
  obtain ⟨r1, rfl⟩ := hf.isMap.1
  obtain ⟨r2, rfl⟩ := hr.isMap.1
  have e1 : ∀ n ty, (Builtin.len_ #[27] ty #[.map r1]).run Try.prog (w.drewN n) = .ok (.int .i64 sf) (w.drewN n) := fun n ty => ((hf.kept (below_drewN (Below.refl _ _) n)).len ty).1
  have e2 : ∀ n ty, (Builtin.len_ #[27] ty #[.map r2]).run Try.prog (w.drewN n) = .ok (.int .i64 sr) (w.drewN n) := fun n ty => ((hr.kept (below_drewN (Below.refl _ _) n)).len ty).1
  have e3 : ∀ ty, (Builtin.len_ #[27] ty #[.map r1]).run Try.prog w = .ok (.int .i64 sf) w := fun ty => (hf.len ty).1
  have e4 : ∀ ty, (Builtin.len_ #[27] ty #[.map r2]).run Try.prog w = .ok (.int .i64 sr) w := fun ty => (hr.len ty).1
  have l1 := (hf.len 0).2
  have l2 := (hr.len 0).2
  clear hf hr
  go_enter Try.func14, Try.ntmps14
  go_wp2_with fail
  go_quiet (fail)
  go_wp2
  go_ret
  exact ⟨by go_num, below_drewN (Below.refl _ _) _⟩

theorem zlen_any (B : Nat) (v1 m1 v2 m2 : Value) (pf pr : Int → List Int) (sf sr : Nat) (w : World) (hf : Half w v1 m1 pf sf) (hr : Half w v2 m2 pr sr) (c0 : w.cell? ⟨B, 0, none⟩ = some v1) (c2 : w.cell? ⟨B, 2, none⟩ = some v2) :
    Calls Try.prog 12 #[.pointer (some ⟨B, 0, none⟩)] w fun e w' => e = .returned (.int .i64 (sf + sr : Nat)) ∧ Below w.heap.size w w' := by
  have HI : Hid _ := len_any B v1 m1 v2 m2 pf pr sf sr w hf hr c0 c2
  clear hf hr c0 c2
  go_enter Try.func12, Try.ntmps12
  go_wp2_with fail
  refine Calls.mono HI.out ?_
  rintro e w' ⟨rfl, h2⟩
  go_wp2
  go_ret
  exact ⟨rfl, h2⟩

theorem nd_hit {Hs : Nat → Int} {k : Nat} {x : Int} (hx : Hs k = x) (h : seen Hs k x = false) : nd Hs (k + 1) = nd Hs k + 1 := by rw [nd_succ, fresh_seen, hx, h]; rfl
theorem nd_miss {Hs : Nat → Int} {k : Nat} {x : Int} (hx : Hs k = x) (h : seen Hs k x = true) : nd Hs (k + 1) = nd Hs k := by rw [nd_succ, fresh_seen, hx, h]; rfl
theorem seen_again {Hs : Nat → Int} {k : Nat} {x : Int} (hx : Hs k = x) (h : seen Hs k x = true) (y : Int) : seen Hs k y = seen Hs (k + 1) y := by
  simp only [seen, hx]
  by_cases e : x = y
  · subst e; simp [h]
  · simp [e]
theorem seen_next {Hs : Nat → Int} {k : Nat} {x : Int} (hx : Hs k = x) (y : Int) : (seen Hs k y || x == y) = seen Hs (k + 1) y := by simp only [seen, hx]

set_option maxHeartbeats 2000000 in
/-- zzDistinct. -/
theorem distinct_any (a1 : Option Addr) (l1 c1 n : Nat) (Hs : Nat → Int) (w : World) (hH : NumRow .u64 w a1 l1 Hs) (hn : n ≤ 131072) (hn1 : n ≤ l1) :
    Calls Try.prog 11 #[.slice a1 l1 c1, .int .i64 n] w fun e w' => e = .returned (.int .i64 (nd Hs n)) ∧ Below w.heap.size w w' := by
  have hmm := @run_makeMap Try.prog
  by_cases h0 : n = 0
  · subst h0
    clear hH
    go_enter Try.func11, Try.ntmps11
    go_wp2_with fail
    refine wp_loop_rounds 1 ?_
    rw [rounds_succ]
    go_wp2
    go_ret
    exact ⟨rfl, (Below.refl _ _).alloc (Nat.le_refl _) _⟩
  obtain ⟨bh, oh, rfl, hbh, hch⟩ := hH.pos (by omega)
  have hwf := hH.wf
  clear hH
  go_enter Try.func11, Try.ntmps11
  go_wp2_with fail
  obtain ⟨B, hB⟩ : ∃ B, w.heap.size = B := ⟨_, rfl⟩
  have hst := SetAt.start w B hB
  have hbel0 : Below B w (w.alloc (.map #[] 0)) := by rw [← hB]; exact (Below.refl _ _).alloc (Nat.le_refl _) _
  rw [hB]
  go_loopw [6, 7] (fun c i wr => ∃ k : Nat, k ≤ n ∧ i = .int .i64 k ∧ c = .int .i64 (nd Hs k) ∧ SetAt wr B k (seen Hs k) ∧ Below B w wr) (fun _ i _ => n - (intOf i).toNat)
  case atStart => exact ⟨0, Nat.zero_le _, rfl, rfl, hst, hbel0⟩
  case round =>
    clear hst hbel0
    obtain ⟨k, hk, rfl, rfl, hset, hbel⟩ := hrel
    have hndk := nd_le Hs k
    obtain ⟨c, hc⟩ : ∃ c, nd Hs k = c := ⟨_, rfl⟩
    have HC : Hid (nd Hs k = c) := hc
    rw [hc] at hndk ⊢
    clear hc
    by_cases hlt : k < n
    · have hcx : wr.cell? ⟨bh, oh + k, none⟩ = some (.int .u64 (Hs k)) := (hbel.cell (by rw [← hB]; exact hbh)).trans (hch k (by omega))
      have hwx := hwf k (by omega)
      obtain ⟨x, hx⟩ : ∃ x, Hs k = x := ⟨_, rfl⟩
      rw [hx] at hcx hwx
      have HX : Hid (Hs k = x) := hx
      have HB : Hid (Below B w wr) := hbel
      have hl := hset.look hwx
      have hws : B ≤ wr.heap.size := by have := hbel.size; omega
      obtain ⟨sb, hsb⟩ : ∃ sb, seen Hs k x = sb := ⟨_, rfl⟩
      rw [hsb] at hl
      have HSB : Hid (seen Hs k x = sb) := hsb
      have HS : Hid (SetAt wr B k (seen Hs k)) := hset
      clear hx hbel hsb hset hch hwf
      cases sb with
      | true =>
        go_wp2
        go_roundw
        case rel => exact ⟨k + 1, by omega, by go_num, by rw [nd_miss HX.out HSB.out, HC.out], SetAt.mono (SetAt.as HS.out (seen_again HX.out HSB.out)) (Nat.le_succ _), HB.out⟩
        case measure => simp [intOf]; omega
      | false =>
        obtain ⟨D, hD1, hD2⟩ := HS.out
        have HD1 : Hid _ := hD1
        have HD2 : Hid _ := hD2
        clear hD1 hD2
        go_wp2_with (first
          | (at_mapUpdate; refine wpList_mapUpdate_own _ rfl _ _ _ 35 rfl 24 4 law Try.underlying35 _ B k _ rfl HD1.out (by unfold maxLen; omega) _ _ _ rfl rfl (key_of hwx) _ [] (plainElem_bool Try.underlying4 true) ?_; intro w1 hown1 hgrow1)
          | go_in)
        go_roundw
        case rel => exact ⟨k + 1, by omega, by go_num, by rw [nd_hit HX.out HSB.out, HC.out]; go_num, (SetAt.put HD1.out HD2.out hown1).as (seen_next HX.out), HB.out.grown hgrow1 hws (fun j hj => by cases hj; exact Nat.le_refl _)⟩
        case measure => simp [intOf]; omega
    · have hkn : n = k := by omega
      subst hkn
      have HB : Hid (Below B w wr) := hbel
      clear hset hbel hlt hch hwf
      go_wp2
      go_ret
      exact ⟨by rw [HC.out]; rfl, by rw [hB]; exact HB.out⟩
end Go.Proofs.Qxb6609572a.Index
