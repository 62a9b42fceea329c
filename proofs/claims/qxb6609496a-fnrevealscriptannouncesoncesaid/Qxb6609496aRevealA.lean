/- The callees of FnRevealScriptAnnouncesOnce: zzBytes (12), zzClone (13), ZZnewBermanGarayForReveal (14). -/
import Derived.Test.Qxb6609496aRows
import Derived.WalkKit
import Derived.ProofKit
import Derived.WalkSpells
import Derived.Below
import Derived.Deep.OwnRows
namespace Go.Proofs.Qxb6609496a.Reveal
open Go.RowKit

/-- zzBytes answers some bool and touches nothing. -/
theorem bytes_any (a0 : Option Addr) (l0 c0 : Nat) (an : Bool) (dv dr : Int) (a4 : Option Addr) (l4 c4 : Nat) (a5 : Option Addr) (l5 c5 : Nat) (w : World)
    (h0 : l0 ≤ maxLen) (h4 : l4 ≤ maxLen) (h5 : l5 ≤ maxLen) :
    Calls Try.prog 12 #[.slice a0 l0 c0, .bool an, .int .u8 dv, .int .i64 dr, .slice a4 l4 c4, .slice a5 l5 c5] w fun e w' => (∃ b, e = .returned (.bool b)) ∧ w = w' := by
  unfold maxLen at h0 h4 h5
  go_enter Try.func12, Try.ntmps12
  go_wp2
  all_goals (go_ret; exact ⟨⟨_, rfl⟩, rfl⟩)

theorem info40 : (Try.prog.info? 40).map (fun i => (i.zero, i.size, i.bytes)) = some (some (.int .u64 0), 1, 8) := by kernel_rfl

theorem clone_nil (w : World) : Calls Try.prog 13 #[.slice none 0 0] w fun e w' => e = .returned (.slice none 0 0) ∧ w' = w := by
  have hs := @Lib.run_eql_slice_nil Try.prog
  go_enter Try.func13, Try.ntmps13
  go_wp2
  go_ret
  exact ⟨rfl, rfl⟩

theorem clone_some (b o len cap : Nat) (Z : Nat → Int) (w : World) (hlen : len ≤ 65536)
    (hc : ∀ i, i < len → w.cell? ⟨b, o + i, none⟩ = some (.int .u64 (Z i))) (hb : 0 < len → b < w.heap.size) :
    Calls Try.prog 13 #[.slice (some ⟨b, o, none⟩) len cap] w fun e w' => e = .returned (.slice (some ⟨w.heap.size, 0, none⟩) len len) ∧
      Below w.heap.size w w' ∧ w'.rowIs w.heap.size 40 len (fun i => .int .u64 (Z i)) := by
  have hs := @Lib.run_eql_slice_nil Try.prog
  have hmk := run_make_row' (P := Try.prog) 33 40 (.int .u64 0) 8 Try.underlying33 info40 rfl .i64 .i64 len (by omega) (by omega)
  go_enter Try.func13, Try.ntmps13
  go_wp2
  go_loopw [4] (fun i wr => ∃ k : Nat, k ≤ len ∧ i = .int .i64 k ∧ Below w.heap.size w wr ∧ wr.rowIs w.heap.size 40 len (fun j => if j < k then .int .u64 (Z j) else .int .u64 0))
    (fun i _ => len - (intOf i).toNat)
  case atStart =>
    refine ⟨0, Nat.zero_le _, rfl, (Below.refl _ _).alloc (Nat.le_refl _) _, ?_⟩
    simpa using World.rowIs_made w (.int .u64 0) len 40
  case round =>
    obtain ⟨k, hk, rfl, hbel, hrow⟩ := hrel
    by_cases hlt : k < len
    · have hcx : wr.cell? ⟨b, o + k, none⟩ = some (.int .u64 (Z k)) := (hbel.cell (by exact hb (by omega))).trans (hc k hlt)
      have hcd : wr.cell? ⟨w.heap.size, k, none⟩ = some (.int .u64 0) := by simpa using hrow.cell hlt
      have hcf : wr.frozen? ⟨w.heap.size, k, none⟩ = false := hrow.frozen k
      have hstep : (wr.setCell ⟨w.heap.size, k, none⟩ (.int .u64 (Z k))).rowIs w.heap.size 40 len (fun j => if j < k + 1 then .int .u64 (Z j) else .int .u64 0) := by
        refine (hrow.set k _).congr ?_
        intro j hj
        by_cases e : j = k
        · subst e; simp
        · by_cases e2 : j < k
          · simp [e, e2, show j < k + 1 from by omega]
          · simp [e, e2, show ¬ j < k + 1 from by omega]
      have hst := hbel.setCell (p := ⟨w.heap.size, k, none⟩) (Nat.le_refl _) (.int .u64 (Z k))
      have HS : Hid ((wr.setCell ⟨w.heap.size, k, none⟩ (.int .u64 (Z k))).rowIs w.heap.size 40 len (fun j => if j < k + 1 then .int .u64 (Z j) else .int .u64 0) ∧ Below w.heap.size w (wr.setCell ⟨w.heap.size, k, none⟩ (.int .u64 (Z k)))) := ⟨hstep, hst⟩
      clear hstep hst hrow hbel
      go_wp2
      go_roundw
      case rel => exact ⟨k + 1, by omega, by go_num, HS.out.2, HS.out.1⟩
      case measure => simp [intOf]; omega
    · go_wp2
      go_ret
      have : k = len := by omega
      subst this
      exact ⟨rfl, hbel, hrow.congr (fun i hi => by simp [hi])⟩

/-- What is known of the node: its shares, its decision, whether it has announced. -/
structure Node (w : World) (B : Nat) (sh : Value) (dv dr : Int) (an : Bool) : Prop where
  c4 : w.cell? ⟨B, 4, none⟩ = some sh
  c16 : w.cell? ⟨B, 16, none⟩ = some (.int .u8 dv)
  c17 : w.cell? ⟨B, 17, none⟩ = some (.int .i64 dr)
  c18 : w.cell? ⟨B, 18, none⟩ = some (.bool an)
  f18 : w.frozen? ⟨B, 18, none⟩ = false

theorem new_any (a : Option Addr) (len cap : Nat) (an : Bool) (dv dr : Int) (w : World) :
    Calls Try.prog 14 #[.slice a len cap, .bool an, .int .u8 dv, .int .i64 dr] w fun e w' => e = .returned (.pointer (some ⟨w.heap.size, 0, none⟩)) ∧
      w'.heap.size = w.heap.size + 1 ∧ Below w.heap.size w w' ∧ Node w' w.heap.size (.slice a len cap) dv dr an := by
  go_enter Try.func14, Try.ntmps14
  go_wp2
  go_ret
  exact ⟨rfl, by simp, (Below.refl _ _).alloc (Nat.le_refl _) _, ⟨by simp, by simp, by simp, by simp, by simp⟩⟩

theorem info47 : (Try.prog.info? 47).map (fun i => (i.zero, i.size, i.bytes)) = some (some (.agg #[.int .u8 0, .int .u32 0, .int .u32 0]), 3, 12) := by kernel_rfl

/-- The exchange that a reveal sends, and whether the node has announced behind it. -/
def exOf (an : Bool) (dv dr : Int) (ce : Bool) : Int := if an then 3 else if 0 < dr then 6 + dv else if ce then 5 else 3
def anOf (an : Bool) (dr : Int) (ce : Bool) : Bool := an || decide (0 < dr) || ce

theorem Node.set {w : World} {B : Nat} {sh : Value} {dv dr : Int} {an : Bool} (h : Node w B sh dv dr an) (an' : Bool) : Node (w.setCell ⟨B, 18, none⟩ (.bool an')) B sh dv dr an' :=
  ⟨(World.cell?_setCell_other _ _ _ _ (by simp)).trans h.c4, (World.cell?_setCell_other _ _ _ _ (by simp)).trans h.c16, (World.cell?_setCell_other _ _ _ _ (by simp)).trans h.c17, World.cell?_setCell_same _ _ _ h.c18, by rw [World.frozen?_setCell]; exact h.f18⟩

theorem Node.alloc {w : World} {B : Nat} {sh : Value} {dv dr : Int} {an : Bool} (h : Node w B sh dv dr an) (hB : B < w.heap.size) (o : Obj) : Node (w.alloc o) B sh dv dr an :=
  have e : ∀ j, (w.alloc o).cell? ⟨B, j, none⟩ = w.cell? ⟨B, j, none⟩ := fun _ => World.cell?_of_block (Below.heap_alloc w o B hB)
  ⟨(e _).trans h.c4, (e _).trans h.c16, (e _).trans h.c17, (e _).trans h.c18, (World.frozen?_of_block (Below.heap_alloc w o B hB)).trans h.f18⟩

theorem Node.grown {w w' : World} {B : Nat} {sh : Value} {dv dr : Int} {an : Bool} {row : Option Nat} (h : Node w B sh dv dr an) (hB : B < w.heap.size) (hg : w.grownBy w' row) (hr : ∀ k, row = some k → B + 1 ≤ k) : Node w' B sh dv dr an :=
  have eb : w'.heap[B]? = w.heap[B]? := hg.block B hB (fun e => by have := hr B e.symm; omega)
  have e : ∀ j, w'.cell? ⟨B, j, none⟩ = w.cell? ⟨B, j, none⟩ := fun _ => World.cell?_of_block eb
  ⟨(e _).trans h.c4, (e _).trans h.c16, (e _).trans h.c17, (e _).trans h.c18, (World.frozen?_of_block eb).trans h.f18⟩

theorem three_cells (w : World) (t : TypeId) (x y z : Value) : ∀ j u, [x, y, z][j]? = some u → (w.alloc (.cells #[x, y, z] t)).cell? ((⟨w.heap.size, 0, none⟩ : Addr).add j) = some u := by
  intro j u hu
  match j, hu with
  | 0, hu => simp at hu; subst hu; simp [Addr.add]
  | 1, hu => simp at hu; subst hu; simp [Addr.add]
  | 2, hu => simp at hu; subst hu; simp [Addr.add]

/-- What a reveal leaves. -/
def Left (w w' : World) (B : Nat) (sh : Value) (dv dr : Int) (an ce : Bool) (v' : Value) (n : Nat) (xs : List Value) (k z : Int) : Prop :=
  w'.ownsRow (B + 1) 47 3 v' (n + 1) (xs ++ [.int .u8 (exOf an dv dr ce), .int .u32 k, .int .u32 (z % 4294967296)]) ∧ Below B w w' ∧ Node w' B sh dv dr (anOf an dr ce)

theorem own_rows {w : World} {base : Nat} {e : TypeId} {size : Nat} {v : Value} {n : Nat} {xs : List Value} (h : w.ownsRow base e size v n xs) : ∀ k, v.ownBlock = some k → base ≤ k := fun k hk => (h.lt k hk).1

set_option maxHeartbeats 1600000 in
theorem reveal_any (B b len cap kN : Nat) (z dv dr : Int) (an ce : Bool) (v : Value) (n : Nat) (xs : List Value) (w : World)
    (hk : 1 ≤ kN) (hkl : kN ≤ len) (hl : len ≤ 65536) (hn : n ≤ 16384) (hbB : b < B) (hB : B < w.heap.size) (hdv : 0 ≤ dv) (hdv1 : dv ≤ 1)
    (hz : w.cell? ⟨b, kN - 1, none⟩ = some (.int .u64 z)) (hnode : Node w B (.slice (some ⟨b, 0, none⟩) len cap) dv dr an) (hown : w.ownsRow (B + 1) 47 3 v n xs) :
    Calls Try.prog 20 #[.pointer (some ⟨B, 0, none⟩), .int .u32 kN, .bool ce, v] w fun e w' => ∃ v', e = .returned v' ∧ Left w w' B (.slice (some ⟨b, 0, none⟩) len cap) dv dr an ce v' n xs kN z := by
  obtain ⟨i0, hi, hz0, hz1, hz2⟩ := info_parts info47
  have hnode0 := hnode
  have HN : Hid (Node w B (.slice (some ⟨b, 0, none⟩) len cap) dv dr an) := hnode0
  clear hnode0
  obtain ⟨c4, c16, c17, c18, f18⟩ := hnode
  have hrows := own_rows hown
  have hbw : b < w.heap.size := by omega
  have hB1 : B ≤ w.heap.size := by omega
  cases an
  · by_cases hdr : 0 < dr
    · have hne : (6 + dv != 3) = true := by simp; omega
      go_enter Try.func20, Try.ntmps20
      go_wp2_with (first | (at_builtin; refine wpList_append_own _ rfl _ _ 44 rfl (B + 1) 47 i0 (.agg #[.int .u8 0, .int .u32 0, .int .u32 0]) 3 12 Try.underlying44 hi hz0 hz1 hz2 rfl (by decide) _ _ _ rfl (((ownsRow_setCell_below hown (Nat.lt_succ_self B) _).alloc _).alloc _) ⟨w.heap.size + 1, 0, none⟩ 1 1 [.int .u8 (6 + dv), .int .u32 kN, .int .u32 (z % 4294967296)] rfl rfl ?c1 ?c2 ?c3 ?c4 ?c5 ?_) | go_in)
      case c1 => simpa using three_cells ((w.setCell ⟨B, 18, none⟩ (.bool true)).alloc (.cells #[.int .u8 dv, .int .i64 dr] 60)) 47 (.int .u8 (6 + dv)) (.int .u32 kN) (.int .u32 (z % 4294967296))
      case c2 => intro u hu; simp at hu; rcases hu with rfl | rfl | rfl <;> rfl
      case c3 => unfold maxLen; omega
      case c4 => omega
      case c5 => simp; omega
      · intro v' w1 hown' hgrow _
        go_wp2
        go_ret
        refine ⟨v', rfl, by simpa [exOf, hdr] using hown', ?_, ?_⟩
        · exact ((((Below.refl B w).setCell (p := ⟨B, 18, none⟩) (Nat.le_refl _) _).alloc (by simp; omega) _).alloc (by simp; omega) _).grown hgrow (by simp; omega) (fun k hk => by have := hrows k hk; omega)
        · have := ((((HN.out.set true).alloc (by simp; omega) _).alloc (by simp; omega) _).grown (by simp; omega) hgrow hrows)
          simpa [anOf, hdr] using this
    · have hdr0 : dr ≤ 0 := by omega
      clear hdr
      cases ce
      · go_enter Try.func20, Try.ntmps20
        go_wp2_with (first | (at_builtin; refine wpList_append_own _ rfl _ _ 44 rfl (B + 1) 47 i0 (.agg #[.int .u8 0, .int .u32 0, .int .u32 0]) 3 12 Try.underlying44 hi hz0 hz1 hz2 rfl (by decide) _ _ _ rfl (((ownsRow_setCell_below hown (Nat.lt_succ_self B) _).alloc _).alloc _) ⟨w.heap.size + 1, 0, none⟩ 1 1 [.int .u8 3, .int .u32 kN, .int .u32 (z % 4294967296)] rfl rfl ?d1 ?d2 ?d3 ?d4 ?d5 ?_) | go_in)
        case d2 => exact ⟨rfl, rfl, rfl⟩
        case d3 => unfold maxLen; omega
        case d4 => omega
        case d5 => omega
        · intro v' w1 hown' hgrow _
          go_wp2
          go_ret
          have hdr' : ¬ 0 < dr := by omega
          refine ⟨v', rfl, by simpa [exOf, hdr'] using hown', ?_, ?_⟩
          · exact ((((Below.refl B w).setCell (p := ⟨B, 18, none⟩) (Nat.le_refl _) _).alloc (by simp; omega) _).alloc (by simp; omega) _).grown hgrow (by simp; omega) (fun k hk => by have := hrows k hk; omega)
          · have := ((((HN.out.set false).alloc (by simp; omega) _).alloc (by simp; omega) _).grown (by simp; omega) hgrow hrows)
            simpa [anOf, hdr'] using this
      · go_enter Try.func20, Try.ntmps20
        go_wp2_with (first | (at_builtin; refine wpList_append_own _ rfl _ _ 44 rfl (B + 1) 47 i0 (.agg #[.int .u8 0, .int .u32 0, .int .u32 0]) 3 12 Try.underlying44 hi hz0 hz1 hz2 rfl (by decide) _ _ _ rfl (((ownsRow_setCell_below hown (Nat.lt_succ_self B) _).alloc _).alloc _) ⟨w.heap.size + 1, 0, none⟩ 1 1 [.int .u8 5, .int .u32 kN, .int .u32 (z % 4294967296)] rfl rfl ?e1 ?e2 ?e3 ?e4 ?e5 ?_) | go_in)
        case e2 => exact ⟨rfl, rfl, rfl⟩
        case e3 => unfold maxLen; omega
        case e4 => omega
        case e5 => omega
        · intro v' w1 hown' hgrow _
          go_wp2
          go_ret
          have hdr' : ¬ 0 < dr := by omega
          refine ⟨v', rfl, by simpa [exOf, hdr'] using hown', ?_, ?_⟩
          · exact ((((Below.refl B w).setCell (p := ⟨B, 18, none⟩) (Nat.le_refl _) _).alloc (by simp; omega) _).alloc (by simp; omega) _).grown hgrow (by simp; omega) (fun k hk => by have := hrows k hk; omega)
          · have := ((((HN.out.set true).alloc (by simp; omega) _).alloc (by simp; omega) _).grown (by simp; omega) hgrow hrows)
            simpa [anOf, hdr'] using this
  · go_enter Try.func20, Try.ntmps20
    go_wp2_with (at_builtin; refine wpList_append_own _ rfl _ _ 44 rfl (B + 1) 47 i0 (.agg #[.int .u8 0, .int .u32 0, .int .u32 0]) 3 12 Try.underlying44 hi hz0 hz1 hz2 rfl (by decide) _ _ _ rfl ((ownsRow_setCell_below hown (Nat.lt_succ_self B) _).alloc _) ⟨w.heap.size, 0, none⟩ 1 1 [.int .u8 3, .int .u32 kN, .int .u32 (z % 4294967296)] rfl rfl ?f1 ?f2 ?f3 ?f4 ?f5 ?_)
    case f1 => simpa using three_cells (w.setCell ⟨B, 18, none⟩ (.bool true)) 47 (.int .u8 3) (.int .u32 kN) (.int .u32 (z % 4294967296))
    case f2 => intro u hu; simp at hu; rcases hu with rfl | rfl | rfl <;> rfl
    case f3 => unfold maxLen; omega
    case f4 => omega
    case f5 => simp; omega
    · intro v' w1 hown' hgrow _
      go_wp2
      go_ret
      refine ⟨v', rfl, hown', ?_, ?_⟩
      · exact (((Below.refl B w).setCell (p := ⟨B, 18, none⟩) (Nat.le_refl _) _).alloc (by simp; omega) _).grown hgrow (by simp; omega) (fun k hk => by have := hrows k hk; omega)
      · exact (((HN.out.set true).alloc (by simpa using hB) _).grown (by simp; omega) hgrow hrows)

theorem zreveal_any (B b len cap kN : Nat) (z dv dr : Int) (an ce : Bool) (v : Value) (n : Nat) (xs : List Value) (w : World)
    (hk : 1 ≤ kN) (hkl : kN ≤ len) (hl : len ≤ 65536) (hn : n ≤ 16384) (hbB : b < B) (hB : B < w.heap.size) (hdv : 0 ≤ dv) (hdv1 : dv ≤ 1)
    (hz : w.cell? ⟨b, kN - 1, none⟩ = some (.int .u64 z)) (hnode : Node w B (.slice (some ⟨b, 0, none⟩) len cap) dv dr an) (hown : w.ownsRow (B + 1) 47 3 v n xs) :
    Calls Try.prog 15 #[.pointer (some ⟨B, 0, none⟩), .int .u32 kN, .bool ce, v] w fun e w' => ∃ v', e = .returned v' ∧ Left w w' B (.slice (some ⟨b, 0, none⟩) len cap) dv dr an ce v' n xs kN z := by
  go_enter Try.func15, Try.ntmps15
  go_wp2_with fail
  refine (reveal_any B b len cap kN z dv dr an ce v n xs _ hk hkl hl hn hbB hB hdv hdv1 hz hnode hown).mono ?_
  rintro e w' ⟨v', rfl, hleft⟩
  go_wp2
  go_ret
  exact ⟨v', rfl, hleft⟩

theorem announced_any (B : Nat) (an : Bool) (w : World) (h : w.cell? ⟨B, 18, none⟩ = some (.bool an)) :
    Calls Try.prog 16 #[.pointer (some ⟨B, 0, none⟩)] w fun e w' => e = .returned (.bool an) ∧ w' = w := by
  go_enter Try.func16, Try.ntmps16
  go_wp2
  go_ret
  exact ⟨rfl, rfl⟩
end Go.Proofs.Qxb6609496a.Reveal
