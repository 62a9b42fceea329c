/- The law's small callees: zzBytes (4), zzCloneBytes (5), ZZnewDecoder (7), zzKindOfFirstByte (11), ZZdecoderFields (12). -/
import Derived.Test.Qxb6609549aFmtDecA
import Derived.Deep.OwnRows
namespace Go.Proofs.Qxb6609549aFmt.Dec
open Go.RowKit Go.ChangeShapes Go.WideShapes

theorem zbytes_any (a0 : Option Addr) (l0 c0 : Nat) (p d v : Int) (u : Bool) (w : World) (h0 : l0 ≤ maxLen) :
    Calls Tryf.prog 4 #[.slice a0 l0 c0, .int .i64 p, .int .i64 d, .int .i64 v, .bool u] w fun e w' => (∃ b, e = .returned (.bool b)) ∧ w = w' := by
  unfold maxLen at h0
  go_enter Tryf.func4, Tryf.ntmps4
  go_wp2
  all_goals (go_ret; exact ⟨⟨_, rfl⟩, rfl⟩)

theorem info5 : (Tryf.prog.info? 5).map (fun i => (i.zero, i.size, i.bytes)) = some (some (.int .u8 0), 1, 1) := by kernel_rfl

theorem clone_nil (w : World) : Calls Tryf.prog 5 #[.slice none 0 0] w fun e w' => e = .returned (.slice none 0 0) ∧ w = w' := by
  have hs := @Lib.run_eql_slice_nil Tryf.prog
  go_enter Tryf.func5, Tryf.ntmps5
  go_wp2
  go_ret
  exact ⟨rfl, rfl⟩

theorem clone_empty (x : Addr) (len cap : Nat) (w : World) (hl : len ≤ 0) : Calls Tryf.prog 5 #[.slice (some x) len cap] w fun e w' => e = .returned (.slice (some ⟨w.heap.size, 0, none⟩) len len) ∧ Below w.heap.size w w' := by
  have hs := @Lib.run_eql_slice_nil Tryf.prog
  have hmk := run_make_row' (P := Tryf.prog) 22 5 (.int .u8 0) 1 Tryf.underlying22 info5 rfl .i64 .i64 len (by omega) (by omega)
  go_enter Tryf.func5, Tryf.ntmps5
  go_wp2_with fail
  refine wp_loop_rounds 1 ?_
  rw [rounds_succ]
  go_wp2
  go_ret
  exact ⟨rfl, (Below.refl _ _).alloc (Nat.le_refl _) _⟩

theorem clone_some (b o len cap : Nat) (Z : Nat → Int) (w : World) (hlen : len ≤ 1048576)
    (hc : ∀ i, i < len → w.cell? ⟨b, o + i, none⟩ = some (.int .u8 (Z i))) (hb : 0 < len → b < w.heap.size) :
    Calls Tryf.prog 5 #[.slice (some ⟨b, o, none⟩) len cap] w fun e w' => e = .returned (.slice (some ⟨w.heap.size, 0, none⟩) len len) ∧
      Below w.heap.size w w' ∧ w'.rowIs w.heap.size 5 len (fun i => .int .u8 (Z i)) := by
  have hs := @Lib.run_eql_slice_nil Tryf.prog
  have hmk := run_make_row' (P := Tryf.prog) 22 5 (.int .u8 0) 1 Tryf.underlying22 info5 rfl .i64 .i64 len (by omega) (by omega)
  go_enter Tryf.func5, Tryf.ntmps5
  go_wp2
  go_loopw [4] (fun i wr => ∃ k : Nat, k ≤ len ∧ i = .int .i64 k ∧ Below w.heap.size w wr ∧ wr.rowIs w.heap.size 5 len (fun j => if j < k then .int .u8 (Z j) else .int .u8 0))
    (fun i _ => len - (intOf i).toNat)
  case atStart =>
    refine ⟨0, Nat.zero_le _, rfl, (Below.refl _ _).alloc (Nat.le_refl _) _, ?_⟩
    simpa using World.rowIs_made w (.int .u8 0) len 5
  case round =>
    obtain ⟨k, hk, rfl, hbel, hrow⟩ := hrel
    by_cases hlt : k < len
    · have hcx : wr.cell? ⟨b, o + k, none⟩ = some (.int .u8 (Z k)) := (hbel.cell (by exact hb (by omega))).trans (hc k hlt)
      have hcd : wr.cell? ⟨w.heap.size, k, none⟩ = some (.int .u8 0) := by simpa using hrow.cell hlt
      have hcf : wr.frozen? ⟨w.heap.size, k, none⟩ = false := hrow.frozen k
      have hstep : (wr.setCell ⟨w.heap.size, k, none⟩ (.int .u8 (Z k))).rowIs w.heap.size 5 len (fun j => if j < k + 1 then .int .u8 (Z j) else .int .u8 0) := by
        refine (hrow.set k _).congr ?_
        intro j hj
        by_cases e : j = k
        · subst e; simp
        · by_cases e2 : j < k
          · simp [e, e2, show j < k + 1 from by omega]
          · simp [e, e2, show ¬ j < k + 1 from by omega]
      have hst := hbel.setCell (p := ⟨w.heap.size, k, none⟩) (Nat.le_refl _) (.int .u8 (Z k))
      have HS : Hid ((wr.setCell ⟨w.heap.size, k, none⟩ (.int .u8 (Z k))).rowIs w.heap.size 5 len (fun j => if j < k + 1 then .int .u8 (Z j) else .int .u8 0) ∧ Below w.heap.size w (wr.setCell ⟨w.heap.size, k, none⟩ (.int .u8 (Z k)))) := ⟨hstep, hst⟩
      clear hstep hst hrow hbel
      go_wp2
      go_roundw
      case rel => exact ⟨k + 1, by omega, by go_num, HS.out.2, HS.out.1⟩
      case measure => simp [intOf]; omega
    · go_wp2
      go_ret
      have : k = len := by omega
      subst this
      exact ⟨rfl, hbel, hrow.congr (fun i hi => by simp [hi])⟩

theorem newdec_any (s : Value) (a : Option Addr) (l c : Nat) (hs : s = .slice a l c) (p d v : Int) (u : Bool) (w : World) :
    Calls Tryf.prog 7 #[s, .int .i64 p, .int .i64 d, .int .i64 v, .bool u] w fun e w' => e = .returned (.pointer (some ⟨w.heap.size, 0, none⟩)) ∧ w' = w.alloc (.cells #[s, .int .i64 p, .int .i64 d, .int .i64 v, .bool u] 46) := by
  subst hs
  go_enter Tryf.func7, Tryf.ntmps7
  go_wp2
  go_ret
  exact ⟨rfl, rfl⟩

theorem firstByte_any (c k : Int) (w : World) (hk : k = if c = 105 then 2 else if c = 108 then 3 else if c = 100 then 4 else 1) :
    Calls Tryf.prog 11 #[.int .u8 c] w fun e w' => e = .returned (.int .u8 k) ∧ w = w' := by
  subst hk
  go_enter Tryf.func11, Tryf.ntmps11
  go_wp2
  all_goals (go_ret; exact ⟨by simp_all, rfl⟩)

theorem fields_any (B D n p d v : Nat) (bs : Nat → Int) (u : Bool) (w : World) (h : Dec w B D n bs u p d v) :
    Calls Tryf.prog 12 #[.pointer (some ⟨B, 0, none⟩)] w fun e w' => e = .returned (.tuple #[.slice (some ⟨D, 0, none⟩) n n, .int .i64 p, .int .i64 d, .int .i64 v, .bool u]) ∧ w.grownBy w' none ∧ Dec w' B D n bs u p d v := by
  have c0 := h.c0
  have c1 := h.c1
  have c2 := h.c2
  have c3 := h.c3
  have c4 := h.c4
  have HD : Hid (Dec w B D n bs u p d v) := h
  clear h
  go_enter Tryf.func12, Tryf.ntmps12
  go_wp2_with fail
  go_quiet (fail)
  go_wp2
  exact bodyPost_ret (v := .tuple #[.slice (some ⟨D, 0, none⟩) n n, .int .i64 p, .int .i64 d, .int .i64 v, .bool u]) (by simp [results, Tryf.results12, go_sem]) rfl ⟨rfl, grown_drewN _ _ _, HD.out.drewN _⟩
end Go.Proofs.Qxb6609549aFmt.Dec
