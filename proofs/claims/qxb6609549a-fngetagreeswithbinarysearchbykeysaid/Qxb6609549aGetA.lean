/- The callees that FnGetReturnsFirstEntryOfKey and FnGetAgreesWithBinarySearchByKey share. -/
import Derived.Test.Qxb6609549aRows
import Derived.WalkKit
import Derived.ProofKit
import Derived.WalkSpells
import Derived.WalkLawsBesides
import Derived.Below
import Derived.WalkSmall
import Derived.Deep.RegionHeld3
import Derived.Deep.QuietTactic
import Derived.BigQuiet
import Derived.Deep.DeepCutAuto
import Derived.Deep.CutBlock
import Derived.Deep.AppendLies
namespace Go.Proofs.Qxb6609549a.Get
open Go.RowKit

/-- What the walk is told of a slice of strings that came in. -/
structure StrRow (w : World) (a : Option Addr) (len : Nat) (S : Nat → ByteArray) : Prop where
  le : len ≤ maxLen
  each : ∀ i, i < len → (S i).size ≤ maxLen
  pos : 0 < len → ∃ b o, a = some ⟨b, o, none⟩ ∧ b < w.heap.size ∧ ∀ i, i < len → w.cell? ⟨b, o + i, none⟩ = some (.string (S i))

def SomeBool (e : Ending) : Prop := ∃ b, e = .returned (.bool b)
theorem someBool (b : Bool) : SomeBool (.returned (.bool b)) := ⟨b, rfl⟩

theorem min_any (a b : Int) (w : World) : Calls Try.prog 9 #[.int .i64 a, .int .i64 b] w fun e w' => e = .returned (.int .i64 (min a b)) ∧ w = w' := by
  go_enter Try.func9, Try.ntmps9
  by_cases h : a < b
  · go_wp2
    go_ret
    exact ⟨by rw [Int.min_eq_left (by omega)]; rfl, rfl⟩
  · go_wp2
    go_ret
    exact ⟨by rw [Int.min_eq_right (by omega)]; rfl, rfl⟩

theorem count_any (a : Option Addr) (len cap : Nat) (S : Nat → ByteArray) (w : World) (h : StrRow w a len S) :
    Calls Try.prog 8 #[.slice a len cap] w fun e w' => (∃ t : Int, e = .returned (.int .i64 t) ∧ 0 ≤ t ∧ t ≤ 4000000) ∧ w = w' := by
  have hle := h.le
  unfold maxLen at hle
  by_cases hl : 0 < len
  · obtain ⟨b, o, rfl, hb, hc⟩ := h.pos hl
    have hS := h.each
    clear h
    go_enter Try.func8, Try.ntmps8
    go_wp2
    go_loop [3, 4] (fun t i => ∃ (k : Nat) (n : Int), k ≤ len ∧ i = .int .i64 k ∧ t = .int .i64 n ∧ 0 ≤ n ∧ n ≤ 1048576) (fun _ i => len - (intOf i).toNat)
    case atStart => exact ⟨0, 0, Nat.zero_le _, rfl, rfl, by omega, by omega⟩
    case round =>
      obtain ⟨k, n, hk, rfl, rfl, hn0, hn1⟩ := hrel
      by_cases hlt : k < len
      · have hcx := hc k hlt
        have hsz := hS k hlt
        unfold maxLen at hsz
        clear hS hc
        by_cases h1 : (S k).size ≤ 1048576
        · by_cases h2 : n + (16 + (S k).size) ≤ 1048576
          · go_wp2
            go_round
            case rel => exact ⟨k + 1, n + (16 + (S k).size), by omega, by go_num, rfl, by omega, by omega⟩
            case measure => simp [intOf]; omega
          · have h2' : 1048576 < n + (16 + ((S k).size : Int)) := by omega
            clear h2
            go_wp2
            go_ret
            exact ⟨⟨_, rfl, by omega, by omega⟩, rfl⟩
        · have h1' : 1048576 < ((S k).size : Int) := by omega
          clear h1
          go_wp2
          go_ret
          exact ⟨⟨_, rfl, by omega, by omega⟩, rfl⟩
      · go_wp2
        go_ret
        exact ⟨⟨_, rfl, by omega, by omega⟩, rfl⟩
  · have e0 : len = 0 := by omega
    subst e0
    clear h
    go_enter Try.func8, Try.ntmps8
    go_wp2
    refine wp_loop_rounds 1 ?_
    rw [rounds_succ]
    go_wp2
    go_ret
    exact ⟨⟨_, rfl, by omega, by omega⟩, rfl⟩

theorem entry_any (k v : ByteArray) (w : World) :
    Calls Try.prog 10 #[.string k, .string v] w fun e w' => e = .returned (.agg #[.string k, .iface 9 (.string v)]) ∧ w' = w.alloc (.cells #[.string k, .iface 9 (.string v)] 29) := by
  go_enter Try.func10, Try.ntmps10
  go_wp2
  exact bodyPost_ret (v := .agg #[.string k, .iface 9 (.string v)]) (by simp [results, Try.results10, go_sem]) rfl ⟨rfl, rfl⟩

/-- The dictionary's entries, in block g. -/
def Entries (w : World) (g n : Nat) (K V : Nat → ByteArray) : Prop := g < w.heap.size ∧ ∀ i, i < n → w.cell? ⟨g, i * 2, none⟩ = some (.string (K i)) ∧ w.cell? ⟨g, i * 2 + 1, none⟩ = some (.iface 9 (.string (V i)))

theorem get_hit (g n cap : Nat) (K V : Nat → ByteArray) (key : ByteArray) (i0 : Nat) (w : World) (hn : n ≤ 1048576) (he : Entries w g n K V) (hi : i0 < n) (hh : ((K i0).toList == key.toList) = true) (hno : ∀ j, j < i0 → ((K j).toList == key.toList) = false) :
    Calls Try.prog 17 #[.slice (some ⟨g, 0, none⟩) n cap, .string key] w fun e w' => e = .returned (.tuple #[.iface 9 (.string (V i0)), .bool true]) ∧ Below w.heap.size w w' := by
  obtain ⟨hg, hc⟩ := he
  go_enter Try.func17, Try.ntmps17
  go_wp2
  go_loopw [10] (fun i wr => ∃ k : Nat, k ≤ i0 ∧ i = .int .i64 k ∧ Below w.heap.size w wr) (fun i _ => n - (intOf i).toNat)
  case atStart => exact ⟨0, Nat.zero_le _, rfl, Below.refl _ _⟩
  case round =>
    obtain ⟨k, hk, rfl, hbel⟩ := hrel
    obtain ⟨c0, c1⟩ := hc k (by omega)
    have d0 := (hbel.cell (p := ⟨g, k * 2, none⟩) hg).trans c0
    have d1 := (hbel.cell (p := ⟨g, k * 2 + 1, none⟩) hg).trans c1
    have hsz := hbel.size
    have HB : Hid (Below w.heap.size w wr) := hbel
    clear hbel c0 c1 hc
    by_cases hlt : k < i0
    · have hne := hno k hlt
      clear hno
      go_wp2
      go_roundw
      case rel => exact ⟨k + 1, by omega, by go_num, HB.out.alloc hsz _⟩
      case measure => simp [intOf]; omega
    · have hki : i0 = k := by omega
      subst hki
      clear hno
      go_wp2
      go_ret2
      exact ⟨rfl, HB.out.alloc hsz _⟩

theorem get_miss (ao : Option Addr) (g n cap : Nat) (K V : Nat → ByteArray) (key : ByteArray) (w : World) (hn : n ≤ 1048576) (ha : 0 < n → ao = some ⟨g, 0, none⟩) (he : Entries w g n K V) (hno : ∀ j, j < n → ((K j).toList == key.toList) = false) :
    Calls Try.prog 17 #[.slice ao n cap, .string key] w fun e w' => e = .returned (.tuple #[.nilIface, .bool false]) ∧ Below w.heap.size w w' := by
  by_cases hn0 : 0 < n
  · obtain ⟨hg, hc⟩ := he
    obtain rfl := ha hn0
    go_enter Try.func17, Try.ntmps17
    go_wp2
    go_loopw [10] (fun i wr => ∃ k : Nat, k ≤ n ∧ i = .int .i64 k ∧ Below w.heap.size w wr) (fun i _ => n - (intOf i).toNat)
    case atStart => exact ⟨0, Nat.zero_le _, rfl, Below.refl _ _⟩
    case round =>
      obtain ⟨k, hk, rfl, hbel⟩ := hrel
      by_cases hlt : k < n
      · obtain ⟨c0, c1⟩ := hc k (by omega)
        have d0 := (hbel.cell (p := ⟨g, k * 2, none⟩) hg).trans c0
        have d1 := (hbel.cell (p := ⟨g, k * 2 + 1, none⟩) hg).trans c1
        have hsz := hbel.size
        have HB : Hid (Below w.heap.size w wr) := hbel
        have hne := hno k hlt
        clear hbel c0 c1 hc hno
        go_wp2
        go_roundw
        case rel => exact ⟨k + 1, by omega, by go_num, HB.out.alloc hsz _⟩
        case measure => simp [intOf]; omega
      · have HB : Hid (Below w.heap.size w wr) := hbel
        clear hbel
        go_wp2
        go_ret2
        exact ⟨rfl, HB.out⟩
  · have e0 : n = 0 := by omega
    subst e0
    go_enter Try.func17, Try.ntmps17
    go_wp2
    refine wp_loop_rounds 1 ?_
    rw [rounds_succ]
    go_wp2
    go_ret2
    exact ⟨rfl, Below.refl _ _⟩

theorem assert_str (s : ByteArray) (w : World) : (Instr.typeAssert (.iface 9 (.string s)) 20 9 true).run Try.prog w = .ok (.tuple #[.string s, .bool true]) w := by kernel_rfl
theorem assert_nil (w : World) : (Instr.typeAssert .nilIface 20 9 true).run Try.prog w = .ok (.tuple #[.string ⟨#[]⟩, .bool false]) w := by kernel_rfl

theorem zget_hit (g n cap : Nat) (K V : Nat → ByteArray) (key : ByteArray) (i0 : Nat) (w : World) (hn : n ≤ 1048576) (he : Entries w g n K V) (hi : i0 < n) (hh : ((K i0).toList == key.toList) = true) (hno : ∀ j, j < i0 → ((K j).toList == key.toList) = false) :
    Calls Try.prog 11 #[.slice (some ⟨g, 0, none⟩) n cap, .string key] w fun e w' => e = .returned (.tuple #[.string (V i0), .bool true, .bool false, .bool true]) ∧ Below w.heap.size w w' := by
  have hg := get_hit g n cap K V key i0 w hn he hi hh hno
  have HG : Hid _ := hg
  clear hg he hh hno
  have has := assert_str
  go_enter Try.func11, Try.ntmps11
  go_wp2_with fail
  refine Calls.mono HG.out ?_
  rintro e w' ⟨rfl, hb⟩
  go_wp2
  go_quiet (fail)
  go_wp2
  exact bodyPost_ret (v := .tuple #[.string (V i0), .bool true, .bool false, .bool true]) (by simp [results, Try.results11, go_sem]) rfl ⟨rfl, below_drewN hb _⟩

theorem zget_miss (ao : Option Addr) (g n cap : Nat) (K V : Nat → ByteArray) (key : ByteArray) (w : World) (hn : n ≤ 1048576) (ha : 0 < n → ao = some ⟨g, 0, none⟩) (he : Entries w g n K V) (hno : ∀ j, j < n → ((K j).toList == key.toList) = false) :
    Calls Try.prog 11 #[.slice ao n cap, .string key] w fun e w' => e = .returned (.tuple #[.string ⟨#[]⟩, .bool false, .bool true, .bool false]) ∧ Below w.heap.size w w' := by
  have hg := get_miss ao g n cap K V key w hn ha he hno
  have HG : Hid _ := hg
  clear hg he hno
  have has := assert_nil
  go_enter Try.func11, Try.ntmps11
  go_wp2_with fail
  refine Calls.mono HG.out ?_
  rintro e w' ⟨rfl, hb⟩
  go_wp2
  go_quiet (fail)
  go_wp2
  exact bodyPost_ret (v := .tuple #[.string ⟨#[]⟩, .bool false, .bool true, .bool false]) (by simp [results, Try.results11, go_sem]) rfl ⟨rfl, below_drewN hb _⟩

set_option maxHeartbeats 4000000 in
theorem bytes7 (a0 : Option Addr) (l0 c0 : Nat) (K : Nat → ByteArray) (a1 : Option Addr) (l1 c1 : Nat) (V : Nat → ByteArray) (key : ByteArray) (w : World) (h0 : StrRow w a0 l0 K) (h1 : StrRow w a1 l1 V) (hk : key.size ≤ maxLen) :
    Calls Try.prog 7 #[.slice a0 l0 c0, .slice a1 l1 c1, .string key] w fun e w' => SomeBool e ∧ w = w' := by
  have hl0 := h0.le
  have hl1 := h1.le
  unfold maxLen at hl0 hl1 hk
  have H0 : Hid (StrRow w a0 l0 K) := h0
  have H1 : Hid (StrRow w a1 l1 V) := h1
  clear h0 h1
  by_cases hb0 : l0 ≤ 1048576
  · go_enter Try.func7, Try.ntmps7
    go_upto_block 0 with fail
    go_cut [7] (fun z wx => ∃ n : Int, z = .int .i64 n ∧ 0 ≤ n ∧ n ≤ 1048576 ∧ w = wx)
    case first =>
      by_cases hl : 0 < l0
      · obtain ⟨b, o, rfl, hb, hc⟩ := H0.out.pos hl
        have hS := H0.out.each
        clear H0
        go_wp2_with fail
        go_loop [7, 8] (fun t i => ∃ (k : Nat) (n : Int), k ≤ l0 ∧ i = .int .i64 k ∧ t = .int .i64 n ∧ 0 ≤ n ∧ n ≤ 1048576) (fun _ i => l0 - (intOf i).toNat)
        case atStart => exact ⟨0, _, Nat.zero_le _, rfl, rfl, by omega, by omega⟩
        case round =>
          obtain ⟨k, n, hk, rfl, rfl, hn0, hn1⟩ := hrel
          by_cases hlt : k < l0
          · have hcx := hc k hlt
            have hsz := hS k hlt
            unfold maxLen at hsz
            clear hS hc
            by_cases h1 : (K k).size ≤ 1048576
            · by_cases h2 : n + (K k).size ≤ 1048576
              · go_wp2
                go_round
                case rel => exact ⟨k + 1, n + (K k).size, by omega, by go_num, rfl, by omega, by omega⟩
                case measure => simp [intOf]; omega
              · have h2' : 1048576 < n + ((K k).size : Int) := by omega
                clear h2
                go_wp2
                go_ret
                exact ⟨someBool _, rfl⟩
            · have h1' : 1048576 < ((K k).size : Int) := by omega
              clear h1
              go_wp2
              go_ret
              exact ⟨someBool _, rfl⟩
          · have hge : l0 ≤ k := by omega
            clear hlt hS hc
            go_wp2
            go_meet
            exact ⟨n, rfl, hn0, hn1, rfl⟩
      · have e0 : l0 = 0 := by omega
        subst e0
        clear H0
        go_wp2_with fail
        refine wp_loop_rounds 1 ?_
        rw [rounds_succ]
        go_wp2
        go_meet
        exact ⟨_, rfl, by omega, by omega, rfl⟩
    case rest =>
      obtain ⟨z, rfl, hz0, hz1, rfl⟩ := hcut
      clear H0
      by_cases hb1 : z + l1 ≤ 1048576
      · go_upto_block 2 with fail
        go_cut [7] (fun z wx => ∃ n : Int, z = .int .i64 n ∧ 0 ≤ n ∧ n ≤ 1048576 ∧ w = wx)
        case first =>
          by_cases hl : 0 < l1
          · obtain ⟨b, o, rfl, hb, hc⟩ := H1.out.pos hl
            have hS := H1.out.each
            clear H1
            go_wp2_with fail
            go_loop [7, 9] (fun t i => ∃ (k : Nat) (n : Int), k ≤ l1 ∧ i = .int .i64 k ∧ t = .int .i64 n ∧ 0 ≤ n ∧ n ≤ 1048576) (fun _ i => l1 - (intOf i).toNat)
            case atStart => exact ⟨0, _, Nat.zero_le _, rfl, rfl, by omega, by omega⟩
            case round =>
              obtain ⟨k, n, hk, rfl, rfl, hn0, hn1⟩ := hrel
              by_cases hlt : k < l1
              · have hcx := hc k hlt
                have hsz := hS k hlt
                unfold maxLen at hsz
                clear hS hc
                by_cases h1 : (V k).size ≤ 1048576
                · by_cases h2 : n + (V k).size ≤ 1048576
                  · go_wp2
                    go_round
                    case rel => exact ⟨k + 1, n + (V k).size, by omega, by go_num, rfl, by omega, by omega⟩
                    case measure => simp [intOf]; omega
                  · have h2' : 1048576 < n + ((V k).size : Int) := by omega
                    clear h2
                    go_wp2
                    go_ret
                    exact ⟨someBool _, rfl⟩
                · have h1' : 1048576 < ((V k).size : Int) := by omega
                  clear h1
                  go_wp2
                  go_ret
                  exact ⟨someBool _, rfl⟩
              · have hge : l1 ≤ k := by omega
                clear hlt hS hc
                go_wp2
                go_meet
                exact ⟨n, rfl, hn0, hn1, rfl⟩
          · have e0 : l1 = 0 := by omega
            subst e0
            clear H1
            go_wp2_with fail
            refine wp_loop_rounds 1 ?_
            rw [rounds_succ]
            go_wp2
            go_meet
            exact ⟨_, rfl, by omega, by omega, rfl⟩
        case rest =>
          obtain ⟨z, rfl, hz0, hz1, rfl⟩ := hcut
          clear H1
          go_wp2
          all_goals (go_ret; exact ⟨someBool _, rfl⟩)
      · have hb1' : 1048576 < z + (l1 : Int) := by omega
        clear hb1
        go_wp2
        all_goals (go_ret; exact ⟨someBool _, rfl⟩)
  · have hb0' : 1048576 < (l0 : Int) := by omega
    clear hb0
    go_enter Try.func7, Try.ntmps7
    go_wp2
    go_ret
    exact ⟨someBool _, rfl⟩
end Go.Proofs.Qxb6609549a.Get
