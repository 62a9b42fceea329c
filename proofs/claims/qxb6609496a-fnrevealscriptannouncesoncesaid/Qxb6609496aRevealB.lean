/- The law FnRevealScriptAnnouncesOnce (4): its plain side, and its walk. -/
import Derived.Test.Qxb6609496aRevealA
import Derived.Deep.RegionHeld3
import Derived.Deep.DeepCutAuto
import Derived.Deep.CutBlock
import Derived.Deep.QuietTactic
import Derived.BigQuiet
import Derived.WalkSmall
import Derived.Deep.AppendLies
namespace Go.Proofs.Qxb6609496a.Reveal
open Go.RowKit

/-! ### The plain side -/
def annAt (an : Bool) (dr : Int) (C : Nat → Bool) : Nat → Bool
  | 0 => an
  | k + 1 => anOf (annAt an dr C k) dr (C k)
def exAt (an : Bool) (dv dr : Int) (C : Nat → Bool) (k : Nat) : Int := exOf (annAt an dr C k) dv dr (C k)
def msgs (an : Bool) (dv dr : Int) (C : Nat → Bool) (K : Nat → Nat) (Z : Nat → Int) : Nat → List Value
  | 0 => []
  | k + 1 => msgs an dv dr C K Z k ++ [.int .u8 (exAt an dv dr C k), .int .u32 (K k), .int .u32 (Z (K k - 1) % 4294967296)]

theorem msgs_length (an : Bool) (dv dr : Int) (C : Nat → Bool) (K : Nat → Nat) (Z : Nat → Int) (k : Nat) : (msgs an dv dr C K Z k).length = 3 * k := by
  induction k with
  | zero => rfl
  | succ k ih => simp [msgs, ih]; omega

theorem msgs_get (an : Bool) (dv dr : Int) (C : Nat → Bool) (K : Nat → Nat) (Z : Nat → Int) (n i : Nat) (h : i < n) :
    (msgs an dv dr C K Z n)[3 * i]? = some (.int .u8 (exAt an dv dr C i)) ∧ (msgs an dv dr C K Z n)[3 * i + 1]? = some (.int .u32 (K i)) ∧
    (msgs an dv dr C K Z n)[3 * i + 2]? = some (.int .u32 (Z (K i - 1) % 4294967296)) := by
  induction n with
  | zero => omega
  | succ n ih =>
    have hl := msgs_length an dv dr C K Z n
    by_cases e : i = n
    · subst e
      simp only [msgs]
      rw [List.getElem?_append_right (by omega), List.getElem?_append_right (by omega), List.getElem?_append_right (by omega), hl]
      simp [show 3 * i + 1 - 3 * i = 1 from by omega, show 3 * i + 2 - 3 * i = 2 from by omega]
    · have := ih (by omega)
      simp only [msgs]
      rw [List.getElem?_append_left (by omega), List.getElem?_append_left (by omega), List.getElem?_append_left (by omega)]
      exact this

/-- Where the one announcement stands: -1 if there is none. -/
def AtIs (an : Bool) (dr : Int) (C : Nat → Bool) (n : Nat) (p : Int) : Prop :=
  (an = true ∧ p = -1) ∨ (an = false ∧ ((p = -1 ∧ ∀ j, j < n → dr ≤ 0 ∧ C j = false) ∨ ∃ k : Nat, k < n ∧ p = k ∧ (0 < dr ∨ C k = true) ∧ ∀ j, j < k → dr ≤ 0 ∧ C j = false))

theorem annAt_true (dr : Int) (C : Nat → Bool) (k : Nat) : annAt true dr C k = true := by
  induction k with
  | zero => rfl
  | succ k ih => simp [annAt, anOf, ih]

theorem annAt_quiet (dr : Int) (C : Nat → Bool) (k : Nat) (h : ∀ j, j < k → dr ≤ 0 ∧ C j = false) : annAt false dr C k = false := by
  induction k with
  | zero => rfl
  | succ k ih => simp [annAt, anOf, ih (fun j hj => h j (by omega)), (h k (by omega)).2]; exact (h k (by omega)).1

theorem annAt_loud (an : Bool) (dr : Int) (C : Nat → Bool) (j k : Nat) (hj : j < k) (h : 0 < dr ∨ C j = true) : annAt an dr C k = true := by
  induction k with
  | zero => omega
  | succ k ih =>
    by_cases e : j = k
    · subst e; rcases h with h | h <;> simp [annAt, anOf, h]
    · simp [annAt, anOf, ih (by omega)]

theorem want_is {an : Bool} {dv dr : Int} {C : Nat → Bool} {n : Nat} {p : Int} (h : AtIs an dr C n p) (i : Nat) (hi : i < n) :
    exAt an dv dr C i = if (i : Int) = p then (if 0 < dr then 6 + dv else 5) else 3 := by
  rcases h with ⟨rfl, rfl⟩ | ⟨rfl, ⟨rfl, hq⟩ | ⟨k, hk, rfl, hP, hq⟩⟩
  · rw [if_neg (by omega)]; simp [exAt, exOf, annAt_true]
  · rw [if_neg (by omega)]; simp [exAt, exOf, annAt_quiet dr C i (fun j hj => hq j (by omega)), hq i hi]; intro h; have := (hq i hi).1; omega
  · by_cases e : i = k
    · subst e
      rw [if_pos rfl]
      simp only [exAt, exOf, annAt_quiet dr C i hq]
      by_cases hd : 0 < dr
      · simp [hd]
      · have : C i = true := by rcases hP with h | h; exact absurd h hd; exact h
        simp [hd, this]
    · rw [if_neg (by omega)]
      by_cases e2 : i < k
      · simp [exAt, exOf, annAt_quiet dr C i (fun j hj => hq j (by omega)), hq i e2]; intro h; have := (hq i e2).1; omega
      · simp [exAt, exOf, annAt_loud false dr C k i (by omega) hP]

theorem ann_is {an : Bool} {dr : Int} {C : Nat → Bool} {n : Nat} {p : Int} (h : AtIs an dr C n p) : annAt an dr C n = (an || decide (0 ≤ p)) := by
  rcases h with ⟨rfl, rfl⟩ | ⟨rfl, ⟨rfl, hq⟩ | ⟨k, hk, rfl, hP, hq⟩⟩
  · simp [annAt_true]
  · simp [annAt_quiet dr C n hq]
  · simp [annAt_loud false dr C k n hk hP]

/-! ### The walk -/
set_option maxRecDepth 100000 in
/-- A test ahead of the script fails: true at once. -/
theorem law_early (a0 : Option Addr) (l0 c0 : Nat) (an : Bool) (dv dr : Int) (a4 : Option Addr) (l4 c4 : Nat) (a5 : Option Addr) (l5 c5 : Nat) (w : World)
    (h0 : l0 ≤ maxLen) (h4 : l4 ≤ maxLen) (h5 : l5 ≤ maxLen) (hne : l5 ≠ l4 ∨ 65536 < l0 ∨ 16384 < l4 ∨ 1 < dv ∨ dr < 0) :
    Calls Try.prog 4 #[.slice a0 l0 c0, .bool an, .int .u8 dv, .int .i64 dr, .slice a4 l4 c4, .slice a5 l5 c5] w fun e w' => e = .returned (.bool true) ∧ Below w.heap.size w w' := by
  unfold maxLen at h0 h4 h5
  go_enter Try.func4, Try.ntmps4
  go_wp2_with (go_at_call 12; refine (bytes_any a0 l0 c0 an dv dr a4 l4 c4 a5 l5 c5 _ (by unfold maxLen; omega) (by unfold maxLen; omega) (by unfold maxLen; omega)).mono ?_; rintro e w' ⟨⟨ok, rfl⟩, rfl⟩)
  all_goals (go_ret; exact ⟨rfl, Below.refl _ _⟩)

set_option maxRecDepth 100000 in
/-- No share at all, and a script that is not empty: true at its first test. -/
theorem law_noshare (a0 : Option Addr) (c0 : Nat) (an : Bool) (dv dr : Int) (b4 o4 n c4 : Nat) (a5 : Option Addr) (c5 : Nat) (K : Nat → Nat) (w : World)
    (hn : 0 < n) (hn1 : n ≤ 16384) (hdv1 : dv ≤ 1) (hdr : 0 ≤ dr) (hK : K 0 ≤ 4294967295)
    (hks : w.cell? ⟨b4, o4, none⟩ = some (.int .u32 (K 0))) :
    Calls Try.prog 4 #[.slice a0 0 c0, .bool an, .int .u8 dv, .int .i64 dr, .slice (some ⟨b4, o4, none⟩) n c4, .slice a5 n c5] w fun e w' => e = .returned (.bool true) ∧ Below w.heap.size w w' := by
  go_enter Try.func4, Try.ntmps4
  go_wp2_with (go_at_call 12; refine (bytes_any a0 0 c0 an dv dr (some ⟨b4, o4, none⟩) n c4 a5 n c5 _ (by unfold maxLen; omega) (by unfold maxLen; omega) (by unfold maxLen; omega)).mono ?_; rintro e w' ⟨⟨ok, rfl⟩, rfl⟩)
  · go_ret
    exact ⟨rfl, Below.refl _ _⟩
  · refine wp_loop_rounds 1 ?_
    rw [rounds_succ]
    by_cases hk0 : K 0 = 0
    · go_wp2
      go_ret
      exact ⟨rfl, Below.refl _ _⟩
    · go_wp2
      go_ret
      exact ⟨rfl, Below.refl _ _⟩

set_option maxHeartbeats 4000000 in
set_option maxRecDepth 100000 in
/-- The script whole: at least one call. -/
theorem law_script (b0 o0 l0 c0 : Nat) (an : Bool) (dv dr : Int) (b4 o4 n c4 b5 o5 c5 : Nat) (Z : Nat → Int) (K : Nat → Nat) (C : Nat → Bool) (w : World)
    (hl0 : l0 ≤ 65536) (hn : 0 < n) (hn1 : n ≤ 16384) (hdv : 0 ≤ dv) (hdv1 : dv ≤ 1) (hdr : 0 ≤ dr) (hK : ∀ i, i < n → K i ≤ 4294967295)
    (hsh : ∀ i, i < l0 → w.cell? ⟨b0, o0 + i, none⟩ = some (.int .u64 (Z i))) (hb0 : 0 < l0 → b0 < w.heap.size)
    (hks : ∀ i, i < n → w.cell? ⟨b4, o4 + i, none⟩ = some (.int .u32 (K i))) (hb4 : b4 < w.heap.size)
    (hce : ∀ i, i < n → w.cell? ⟨b5, o5 + i, none⟩ = some (.bool (C i))) (hb5 : b5 < w.heap.size) :
    Calls Try.prog 4 #[.slice (some ⟨b0, o0, none⟩) l0 c0, .bool an, .int .u8 dv, .int .i64 dr, .slice (some ⟨b4, o4, none⟩) n c4, .slice (some ⟨b5, o5, none⟩) n c5] w fun e w' => e = .returned (.bool true) ∧ Below w.heap.size w w' := by
  go_enter Try.func4, Try.ntmps4
  go_wp2_with (go_at_call 12; refine (bytes_any (some ⟨b0, o0, none⟩) l0 c0 an dv dr (some ⟨b4, o4, none⟩) n c4 (some ⟨b5, o5, none⟩) n c5 _ (by unfold maxLen; omega) (by unfold maxLen; omega) (by unfold maxLen; omega)).mono ?_; rintro e w' ⟨⟨ok, rfl⟩, rfl⟩)
  · go_ret
    exact ⟨rfl, Below.refl _ _⟩
  · go_loop [13] (fun i => ∃ k : Nat, k ≤ n ∧ i = .int .i64 k ∧ ∀ j, j < k → 1 ≤ K j ∧ K j ≤ l0) (fun i => n - (intOf i).toNat)
    case atStart => exact ⟨0, Nat.zero_le _, rfl, fun j hj => by omega⟩
    case round =>
      obtain ⟨k, hk, rfl, hall⟩ := hrel
      by_cases hlt : k < n
      · have hcx := hks k hlt
        have hKk := hK k hlt
        have HA : Hid (∀ j, j < k → 1 ≤ K j ∧ K j ≤ l0) := hall
        clear hall
        by_cases hz : K k = 0
        · have hz1 : ((K k : Int) == 0) = true := by simp [hz]
          clear hz
          go_wp2
          go_ret
          exact ⟨rfl, Below.refl _ _⟩
        · have hz1 : ((K k : Int) == 0) = false := by simp [hz]
          by_cases hb : K k ≤ l0
          · go_wp2
            go_round
            case rel =>
              refine ⟨k + 1, by omega, by go_num, fun j hj => ?_⟩
              by_cases e : j = k
              · subst e; omega
              · exact HA.out j (by omega)
            case measure => simp [intOf]; omega
          · go_wp2
            go_ret
            exact ⟨rfl, Below.refl _ _⟩
      · have hkn : n = k := by omega
        subst hkn
        have hl1 : 1 ≤ l0 := by have := hall 0 hn; omega
        have hb0' := hb0 hl1
        go_wp2_with (first | (go_at_call 13; refine (clone_some b0 o0 l0 c0 Z _ hl0 hsh hb0).mono ?_; rintro e w1 ⟨rfl, hbel1, hrow1⟩; have hsz1 := hbel1.size; have hlt1 := hrow1.lt) | (go_at_call 14; refine (new_any _ _ _ _ _ _ _).mono ?_; rintro e w2 ⟨rfl, hsz2, hbel2, hnode2⟩))
        have HK : Hid (∀ i, i < n → w2.cell? ⟨b4, o4 + i, none⟩ = some (.int .u32 (K i))) := fun i hi => (hbel2.cell (by simp; omega)).trans ((hbel1.cell hb4).trans (hks i hi))
        have HC : Hid (∀ i, i < n → w2.cell? ⟨b5, o5 + i, none⟩ = some (.bool (C i))) := fun i hi => (hbel2.cell (by simp; omega)).trans ((hbel1.cell hb5).trans (hce i hi))
        have HZ : Hid (∀ i, i < l0 → w2.cell? ⟨w.heap.size, i, none⟩ = some (.int .u64 (Z i))) := fun i hi => (hbel2.cell (by simpa using hlt1)).trans (hrow1.cell hi)
        have HB : Hid (Below w.heap.size w w2) := hbel1.trans (hbel2.mono hsz1)
        have HA : Hid (∀ j, j < n → 1 ≤ K j ∧ K j ≤ l0) := hall
        have HN : Hid (Node w2 w1.heap.size (.slice (some ⟨w.heap.size, 0, none⟩) l0 l0) dv dr an) := hnode2
        clear hall hks hce hsh hbel1 hbel2 hrow1 hnode2 hlt
        go_loopw [15, 16] (fun v i wr => ∃ k : Nat, k ≤ n ∧ i = .int .i64 k ∧ wr.ownsRow (w1.heap.size + 1) 47 3 v k (msgs an dv dr C K Z k) ∧ Below w1.heap.size w2 wr ∧ Node wr w1.heap.size (.slice (some ⟨w.heap.size, 0, none⟩) l0 l0) dv dr (annAt an dr C k))
          (fun _ i _ => n - (intOf i).toNat)
        case atStart => exact ⟨0, Nat.zero_le _, rfl, World.ownsRow_nil _ _ _ _, Below.refl _ _, HN.out⟩
        case round =>
          obtain ⟨k, hk, rfl, hown, hbel, hnode⟩ := hrel
          by_cases hlt : k < n
          · have hck : wr.cell? ⟨b4, o4 + k, none⟩ = some (.int .u32 (K k)) := (hbel.cell (by simp; omega)).trans (HK.out k hlt)
            have hcc : wr.cell? ⟨b5, o5 + k, none⟩ = some (.bool (C k)) := (hbel.cell (by simp; omega)).trans (HC.out k hlt)
            have hKb := HA.out k hlt
            have hcz : wr.cell? ⟨w.heap.size, K k - 1, none⟩ = some (.int .u64 (Z (K k - 1))) := (hbel.cell (by simpa using hlt1)).trans (HZ.out _ (by omega))
            have hz0 : (0 : Int) ≤ (k : Int) := by omega
            have hz1 : (k : Int) < (n : Int) := by omega
            have hws : w1.heap.size < wr.heap.size := by have := hbel.size; omega
            have HO : Hid (wr.ownsRow (w1.heap.size + 1) 47 3 u15 k (msgs an dv dr C K Z k)) := hown
            have HNd : Hid (Node wr.drew w1.heap.size (.slice (some ⟨w.heap.size, 0, none⟩) l0 l0) dv dr (annAt an dr C k)) := ⟨hnode.c4, hnode.c16, hnode.c17, hnode.c18, hnode.f18⟩
            have HBl : Hid (Below w1.heap.size w2 wr) := hbel
            clear hown hnode hbel
            go_wp2_with fail
            go_region_held3 (fun w' => w'.cell? ⟨b4, o4 + k, none⟩ = some (.int .u32 (K k)) ∧ w'.cell? ⟨b5, o5 + k, none⟩ = some (.bool (C k))) (first | go_keep | exact ⟨(hl.2.1.cell (by simp; omega)).trans hck, (hl.2.1.cell (by simp; omega)).trans hcc⟩)
              (first | (go_at_call 15; refine (zreveal_any w1.heap.size w.heap.size l0 l0 (K k) (Z (K k - 1)) dv dr (annAt an dr C k) (C k) u15 k (msgs an dv dr C K Z k) wr.drew hKb.1 hKb.2 hl0 (by omega) hlt1 hws hdv hdv1 hcz HNd.out HO.out).mono ?_; rintro e w' ⟨v', rfl, hl⟩))
            go_wp2
            go_roundw
            case rel => exact ⟨k + 1, by omega, by go_num, hl.1, HBl.out.trans (Below.trans (Below.refl _ _).drew hl.2.1), hl.2.2⟩
            case measure => simp [intOf]; omega
          · have hkn : n = k := by omega
            subst hkn
            obtain ⟨g, cap, hv, hgb, hgl⟩ := hown.form hn
            subst hv
            have HO : Hid (wr.ownsRow (w1.heap.size + 1) 47 3 (.slice (some ⟨g, 0, none⟩) n cap) n (msgs an dv dr C K Z n)) := hown
            have HNd : Hid (Node wr w1.heap.size (.slice (some ⟨w.heap.size, 0, none⟩) l0 l0) dv dr (annAt an dr C n)) := hnode
            have HBl : Hid (Below w1.heap.size w2 wr) := hbel
            have hcc : ∀ k, k < n → wr.cell? ⟨b5, o5 + k, none⟩ = some (.bool (C k)) := fun k hk => (hbel.cell (by simp; omega)).trans (HC.out k hk)
            clear hown hnode hbel hlt
            go_upto_if 101 with fail
            go_cut [17] (fun p wx => ∃ q : Int, p = .int .i64 q ∧ AtIs an dr C n q ∧ wx = wr)
            case first =>
              cases an
              · go_wp2
                go_loop [17, 18] (fun p i => ∃ k : Nat, k ≤ n ∧ i = .int .i64 k ∧ p = .int .i64 (-1) ∧ ∀ j, j < k → dr ≤ 0 ∧ C j = false) (fun _ i => n - (intOf i).toNat)
                case atStart => exact ⟨0, Nat.zero_le _, rfl, rfl, fun j hj => by omega⟩
                case round =>
                  obtain ⟨k, hk, rfl, rfl, hq⟩ := hrel
                  have HQ : Hid (∀ j, j < k → dr ≤ 0 ∧ C j = false) := hq
                  clear hq
                  by_cases hlt : k < n
                  · have hck := hcc k hlt
                    clear hcc
                    by_cases hd : 0 < dr
                    · go_wp2
                      go_meet
                      exact ⟨k, rfl, .inr ⟨rfl, .inr ⟨k, hlt, rfl, .inl hd, HQ.out⟩⟩, rfl⟩
                    · have hd0 : dr = 0 := by omega
                      have hdd : decide (0 < dr) = false := by simp [hd0]
                      clear hd0
                      cases hC : C k
                      · rw [hC] at hck
                        have HC1 : Hid (C k = false) := hC
                        clear hC
                        go_wp2
                        go_round
                        case rel =>
                          refine ⟨k + 1, by omega, by go_num, rfl, fun j hj => ?_⟩
                          by_cases e : j = k
                          · subst e; exact ⟨by omega, HC1.out⟩
                          · exact HQ.out j (by omega)
                        case measure => simp [intOf]; omega
                      · rw [hC] at hck
                        have HC1 : Hid (C k = true) := hC
                        clear hC
                        go_wp2
                        go_meet
                        exact ⟨k, rfl, .inr ⟨rfl, .inr ⟨k, hlt, rfl, .inr HC1.out, HQ.out⟩⟩, rfl⟩
                  · have hkn : n = k := by omega
                    subst hkn
                    go_wp2
                    go_meet
                    exact ⟨-1, rfl, .inr ⟨rfl, .inl ⟨rfl, HQ.out⟩⟩, rfl⟩
              · go_wp2
                go_meet
                exact ⟨-1, rfl, .inl ⟨rfl, rfl⟩, rfl⟩
            case rest =>
              obtain ⟨q, rfl, hat, rfl⟩ := hcut
              have HW : Hid (∀ i : Nat, i < n → exAt an dv dr C i = if (i : Int) = q then (if 0 < dr then 6 + dv else 5) else 3) := fun i hi => want_is hat i hi
              have HE : Hid (annAt an dr C n = (an || decide (0 ≤ q))) := ann_is hat
              have HM : Hid (∀ i : Nat, i < n → wc.cell? ⟨g, i * 3, none⟩ = some (.int .u8 (exAt an dv dr C i)) ∧ wc.cell? ⟨g, i * 3 + 1, none⟩ = some (.int .u32 (K i)) ∧ wc.cell? ⟨g, i * 3 + 2, none⟩ = some (.int .u32 (Z (K i - 1) % 4294967296))) := by
                intro i hi
                have h := msgs_get an dv dr C K Z n i hi
                rw [HO.out.cellAt (i * 3) (by omega), HO.out.cellAt (i * 3 + 1) (by omega), HO.out.cellAt (i * 3 + 2) (by omega), Nat.mul_comm i 3]
                exact h
              have HK' : Hid (∀ i, i < n → wc.cell? ⟨b4, o4 + i, none⟩ = some (.int .u32 (K i))) := fun i hi => (HBl.out.cell (by simp; omega)).trans (HK.out i hi)
              have HZ' : Hid (∀ i, i < l0 → wc.cell? ⟨w.heap.size, i, none⟩ = some (.int .u64 (Z i))) := fun i hi => (HBl.out.cell (by simpa using hlt1)).trans (HZ.out i hi)
              have HB' : Hid (Below w.heap.size w wc) := HB.out.trans (HBl.out.mono hsz1)
              have hNc : Hid (wc.cell? ⟨w1.heap.size, 18, none⟩ = some (.bool (annAt an dr C n))) := HNd.out.c18
              have hws : w1.heap.size < wc.heap.size := by have := HBl.out.size; omega
              have hwb : b4 < wc.heap.size := by omega
              have hws1 : w.heap.size < wc.heap.size := by omega
              clear hat hcc HNd HO HBl HK HZ HB HC HN
              go_wp2_with fail
              go_loopw [19] (fun i wx => ∃ k : Nat, k ≤ n ∧ i = .int .i64 k ∧ Below wc.heap.size wc wx) (fun i _ => n - (intOf i).toNat)
              case atStart => exact ⟨0, Nat.zero_le _, rfl, Below.refl _ _⟩
              case round =>
                obtain ⟨k, hk, rfl, hbel⟩ := hrel
                by_cases hlt : k < n
                · have hck : wr.cell? ⟨b4, o4 + k, none⟩ = some (.int .u32 (K k)) := (hbel.cell (by simpa using hwb)).trans (HK'.out k hlt)
                  have hKb := HA.out k hlt
                  have hcz : wr.cell? ⟨w.heap.size, K k - 1, none⟩ = some (.int .u64 (Z (K k - 1))) := (hbel.cell (by simpa using hws1)).trans (HZ'.out _ (by omega))
                  obtain ⟨m0, m1, m2⟩ := HM.out k hlt
                  have hm0 : wr.cell? ⟨g, k * 3, none⟩ = some (.int .u8 (exAt an dv dr C k)) := (hbel.cell (by simpa using hgl)).trans m0
                  have hm1 : wr.cell? ⟨g, k * 3 + 1, none⟩ = some (.int .u32 (K k)) := (hbel.cell (by simpa using hgl)).trans m1
                  have hm2 : wr.cell? ⟨g, k * 3 + 2, none⟩ = some (.int .u32 (Z (K k - 1) % 4294967296)) := (hbel.cell (by simpa using hgl)).trans m2
                  have hz0 : (0 : Int) ≤ (k : Int) := by omega
                  have hz1 : (k : Int) < (n : Int) := by omega
                  have hwt := HW.out k hlt
                  have hsr := hbel.size
                  have hb4r : b4 < wr.heap.size := by omega
                  have hbcr : w.heap.size < wr.heap.size := by omega
                  have hbgr : g < wr.heap.size := by omega
                  have HBr : Hid (Below wc.heap.size wc wr) := hbel
                  clear hbel m0 m1 m2
                  by_cases hq : (k : Int) = q
                  · rw [if_pos hq] at hwt
                    have hqb : ((k : Int) == q) = true := by simp [hq]
                    clear hq
                    by_cases hd : 0 < dr
                    · rw [if_pos hd] at hwt
                      rw [hwt] at hm0
                      clear hwt
                      go_wp2_with fail
                      go_quiet (fail)
                      go_wp2
                      go_roundw
                      case rel => exact ⟨k + 1, by omega, by go_num, below_drewN (HBr.out.alloc hsr _) _⟩
                      case measure => simp [intOf]; omega
                    · rw [if_neg hd] at hwt
                      rw [hwt] at hm0
                      have hd0 : dr ≤ 0 := by omega
                      clear hwt hd
                      go_wp2_with fail
                      go_quiet (fail)
                      go_wp2
                      go_roundw
                      case rel => exact ⟨k + 1, by omega, by go_num, below_drewN (HBr.out.alloc hsr _) _⟩
                      case measure => simp [intOf]; omega
                  · rw [if_neg hq] at hwt
                    rw [hwt] at hm0
                    have hqb : ((k : Int) == q) = false := by simp [hq]
                    clear hq hwt
                    go_wp2_with fail
                    go_quiet (fail)
                    go_wp2
                    go_roundw
                    case rel => exact ⟨k + 1, by omega, by go_num, below_drewN (HBr.out.alloc hsr _) _⟩
                    case measure => simp [intOf]; omega
                · have hkn : n = k := by omega
                  subst hkn
                  have hcn : wr.cell? ⟨w1.heap.size, 18, none⟩ = some (.bool (an || decide (0 ≤ q))) := by
                    rw [← HE.out]; exact (hbel.cell (by simpa using hws)).trans hNc.out
                  have HBr : Hid (Below w.heap.size w wr) := HB'.out.trans (hbel.mono (by omega))
                  clear hbel hlt
                  go_wp2_with (go_at_call 16; refine (announced_any w1.heap.size _ _ hcn).mono ?_; rintro e w' ⟨rfl, rfl⟩)
                  all_goals (go_ret; exact ⟨rfl, HBr.out⟩)

end Go.Proofs.Qxb6609496a.Reveal
