/- bytes.Compare (31) over two spans; what one value's bytes are. -/
import Derived.Test.Qxb6609549aFmtDecD
import Derived.Lib.BytesEntry
namespace Go.Proofs.Qxb6609549aFmt.Dec
open Go.RowKit Go.ChangeShapes Go.WideShapes

/-- m bytes from o on. -/
def seg (bs : Nat → Int) (o m : Nat) : List Int := (List.range m).map (fun i => bs (o + i))
theorem seg_length (bs : Nat → Int) (o m : Nat) : (seg bs o m).length = m := by simp [seg]
theorem seg_get (bs : Nat → Int) (o m j : Nat) (h : j < m) : (seg bs o m)[j]? = some (bs (o + j)) := by simp [seg, h]
/-- The order of two keys. -/
def ord (K L : List Int) : Int := Lib.compareBytes (Lib.bytesOf K) (Lib.bytesOf L)

theorem load_any {w : World} {D o m c : Nat} {K : List Int} (hl : K.length = m) (hc : ∀ i x, K[i]? = some x → w.cell? ⟨D, o + i, none⟩ = some (.int .u8 x)) :
    (Extern.Bytes.bytesOf (.slice (some ⟨D, o, none⟩) m c)).run Tryf.prog w = .ok ⟨(Lib.bytesOf K).toArray⟩ w := by
  have h := Lib.run_loadBytesX (P := Tryf.prog) w K ⟨D, o, none⟩ .empty (fun j x hj => by rw [add_plain]; exact hc j x hj)
  rw [hl] at h
  show (Extern.Bytes.loadBytes ⟨D, o, none⟩ m .empty).run Tryf.prog w = _
  rw [h]
  congr 1
  apply ByteArray.ext
  show (#[] : Array UInt8) ++ (Lib.bytesOf K).toArray = _
  simp

theorem cmp_any (D o1 m1 c1 o2 m2 c2 : Nat) (K L : List Int) (w : World) (h1 : K.length = m1) (h2 : L.length = m2) (hK : ∀ i x, K[i]? = some x → w.cell? ⟨D, o1 + i, none⟩ = some (.int .u8 x)) (hL : ∀ i x, L[i]? = some x → w.cell? ⟨D, o2 + i, none⟩ = some (.int .u8 x)) :
    Calls Tryf.prog 31 #[.slice (some ⟨D, o1, none⟩) m1 c1, .slice (some ⟨D, o2, none⟩) m2 c2] w fun e w' => e = .returned (.int .i64 (ord K L)) ∧ w = w' := by
  have hrun : (Extern.BytealgCompare.compare #[.slice (some ⟨D, o1, none⟩) m1 c1, .slice (some ⟨D, o2, none⟩) m2 c2]).run Tryf.prog w = .ok (.int .i64 (ord K L)) w := by
    have hc : Extern.BytealgCompare.compare #[.slice (some ⟨D, o1, none⟩) m1 c1, .slice (some ⟨D, o2, none⟩) m2 c2] = (Extern.Bytes.bytesOf (.slice (some ⟨D, o1, none⟩) m1 c1) >>= fun x => Extern.Bytes.bytesOf (.slice (some ⟨D, o2, none⟩) m2 c2) >>= fun y => pure (goInt (Extern.BytealgCompare.cmp x y))) := rfl
    rw [hc]
    simp only [Sem.run_bind, load_any h1 hK, load_any h2 hL, Result.andThen_ok, Sem.run_pure, Lib.cmp_eq]
    rfl
  clear hK hL
  go_enter Tryf.func31, Tryf.ntmps31
  go_wp2
  rw [run_callFunc_extern Tryf.func34 (by kernel_rfl) (by kernel_rfl) (by kernel_rfl) (e := Extern.BytealgCompare.compare) (by kernel_rfl), hrun]
  simp only [Result.andThen]
  rw [Oper.upon_value]
  go_wp2
  go_ret
  exact ⟨rfl, rfl⟩
end Go.Proofs.Qxb6609549aFmt.Dec
