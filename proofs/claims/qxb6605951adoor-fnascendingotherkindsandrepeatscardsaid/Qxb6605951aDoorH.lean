/-
  The walks of bytes.Compare, inside, Bytes.
-/
import Derived.Test.Qxb6605951aDoorG
import Derived.Test.Qxb6605951aDoorShelf
import Derived.Lib.BytesEntry
import Derived.Laws.Externs
import Derived.Deep.QuietTactic
import Derived.BigQuiet
namespace Go.Proofs.Qxb6605951aDoor
open Go.RowKit

/-- The cells from 'a' on hold the bytes l. -/
def BytesAt (w : World) (a : Addr) (l : List Int) : Prop := ∀ (j : Nat) (x : Int), l[j]? = some x → w.cell? (a.add j) = some (.int .u8 x)

theorem run_compareAt {P : Program} (w : World) (a b : Addr) (c d : Nat) (l m : List Int) (ha : BytesAt w a l) (hb : BytesAt w b m) :
    (Extern.BytealgCompare.compare #[.slice (some a) l.length c, .slice (some b) m.length d]).run P w = .ok (.int .i64 (Lib.compareBytes (Lib.bytesOf l) (Lib.bytesOf m))) w := by
  have he : ∀ xs : List Int, (⟨ByteArray.empty.data ++ (Lib.bytesOf xs).toArray⟩ : ByteArray) = ⟨(Lib.bytesOf xs).toArray⟩ := fun xs => by
    apply ByteArray.ext
    show (#[] : Array UInt8) ++ (Lib.bytesOf xs).toArray = (Lib.bytesOf xs).toArray
    simp
  have h1 := Lib.run_loadBytesX (P := P) w l a .empty ha
  have h2 := Lib.run_loadBytesX (P := P) w m b .empty hb
  rw [he] at h1 h2
  change Sem.run P (do pure (goInt (Extern.BytealgCompare.cmp (← Extern.Bytes.bytesOf (.slice (some a) l.length c)) (← Extern.Bytes.bytesOf (.slice (some b) m.length d))))) w = _
  simp only [Extern.Bytes.bytesOf, Sem.run_bind, Sem.run_pure, h1, h2, Result.andThen]
  rw [Lib.cmp_eq]
  rfl

theorem f18_any (a b : Addr) (c d : Nat) (l m : List Int) (w : World) (ha : BytesAt w a l) (hb : BytesAt w b m) :
    Calls Tryd.prog 18 #[.slice (some a) l.length c, .slice (some b) m.length d] w fun e w' => e = .returned (.int .i64 (Lib.compareBytes (Lib.bytesOf l) (Lib.bytesOf m))) ∧ w' = w := by
  have HR := run_compareAt (P := Tryd.prog) w a b c d l m ha hb
  go_enter Tryd.func18, Tryd.ntmps18
  go_wp2
  rw [run_callFunc_extern Tryd.func24 (by kernel_rfl) (by kernel_rfl) (by kernel_rfl) (e := Extern.BytealgCompare.compare) (by kernel_rfl), HR]
  simp only [Result.andThen]
  rw [Oper.upon_value]
  go_wp2
  go_ret
  exact ⟨rfl, rfl⟩

/-- inside: a cursor at the first value. -/
theorem f21_any (k : Int) (vr vn : Value) (h1 : ∃ a n c, vr = .slice a n c) (h2 : ∃ a n c, vn = .slice a n c) (w : World) :
    Calls Tryd.prog 21 #[.agg #[.int .u8 k, vr, vn, .nilIface]] w fun e w' => e = .returned (.agg #[.int .u8 k, vr, vn, .nilIface, .int .i64 1, .int .i64 0]) ∧ Below w.heap.size w w' := by
  obtain ⟨a1, n1, c1, rfl⟩ := h1
  obtain ⟨a2, n2, c2, rfl⟩ := h2
  go_enter Tryd.func21, Tryd.ntmps21
  go_wp2
  exact bodyPost_ret (v := .agg #[.int .u8 k, .slice a1 n1 c1, .slice a2 n2 c2, .nilIface, .int .i64 1, .int .i64 0]) (by simp [results, Tryd.results21, go_sem]) rfl ⟨rfl, ((Below.refl _ w).alloc (Nat.le_refl _) _).alloc (by simp) _⟩

end Go.Proofs.Qxb6605951aDoor
