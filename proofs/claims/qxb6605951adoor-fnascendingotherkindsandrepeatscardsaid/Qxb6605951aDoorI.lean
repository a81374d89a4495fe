/-
  The walk of Bytes (a string's content).
-/
import Derived.Test.Qxb6605951aDoorH
import Derived.WalkSmall
namespace Go.Proofs.Qxb6605951aDoor
open Go.RowKit

theorem ofNat_digit {d : Int} (h1 : 48 ≤ d) (h2 : d ≤ 57) : (UInt8.ofNat d.toNat == 58) = false := by
  obtain ⟨n, rfl⟩ := Int.eq_ofNat_of_zero_le (show 0 ≤ d by omega)
  simp only [Int.toNat_natCast]
  have : n = 48 ∨ n = 49 ∨ n = 50 ∨ n = 51 ∨ n = 52 ∨ n = 53 ∨ n = 54 ∨ n = 55 ∨ n = 56 ∨ n = 57 := by omega
  rcases this with rfl | rfl | rfl | rfl | rfl | rfl | rfl | rfl | rfl | rfl <;> rfl

theorem index_colon : ∀ (ds rest : List Int), (∀ d ∈ ds, 48 ≤ d ∧ d ≤ (57 : Int)) → Lib.indexByte (Lib.bytesOf (ds ++ 58 :: rest)) 58 = (ds.length : Int)
  | [], rest, _ => by simp [Lib.bytesOf, Lib.indexByte]
  | d :: ds, rest, h => by
    have ih := index_colon ds rest (fun x hx => h x (by simp [hx]))
    obtain ⟨h1, h2⟩ := h d (by simp)
    have e : Lib.bytesOf (d :: ds ++ 58 :: rest) = UInt8.ofNat d.toNat :: Lib.bytesOf (ds ++ 58 :: rest) := rfl
    rw [e, Lib.indexByte, ofNat_digit h1 h2, ih]
    have : (((ds.length : Int)) == -1) = false := by simp
    simp [this]

/-- It handed back a slice of the bytes l; what lay there lies there. -/
def BytesMade (w : World) (g : Nat) (l : List Int) (e : Ending) (w' : World) : Prop := ∃ a c, e = .returned (.slice (some a) l.length c) ∧ BytesAt w a l ∧ a.block = g ∧ Below w.heap.size w w'

set_option maxHeartbeats 400000 in
theorem f23_any (g off n c : Nat) (vn : Value) (hvn : ∃ a n c, vn = .slice a n c) (ds rest : List Int) (hds : ∀ d ∈ ds, 48 ≤ d ∧ d ≤ (57 : Int)) (hn : n = ds.length + (1 + rest.length)) (hc : n ≤ c) (hn2 : n ≤ 10000000) (w : World)
    (h : BytesAt w ⟨g, off, none⟩ (ds ++ 58 :: rest)) :
    Calls Tryd.prog 23 #[.agg #[.int .u8 2, .slice (some ⟨g, off, none⟩) n c, vn, .nilIface]] w (BytesMade w g rest) := by
  obtain ⟨a2, n2, c2, rfl⟩ := hvn
  have hb : Below w.heap.size w (w.alloc (.cells #[.int .u8 2, .slice (some ⟨g, off, none⟩) n c, .slice a2 n2 c2, .nilIface] 32)) := (Below.refl _ w).alloc (Nat.le_refl _) _
  have HI : Hid (∀ nq, Calls Tryd.prog 27 #[.slice (some ⟨g, off, none⟩) n c, .int .u8 58] ((w.alloc (.cells #[.int .u8 2, .slice (some ⟨g, off, none⟩) n c, .slice a2 n2 c2, .nilIface] 32)).drewN nq) fun e w' => e = .returned (.int .i64 (ds.length : Int)) ∧ w' = ((w.alloc (.cells #[.int .u8 2, .slice (some ⟨g, off, none⟩) n c, .slice a2 n2 c2, .nilIface] 32)).drewN nq)) := by
    intro nq
    refine (Tryd.bytes_IndexByte_at ⟨g, off, none⟩ n c (ds ++ 58 :: rest) 58 _ (by rw [hn]; simp; omega) ?_).mono ?_
    · intro i hi
      have hx : (ds ++ 58 :: rest)[i]? = some ((ds ++ 58 :: rest).getD i 0) := by
        rw [List.getD_eq_getElem?_getD, List.getElem?_eq_getElem (by simp; omega)]; rfl
      have h1 := h i _ hx
      have h2 := hb.cell (p := (⟨g, off, none⟩ : Addr).add i) (World.block_lt_of_cell? w _ h1)
      have h3 : ((w.alloc (.cells #[.int .u8 2, .slice (some ⟨g, off, none⟩) n c, .slice a2 n2 c2, .nilIface] 32)).drewN nq).cell? ((⟨g, off, none⟩ : Addr).add i) = (w.alloc (.cells #[.int .u8 2, .slice (some ⟨g, off, none⟩) n c, .slice a2 n2 c2, .nilIface] 32)).cell? ((⟨g, off, none⟩ : Addr).add i) := by simp
      exact h3.trans (h2.trans h1)
    · rintro e w' ⟨rfl, rfl⟩
      refine ⟨?_, rfl⟩
      rw [show (58 : Int).toNat.toUInt8 = 58 from rfl, index_colon ds rest hds]
  have HN : Hid (n = ds.length + (1 + rest.length)) := hn
  have hle : ds.length + 1 ≤ n := by omega
  clear hn hb
  have e1 : n - (ds.length + 1) = rest.length := by have := HN.out; omega
  have HE : Hid (n - (ds.length + 1) = rest.length) := e1
  clear e1
  by_cases hcd : c = ds.length + 1
  · obtain rfl : rest = [] := List.eq_nil_of_length_eq_zero (by have := HE.out; omega)
    have HC : Hid (c = ds.length + 1) := hcd
    clear hcd
    go_enter Tryd.func23, Tryd.ntmps23
    go_wp2
    go_quiet ((go_at_call 27; exact Calls.quiet_of_same (HI.out _)))
    rw [if_pos HC.out]
    go_wp2
    go_ret
    exact ⟨⟨g, off, none⟩, c - (ds.length + 1), by show Ending.returned (.slice _ (n - (ds.length + 1)) _) = _; rw [HE.out], fun j x hx => by simp at hx, rfl, below_drewN ((Below.refl _ w).alloc (Nat.le_refl _) _) _⟩
  · have HC : Hid (¬ c = ds.length + 1) := hcd
    clear hcd
    go_enter Tryd.func23, Tryd.ntmps23
    go_wp2
    go_quiet ((go_at_call 27; exact Calls.quiet_of_same (HI.out _)))
    rw [if_neg HC.out]
    go_wp2
    go_ret
    refine ⟨⟨g, off + (ds.length + 1), none⟩, c - (ds.length + 1), by show Ending.returned (.slice _ (n - (ds.length + 1)) _) = _; rw [HE.out], fun j x hx => ?_, rfl, below_drewN ((Below.refl _ w).alloc (Nat.le_refl _) _) _⟩
    have := h (ds.length + 1 + j) x (by rw [List.getElem?_append_right (by omega)]; simpa [show ds.length + 1 + j - ds.length = j + 1 by omega] using hx)
    rw [Addr.add_lit] at this ⊢
    rw [← this, Nat.add_assoc]
end Go.Proofs.Qxb6605951aDoor
