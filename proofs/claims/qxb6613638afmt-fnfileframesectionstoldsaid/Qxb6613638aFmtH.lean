/-
  The walk of footerFramed.
-/
import Derived.Test.Qxb6613638aFmtC
import Derived.Test.Qxb6613638aFmtShelf
namespace Go.Proofs.Qxb6613638aFmt
open Go.RowKit Go.Extern

/-- The string holds the byte. -/
def holds (s : ByteArray) (c : Int) : Bool := decide (0 ≤ Lib.indexByte s.data.toList c.toNat.toUInt8)

set_option maxRecDepth 4000 in
theorem f35_any (s : ByteArray) (w : World) : Calls Tryf.prog 35 #[.string s] w (MayErr w (holds s 0 || holds s 10) { data := #[51, 46, 51] }) := by
  have HE : Hid (∀ (h : ByteArray), Calls Tryf.prog 33 #[.string { data := #[51, 46, 51] }, .string { data := #[116, 104, 101, 32, 102, 111, 111, 116, 101, 114, 39, 115, 32, 84, 90, 32, 115, 116, 114, 105, 110, 103, 32, 37, 113, 32, 104, 111, 108, 100, 115, 32, 97, 32, 37, 115] }, .slice (some ⟨w.heap.size, 0, none⟩) 2 2] (w.alloc (.cells #[.iface 9 (.string s), .iface 9 (.string h)] 20)) (Erred w { data := #[51, 46, 51] })) := fun h =>
    f33_new { data := #[51, 46, 51] } { data := #[116, 104, 101, 32, 102, 111, 111, 116, 101, 114, 39, 115, 32, 84, 90, 32, 115, 116, 114, 105, 110, 103, 32, 37, 113, 32, 104, 111, 108, 100, 115, 32, 97, 32, 37, 115] } #[.iface 9 (.string s), .iface 9 (.string h)] 2 rfl 20 [(0, 113, false), (1, 115, false)] (by kernel_rfl) (by decide) (by
      intro v hv
      simp at hv
      rcases hv with rfl | rfl
      · exact .string _
      · exact .string _) w
  have I0 := hide (Tryf.strings_IndexByte s 0 w)
  have I1 := hide (Tryf.strings_IndexByte s 10 w)
  have e0 : holds s 0 = decide (0 ≤ Lib.indexByte s.data.toList (0 : Int).toNat.toUInt8) := rfl
  have e1 : holds s 10 = decide (0 ≤ Lib.indexByte s.data.toList (10 : Int).toNat.toUInt8) := rfl
  rw [e0, e1]
  clear e0 e1
  generalize Lib.indexByte s.data.toList (0 : Int).toNat.toUInt8 = z0 at *
  generalize Lib.indexByte s.data.toList (10 : Int).toNat.toUInt8 = z1 at *
  by_cases h0 : 0 ≤ z0
  · have hb : (decide (0 ≤ z0) || decide (0 ≤ z1)) = true := by simp [h0]
    rw [hb]
    clear hb I1
    go_enter Tryf.func35, Tryf.ntmps35
    go_wp2_with (first | (go_at_call 44; refine (unhide I0).mono ?_; rintro e w' ⟨rfl, hw⟩; obtain rfl := hw.symm) | (go_at_call 33; refine (unhide HE _).mono ?_; rintro e w' ⟨b, g, msg, rfl, hrest⟩; have HH := hide hrest; clear hrest))
    go_ret
    exact .inl ⟨rfl, b, g, msg, rfl, unhide HH⟩
  · by_cases h1 : 0 ≤ z1
    · have hb : (decide (0 ≤ z0) || decide (0 ≤ z1)) = true := by simp [h1]
      rw [hb]
      clear hb
      go_enter Tryf.func35, Tryf.ntmps35
      go_wp2_with (first | (go_at_call 44; refine (unhide I0).mono ?_; rintro e w' ⟨rfl, hw⟩; obtain rfl := hw.symm) | (go_at_call 44; refine (unhide I1).mono ?_; rintro e w' ⟨rfl, hw⟩; obtain rfl := hw.symm) | (go_at_call 33; refine (unhide HE _).mono ?_; rintro e w' ⟨b, g, msg, rfl, hrest⟩; have HH := hide hrest; clear hrest))
      go_ret
      exact .inl ⟨rfl, b, g, msg, rfl, unhide HH⟩
    · have hb : (decide (0 ≤ z0) || decide (0 ≤ z1)) = false := by simp; omega
      rw [hb]
      clear hb HE
      go_enter Tryf.func35, Tryf.ntmps35
      go_wp2_with (first | (go_at_call 44; refine (unhide I0).mono ?_; rintro e w' ⟨rfl, hw⟩; obtain rfl := hw.symm) | (go_at_call 44; refine (unhide I1).mono ?_; rintro e w' ⟨rfl, hw⟩; obtain rfl := hw.symm))
      go_ret
      exact .inr ⟨rfl, rfl, Below.refl _ _⟩
end Go.Proofs.Qxb6613638aFmt
