/-
  The walk of indicatorsFramed.
-/
import Derived.Test.Qxb6613638aFmtC
import Derived.StillTailTactics
import Derived.Stop.IfaceNil
namespace Go.Proofs.Qxb6613638aFmt
open Go.RowKit Go.Extern

theorem Tryf.mixedE : Tryf.prog.follows .mixedOrders = true := by kernel_rfl

/-- The counts that indicatorsFramed reads. -/
structure HdrAt (w : World) (hb : Nat) (u s t : Int) : Prop where
  c1 : w.cell? ⟨hb, 1, none⟩ = some (.int .u32 u)
  c2 : w.cell? ⟨hb, 2, none⟩ = some (.int .u32 s)
  c5 : w.cell? ⟨hb, 5, none⟩ = some (.int .u32 t)

theorem HdrAt.below {w w' : World} {hb : Nat} {u s t : Int} (h : HdrAt w hb u s t) (b : Below w.heap.size w w') : HdrAt w' hb u s t :=
  ⟨(b.cell (World.block_lt_of_cell? w _ h.c1)).trans h.c1, (b.cell (World.block_lt_of_cell? w _ h.c2)).trans h.c2, (b.cell (World.block_lt_of_cell? w _ h.c5)).trans h.c5⟩

set_option maxRecDepth 20000 in
set_option maxHeartbeats 1000000 in
theorem f38_any (hb : Nat) (nm : ByteArray) (u s t : Int) (w : World) (h : HdrAt w hb u s t) :
    Calls Tryf.prog 38 #[.pointer (some ⟨hb, 0, none⟩), .string nm] w (MayErr w (bad u t || bad s t) { data := #[51, 46, 49] }) := by
  have q1 := h.c1; have q5 := h.c5
  have HH := hide h
  clear h
  have F1 : Hid (∀ wx, Calls Tryf.prog 46 #[.string nm, .string { data := #[105, 115, 117, 116, 99, 110, 116] }, .int .u32 u, .int .u32 t] wx (MayErr wx (bad u t) { data := #[51, 46, 49] })) := fun wx => f46_any _ _ _ _ wx
  have F2 : Hid (∀ wx, Calls Tryf.prog 46 #[.string nm, .string { data := #[105, 115, 115, 116, 100, 99, 110, 116] }, .int .u32 s, .int .u32 t] wx (MayErr wx (bad s t) { data := #[51, 46, 49] })) := fun wx => f46_any _ _ _ _ wx
  go_enter Tryf.func38, Tryf.ntmps38
  go_wp2
  refine wp_region_still_tail 9 Tryf.mixedE (by kernel_rfl) ?_
  simp only [List.take_succ_cons, List.take_zero, List.drop_succ_cons, List.drop_zero]
  repeat still_step
  refine wpStill_nil ?_
  obtain ⟨W2, hW2⟩ : ∃ W, ({ w with drawn := w.drawn + 1 } : World) = W := ⟨_, rfl⟩
  rw [hW2]
  have hb2 : Below w.heap.size w W2 := by rw [← hW2]; exact (Below.refl _ w).drew
  have hs2 : W2.heap.size = w.heap.size := by rw [← hW2]
  have HHD := hide ((unhide HH).below hb2)
  clear hW2 q1 q5 HH
  go_wp2_with (go_at_call 46; refine (unhide F1 _).mono ?_)
  intro e w1 he
  rcases he with ⟨hbad, b, g, msg, rfl, hrest⟩ | ⟨hbad, rfl, hb3⟩
  · have HR : Hid (Erred w { data := #[51, 46, 49] } (.returned (.iface 85 (.pointer (some ⟨b, 0, none⟩)))) w1) := Erred.old ⟨b, g, msg, rfl, hrest⟩ hb2
    clear hrest HHD F1 F2 hb2 hs2
    go_wp2
    go_ret
    exact .inl ⟨by rw [hbad]; rfl, unhide HR⟩
  · have h3 := (unhide HHD).below hb3
    have hb4 : Below w.heap.size w w1 := hb2.trans (hb3.mono (by omega))
    have q2 := h3.c2; have q5 := h3.c5
    have HB4 := hide hb4
    clear hb4 hb3 hb2 hs2 h3 HHD F1
    go_wp2
    refine wp_region_still_tail 9 Tryf.mixedE (by kernel_rfl) ?_
    simp only [List.take_succ_cons, List.take_zero, List.drop_succ_cons, List.drop_zero]
    repeat still_step
    refine wpStill_nil ?_
    obtain ⟨W3, hW3⟩ : ∃ W, ({ w1 with drawn := w1.drawn + 1 } : World) = W := ⟨_, rfl⟩
    rw [hW3]
    have hb5 : Below w.heap.size w W3 := by rw [← hW3]; exact (unhide HB4).drew
    clear hW3 q2 q5 HB4
    go_wp2_with (go_at_call 46; refine (unhide F2 _).mono ?_)
    intro e w4 he
    rcases he with ⟨hbad2, b, g, msg, rfl, hrest⟩ | ⟨hbad2, rfl, hb6⟩
    · have HR : Hid (Erred w { data := #[51, 46, 49] } (.returned (.iface 85 (.pointer (some ⟨b, 0, none⟩)))) w4) := Erred.old ⟨b, g, msg, rfl, hrest⟩ hb5
      clear hrest F2 hb5
      go_wp2
      go_ret
      exact .inl ⟨by rw [hbad, hbad2]; rfl, unhide HR⟩
    · have hb7 : Below w.heap.size w w4 := hb5.trans (hb6.mono hb5.size)
      clear hb5 hb6 F2
      go_wp2
      go_ret
      exact .inr ⟨by rw [hbad, hbad2]; rfl, rfl, hb7⟩
end Go.Proofs.Qxb6613638aFmt
