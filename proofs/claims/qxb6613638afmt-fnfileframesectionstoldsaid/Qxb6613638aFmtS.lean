/-
  The walks of the bounds: zzBlockBytes and zzFrameTooBig.
-/
import Derived.Test.Qxb6613638aFmtD
import Derived.WalkSmall
import Derived.Deep.DeepCutAuto
namespace Go.Proofs.Qxb6613638aFmt
open Go.RowKit Go.Extern

/-- It handed back some number; what lay there lies there. -/
def SomeInt (w : World) (e : Ending) (w' : World) : Prop := ∃ z : Int, e = .returned (.int .i64 z) ∧ Below w.heap.size w w'
/-- It handed back some bool. -/
def SomeBool (w : World) (e : Ending) (w' : World) : Prop := ∃ b : Bool, e = .returned (.bool b) ∧ Below w.heap.size w w'

theorem f26_none (w : World) : Calls Tryf.prog 26 #[.pointer none] w (SomeInt w) := by
  go_enter Tryf.func26, Tryf.ntmps26
  go_wp2
  go_ret
  exact ⟨_, rfl, Below.refl _ _⟩

set_option maxRecDepth 20000 in
set_option maxHeartbeats 2000000 in
theorem f26_some (bb o : Nat) (x : Nat → Option Addr) (l c : Nat → Nat) (w : World) (h : BlkAt w bb o x l c) : Calls Tryf.prog 26 #[.pointer (some ⟨bb, o, none⟩)] w (SomeInt w) := by
  have q0 : w.cell? ⟨bb, o, none⟩ = some (.slice (x 0) (l 0) (c 0)) := h.cell 0 (by omega)
  have q1 : w.cell? ⟨bb, o + 1, none⟩ = some (.slice (x 1) (l 1) (c 1)) := h.cell 1 (by omega)
  have q2 : w.cell? ⟨bb, o + 2, none⟩ = some (.slice (x 2) (l 2) (c 2)) := h.cell 2 (by omega)
  have q3 : w.cell? ⟨bb, o + 3, none⟩ = some (.slice (x 3) (l 3) (c 3)) := h.cell 3 (by omega)
  have q4 : w.cell? ⟨bb, o + 4, none⟩ = some (.slice (x 4) (l 4) (c 4)) := h.cell 4 (by omega)
  have q5 : w.cell? ⟨bb, o + 5, none⟩ = some (.slice (x 5) (l 5) (c 5)) := h.cell 5 (by omega)
  have q6 : w.cell? ⟨bb, o + 6, none⟩ = some (.slice (x 6) (l 6) (c 6)) := h.cell 6 (by omega)
  have d : ∀ k, k < 7 → decide ((1048576 : Int) < (l k : Int)) = false := fun k hk => decide_eq_false (by have := h.small k hk; omega)
  have d0 := d 0 (by omega); have d1 := d 1 (by omega); have d2 := d 2 (by omega); have d3 := d 3 (by omega); have d4 := d 4 (by omega); have d5 := d 5 (by omega); have d6 := d 6 (by omega)
  clear d h
  go_enter Tryf.func26, Tryf.ntmps26
  go_upto_region 5 with fail
  go_quiet (fail)
  go_wp2
  go_ret
  exact ⟨_, rfl, below_drewN (Below.refl _ _) nq⟩

set_option maxHeartbeats 1000000 in
theorem f18_any (p1 p2 : Option Addr) (ft : ByteArray) (w : World) (h1 : ∀ wx, Below w.heap.size w wx → Calls Tryf.prog 26 #[.pointer p1] wx (SomeInt wx)) (h2 : ∀ wx, Below w.heap.size w wx → Calls Tryf.prog 26 #[.pointer p2] wx (SomeInt wx)) :
    Calls Tryf.prog 18 #[.pointer p1, .pointer p2, .string ft] w (SomeBool w) := by
  have H1 := hide (h1 w (Below.refl _ _))
  have H2 := hide h2
  clear h1 h2
  by_cases h0 : (1048576 : Int) < (ft.size : Int)
  · clear H1 H2
    go_enter Tryf.func18, Tryf.ntmps18
    go_wp2
    go_ret
    exact ⟨_, rfl, Below.refl _ _⟩
  · go_enter Tryf.func18, Tryf.ntmps18
    go_wp2_with (go_at_call 26; refine (unhide H1).mono ?_)
    rintro e w1 ⟨z1, rfl, hb1⟩
    have HB1 := hide hb1
    have H3 := hide (unhide H2 w1 hb1)
    clear H1 H2 hb1
    by_cases h1 : 1048576 < z1
    · go_wp2
      go_ret
      exact ⟨_, rfl, unhide HB1⟩
    · go_wp2_with (go_at_call 26; refine (unhide H3).mono ?_)
      rintro e w2 ⟨z2, rfl, hb2⟩
      have HB2 := hide ((unhide HB1).trans (hb2.mono (unhide HB1).size))
      clear H3 hb2 HB1
      go_wp2
      all_goals (go_ret; exact ⟨_, rfl, unhide HB2⟩)
end Go.Proofs.Qxb6613638aFmt
