/-
  The walks of indicatorsCounted and of header's count.
-/
import Derived.Test.Qxb6613638aFmtB
import Derived.Outline
namespace Go.Proofs.Qxb6613638aFmt
open Go.RowKit Go.Extern

/-- An error of the section where b holds, else nil; old memory stands. -/
def MayErr (w : World) (b : Bool) (sec : ByteArray) (e : Ending) (w' : World) : Prop :=
  (b = true ∧ Erred w sec e w') ∨ (b = false ∧ e = .returned .nilIface ∧ Below w.heap.size w w')

theorem Erred.old {w0 w : World} {sec : ByteArray} {e : Ending} {w' : World} (h : Erred w sec e w') (hb : Below w0.heap.size w0 w) : Erred w0 sec e w' := by
  obtain ⟨b, g, msg, h1, h2, h3, h4, h5, h6, h7, h8⟩ := h
  have := hb.size
  exact ⟨b, g, msg, h1, h2, h3, h4, h5, by omega, by omega, hb.trans (h8.mono this)⟩

/-- formatError at operands that were just laid in a new block. -/
theorem f33_new (sec f : ByteArray) (cs : Array Value) (n : Nat) (hn : cs.size = n) (t : TypeId) (ps : List (Nat × UInt8 × Bool)) (hps : FmtStop.printed? f n = some ps) (hp : (ps.all fun p => decide (p.1 < n)) = true) (hpl : ∀ v ∈ cs.toList, Plain v) (w : World) :
    Calls Tryf.prog 33 #[.string sec, .string f, .slice (some ⟨w.heap.size, 0, none⟩) n n] (w.alloc (.cells cs t)) (Erred w sec) := by
  subst hn
  refine (f33_any sec f ⟨w.heap.size, 0, none⟩ cs.size cs.size (fun i => (cs[i]?).getD undef) ps hps (fun p h => by simpa using List.all_eq_true.1 hp p h) _ (fun i hi => ?_)).mono fun e w' he => he.old ((Below.refl _ w).alloc (Nat.le_refl _) _)
  have e : (cs[i]?).getD undef = cs[i] := by rw [Array.getElem?_eq_getElem hi]; rfl
  show _ = some ((cs[i]?).getD undef) ∧ Plain ((cs[i]?).getD undef)
  rw [e, Addr.add_lit, Nat.zero_add, cell_of_row _ _ _ _ _ _ (heap_alloc_new w _), Array.getElem?_eq_getElem hi]
  exact ⟨rfl, hpl _ (Array.mem_toList_iff.2 (Array.getElem_mem hi))⟩

def bad (n t : Int) : Bool := !(n == 0) && !(n == t)

set_option maxRecDepth 4000 in
theorem f46_any (nm ct : ByteArray) (n t : Int) (w : World) : Calls Tryf.prog 46 #[.string nm, .string ct, .int .u32 n, .int .u32 t] w (MayErr w (bad n t) { data := #[51, 46, 49] }) := by
  have HE := hide (f33_new { data := #[51, 46, 49] } { data := #[116, 104, 101, 32, 37, 115, 39, 115, 32, 37, 115, 32, 105, 115, 32, 37, 100, 44, 32, 110, 101, 105, 116, 104, 101, 114, 32, 48, 32, 110, 111, 114, 32, 116, 121, 112, 101, 99, 110, 116, 32, 40, 37, 100, 41] }
    #[.iface 9 (.string nm), .iface 9 (.string ct), .iface 93 (.int .u32 n), .iface 93 (.int .u32 t)] 4 rfl 20 [(0, 115, false), (1, 115, false), (2, 100, false), (3, 100, false)] (by kernel_rfl) (by decide)
    (by intro v hv; simp at hv; rcases hv with rfl | rfl | rfl | rfl
        · exact .string _
        · exact .string _
        · exact .uint32 _
        · exact .uint32 _) w)
  by_cases h0 : n = 0
  · have hb : bad n t = false := by simp [bad, h0]
    subst h0
    rw [hb]
    clear hb HE
    go_enter Tryf.func46, Tryf.ntmps46
    go_wp2
    go_ret
    exact .inr ⟨rfl, rfl, Below.refl _ _⟩
  · by_cases h1 : n = t
    · have hb : bad n t = false := by simp [bad, h1]
      subst h1
      rw [hb]
      have h0' : (n != 0) = true := by simp [h0]
      clear hb HE
      go_enter Tryf.func46, Tryf.ntmps46
      go_wp2
      go_ret
      exact .inr ⟨rfl, rfl, Below.refl _ _⟩
    · have hb : bad n t = true := by simp [bad, h0, h1]
      rw [hb]
      have h0' : (n != 0) = true := by simp [h0]
      have h1' : (n != t) = true := by simp [h1]
      clear hb h1
      go_enter Tryf.func46, Tryf.ntmps46
      go_wp2_with (go_at_call 33; refine (unhide HE).mono ?_)
      intro e w' he
      obtain ⟨b, g, msg, rfl, hrest⟩ := he
      have HH := hide hrest
      clear hrest HE
      go_wp2
      go_ret
      exact .inl ⟨rfl, b, g, msg, rfl, unhide HH⟩
end Go.Proofs.Qxb6613638aFmt
