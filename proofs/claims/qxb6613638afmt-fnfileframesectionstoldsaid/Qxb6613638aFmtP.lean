/-
  The walk of zzBlock.
-/
import Derived.Test.Qxb6613638aFmtO
import Derived.Test.Qxb6613638aFmtJ
import Derived.Deep.RegionHeld3
namespace Go.Proofs.Qxb6613638aFmt
open Go.RowKit Go.Extern

/-- The block that was made: the slices of the one at hand, the types and the leaps copied. -/
def Blocked (w : World) (x : Nat → Option Addr) (l c : Nat → Nat) (f g : Nat → Int) (e : Ending) (w' : World) : Prop :=
  ∃ a2 c2 a4 c4, e = .returned (.agg #[.slice (x 0) (l 0) (c 0), .slice (x 1) (l 1) (c 1), .slice a2 (l 2) c2, .slice (x 3) (l 3) (c 3), .slice a4 (l 4) c4, .slice (x 5) (l 5) (c 5), .slice (x 6) (l 6) (c 6)]) ∧
    LeapsAt w' a4 (l 4) f g ∧ Below w.heap.size w w'

/-- All of what lay in W lies in w. -/
def Stands (W w : World) : Prop := Below W.heap.size W w

theorem TypesAt.below {w w' : World} {a : Option Addr} {n : Nat} {f g h : Nat → Int} (t : TypesAt w a n f g h) {B : Nat} (hb : Below B w w') (hB : B = w.heap.size) : TypesAt w' a n f g h := by
  subst hB
  rcases t with h0 | ⟨b, off, ha, hc⟩
  · exact .inl h0
  · exact .inr ⟨b, off, ha, fun k hk => ⟨(hb.cell (p := ⟨b, off + k * 3, none⟩) (World.block_lt_of_cell? w _ (hc k hk).1)).trans (hc k hk).1, (hb.cell (p := ⟨b, off + k * 3 + 1, none⟩) (World.block_lt_of_cell? w _ (hc k hk).2.1)).trans (hc k hk).2.1,
      (hb.cell (p := ⟨b, off + k * 3 + 2, none⟩) (World.block_lt_of_cell? w _ (hc k hk).2.2)).trans (hc k hk).2.2⟩⟩

def TypesMadeS (W : World) (len : Nat) (e : Ending) (w' : World) : Prop := ∃ a c, e = .returned (.slice a len c) ∧ Stands W w'
def LeapsMadeS (W : World) (len : Nat) (f g : Nat → Int) (e : Ending) (w' : World) : Prop := ∃ a c, e = .returned (.slice a len c) ∧ LeapsAt w' a len f g ∧ Stands W w'

theorem heap_set7 (w : World) (g : Nat) (a0 a1 a2 a3 a4 a5 a6 : Value) (k : Nat) (hk : k ≠ g) :
    (((((((w.setCell ⟨g, 0, none⟩ a0).setCell ⟨g, 1, none⟩ a1).setCell ⟨g, 2, none⟩ a2).setCell ⟨g, 3, none⟩ a3).setCell ⟨g, 4, none⟩ a4).setCell ⟨g, 5, none⟩ a5).setCell ⟨g, 6, none⟩ a6).heap[k]? = w.heap[k]? := by
  rw [Below.heap_setCell _ _ _ _ (by exact hk), Below.heap_setCell _ _ _ _ (by exact hk), Below.heap_setCell _ _ _ _ (by exact hk), Below.heap_setCell _ _ _ _ (by exact hk), Below.heap_setCell _ _ _ _ (by exact hk), Below.heap_setCell _ _ _ _ (by exact hk), Below.heap_setCell _ _ _ _ (by exact hk)]

/-- The records lie elsewhere. -/
theorem LeapsAt.other {w w' : World} {a : Option Addr} {n : Nat} {f g : Nat → Int} (h : LeapsAt w a n f g) {R : Nat} (hR : ∀ j v, w.cell? ⟨R, j, none⟩ = some v → v = .slice none 0 0) (hb : ∀ k, k ≠ R → w'.heap[k]? = w.heap[k]?) : LeapsAt w' a n f g := by
  refine ⟨?_, h.2⟩
  rcases h.1 with h0 | ⟨b, off, ha, hc⟩
  · exact .inl h0
  · refine .inr ⟨b, off, ha, fun k hk => ?_⟩
    have hbR : b ≠ R := fun e => by
      subst e
      have := hR _ _ (hc k hk).1
      cases this
    exact ⟨(World.cell?_of_block (hb b hbR)).trans (hc k hk).1, (World.cell?_of_block (hb b hbR)).trans (hc k hk).2⟩

set_option maxRecDepth 20000 in
set_option maxHeartbeats 4000000 in
theorem f27_any (zb zo : Nat) (x : Nat → Option Addr) (l c : Nat → Nat) (w : World) (h : BlkAt w zb zo x l c) (hn2 : x 2 = none → l 2 = 0) (hn4 : x 4 = none → l 4 = 0) (tf tg th f g : Nat → Int)
    (hT : TypesAt w (x 2) (l 2) tf tg th) (hL : LeapsAt w (x 4) (l 4) f g) : Calls Tryf.prog 27 #[.pointer (some ⟨zb, zo, none⟩)] w (Blocked w x l c f g) := by
  obtain ⟨W1, hW1⟩ : ∃ W, w.alloc (.cells #[.slice none 0 0, .slice none 0 0, .slice none 0 0, .slice none 0 0, .slice none 0 0, .slice none 0 0, .slice none 0 0] 51) = W := ⟨_, rfl⟩
  have hb1 : Below w.heap.size w W1 := by rw [← hW1]; exact (Below.refl _ w).alloc (Nat.le_refl _) _
  have hlt : zb < w.heap.size := World.block_lt_of_cell? w _ (h.cell 0 (by omega))
  have hblk : W1.heap[w.heap.size]? = some (.cells #[.slice none 0 0, .slice none 0 0, .slice none 0 0, .slice none 0 0, .slice none 0 0, .slice none 0 0, .slice none 0 0] 51 (0, 0)) := by rw [← hW1]; exact heap_alloc_new w _
  have hs1 : W1.heap.size = w.heap.size + 1 := by rw [← hW1]; simp
  have HZ : Hid (∀ wx, Stands W1 wx → ∀ k, k < 7 → wx.cell? ⟨zb, zo + k, none⟩ = some (.slice (x k) (l k) (c k))) := fun wx hz k hk => (hz.cell (p := ⟨zb, zo + k, none⟩) (by rw [hs1]; show zb < _; omega)).trans ((hb1.cell (p := ⟨zb, zo + k, none⟩) hlt).trans (h.cell k hk))
  have HR : Hid (∀ wx, Stands W1 wx → ∀ k, k < 7 → wx.cell? ⟨w.heap.size, k, none⟩ = some (.slice none 0 0)) := fun wx hz k hk => (hz.cell (p := ⟨w.heap.size, k, none⟩) (by rw [hs1]; show w.heap.size < _; omega)).trans (by
    rw [cell_of_row _ _ _ _ _ _ hblk]
    match k, hk with
    | 0, _ => rfl
    | 1, _ => rfl
    | 2, _ => rfl
    | 3, _ => rfl
    | 4, _ => rfl
    | 5, _ => rfl
    | 6, _ => rfl)
  have HRn : Hid (∀ wx, Stands W1 wx → ∀ j v, wx.cell? ⟨w.heap.size, j, none⟩ = some v → v = .slice none 0 0) := fun wx hz j v hv => by
    rw [hz.cell (p := ⟨w.heap.size, j, none⟩) (by rw [hs1]; show w.heap.size < _; omega), cell_of_row _ _ _ _ _ _ hblk] at hv
    have hm := Array.mem_of_getElem? hv
    simpa using hm
  have HFr : Hid (∀ wx, Stands W1 wx → ∀ k, wx.frozen? ⟨w.heap.size, k, none⟩ = false) := fun wx hz k => by
    have : wx.heap[w.heap.size]? = W1.heap[w.heap.size]? := hz.block _ (by rw [hs1]; omega)
    simp only [World.frozen?, this, hblk]; simp
  have H31 : Hid (∀ wx, Stands W1 wx → Calls Tryf.prog 31 #[.slice (x 2) (l 2) (c 2)] wx (TypesMadeS W1 (l 2))) := fun wx hz =>
    (f31_any (x 2) (l 2) (c 2) tf tg th (h.small 2 (by omega)) hn2 wx ((hT.below hb1 rfl).below hz rfl)).mono fun e w' ⟨a, c, h1, h2⟩ => ⟨a, c, h1, hz.trans (h2.mono hz.size)⟩
  have H32 : Hid (∀ wx, Stands W1 wx → Calls Tryf.prog 32 #[.slice (x 4) (l 4) (c 4)] wx (LeapsMadeS W1 (l 4) f g)) := fun wx hz =>
    (f32_any (x 4) (l 4) (c 4) f g (h.small 4 (by omega)) hn4 wx ((hL.below hb1 rfl).below hz rfl)).mono fun e w' ⟨a, c, h1, h2, h3⟩ => ⟨a, c, h1, h2, hz.trans (h3.mono hz.size)⟩
  have HB1 := hide hb1
  have hst : Stands W1 W1.drew := (Below.refl _ W1).drew
  have q0 : W1.cell? ⟨zb, zo, none⟩ = some (.slice (x 0) (l 0) (c 0)) := unhide HZ W1 (Below.refl _ W1) 0 (by omega)
  have q1 : W1.cell? ⟨zb, zo + 1, none⟩ = some (.slice (x 1) (l 1) (c 1)) := unhide HZ W1 (Below.refl _ W1) 1 (by omega)
  have q2 : W1.cell? ⟨zb, zo + 2, none⟩ = some (.slice (x 2) (l 2) (c 2)) := unhide HZ W1 (Below.refl _ W1) 2 (by omega)
  have q3 : W1.cell? ⟨zb, zo + 3, none⟩ = some (.slice (x 3) (l 3) (c 3)) := unhide HZ W1 (Below.refl _ W1) 3 (by omega)
  have q4 : W1.cell? ⟨zb, zo + 4, none⟩ = some (.slice (x 4) (l 4) (c 4)) := unhide HZ W1 (Below.refl _ W1) 4 (by omega)
  have q5 : W1.cell? ⟨zb, zo + 5, none⟩ = some (.slice (x 5) (l 5) (c 5)) := unhide HZ W1 (Below.refl _ W1) 5 (by omega)
  have q6 : W1.cell? ⟨zb, zo + 6, none⟩ = some (.slice (x 6) (l 6) (c 6)) := unhide HZ W1 (Below.refl _ W1) 6 (by omega)
  have hne : zb ≠ w.heap.size := by omega
  have hfar : ∀ (W : World) (k j : Nat) (v : Value), (W.setCell ⟨w.heap.size, k, none⟩ v).cell? ⟨zb, j, none⟩ = W.cell? ⟨zb, j, none⟩ := fun W k j v => World.cell?_of_block (Below.heap_setCell _ _ _ _ (by exact hne))
  clear hb1 hblk hs1 h hn2 hn4 hT hL
  go_enter Tryf.func27, Tryf.ntmps27
  go_wp2
  go_region_held3 (fun w' => w'.cell? ⟨zb, zo, none⟩ = some (.slice (x 0) (l 0) (c 0)) ∧ w'.cell? ⟨zb, zo + 1, none⟩ = some (.slice (x 1) (l 1) (c 1)) ∧ w'.cell? ⟨zb, zo + 2, none⟩ = some (.slice (x 2) (l 2) (c 2)) ∧ w'.cell? ⟨zb, zo + 3, none⟩ = some (.slice (x 3) (l 3) (c 3)) ∧ w'.cell? ⟨zb, zo + 4, none⟩ = some (.slice (x 4) (l 4) (c 4)) ∧ w'.cell? ⟨zb, zo + 5, none⟩ = some (.slice (x 5) (l 5) (c 5)) ∧ w'.cell? ⟨zb, zo + 6, none⟩ = some (.slice (x 6) (l 6) (c 6))) (go_keep)
    (first
      | (go_at_call 31; refine (unhide H31 _ ?_).mono ?_; assumption; rintro e w2 ⟨a2, c2, rfl, hz2⟩; have z0 : w2.cell? ⟨zb, zo, none⟩ = some (.slice (x 0) (l 0) (c 0)) := unhide HZ w2 hz2 0 (by omega); have z1 := unhide HZ w2 hz2 1 (by omega); have z2 := unhide HZ w2 hz2 2 (by omega); have z3 := unhide HZ w2 hz2 3 (by omega); have z4 := unhide HZ w2 hz2 4 (by omega); have z5 := unhide HZ w2 hz2 5 (by omega); have z6 := unhide HZ w2 hz2 6 (by omega);
         have y0 := unhide HR w2 hz2 0 (by omega); have y1 := unhide HR w2 hz2 1 (by omega); have y2 := unhide HR w2 hz2 2 (by omega); have y3 := unhide HR w2 hz2 3 (by omega); have y4 := unhide HR w2 hz2 4 (by omega); have y5 := unhide HR w2 hz2 5 (by omega); have y6 := unhide HR w2 hz2 6 (by omega); have hfz2 := unhide HFr w2 hz2)
      | (go_at_call 32; refine (unhide H32 _ ?_).mono ?_; assumption; rintro e w3 ⟨a4, c4, rfl, hlp, hz3⟩; have z0 : w3.cell? ⟨zb, zo, none⟩ = some (.slice (x 0) (l 0) (c 0)) := unhide HZ w3 hz3 0 (by omega); have z1 := unhide HZ w3 hz3 1 (by omega); have z2 := unhide HZ w3 hz3 2 (by omega); have z3 := unhide HZ w3 hz3 3 (by omega); have z4 := unhide HZ w3 hz3 4 (by omega); have z5 := unhide HZ w3 hz3 5 (by omega); have z6 := unhide HZ w3 hz3 6 (by omega);
         have y0 := unhide HR w3 hz3 0 (by omega); have y1 := unhide HR w3 hz3 1 (by omega); have y2 := unhide HR w3 hz3 2 (by omega); have y3 := unhide HR w3 hz3 3 (by omega); have y4 := unhide HR w3 hz3 4 (by omega); have y5 := unhide HR w3 hz3 5 (by omega); have y6 := unhide HR w3 hz3 6 (by omega); have hfz3 := unhide HFr w3 hz3))
  all_goals (
    have HLP : Hid (LeapsAt (((((((w3.setCell ⟨w.heap.size, 0, none⟩ (.slice (x 0) (l 0) (c 0))).setCell ⟨w.heap.size, 1, none⟩ (.slice (x 1) (l 1) (c 1))).setCell ⟨w.heap.size, 2, none⟩ (.slice a2 (l 2) c2)).setCell ⟨w.heap.size, 3, none⟩ (.slice (x 3) (l 3) (c 3))).setCell ⟨w.heap.size, 4, none⟩ (.slice a4 (l 4) c4)).setCell ⟨w.heap.size, 5, none⟩ (.slice (x 5) (l 5) (c 5))).setCell ⟨w.heap.size, 6, none⟩ (.slice (x 6) (l 6) (c 6))) a4 (l 4) f g) :=
      hlp.other (unhide HRn w3 hz3) (fun k hk => heap_set7 _ _ _ _ _ _ _ _ _ k hk)
    go_wp2
    refine bodyPost_ret (v := .agg #[.slice (x 0) (l 0) (c 0), .slice (x 1) (l 1) (c 1), .slice a2 (l 2) c2, .slice (x 3) (l 3) (c 3), .slice a4 (l 4) c4, .slice (x 5) (l 5) (c 5), .slice (x 6) (l 6) (c 6)]) (by simp [results, Tryf.results27, go_sem, y0, y1, y2, y3, y4, y5, y6]) rfl ⟨a2, c2, a4, c4, rfl, unhide HLP, ?_⟩
    exact below_set7 ((unhide HB1).trans (Below.mono hz3 (unhide HB1).size)) (Nat.le_refl _) _ _ _ _ _ _ _)
end Go.Proofs.Qxb6613638aFmt
