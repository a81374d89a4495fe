/-
  The walk of zzFile.
-/
import Derived.Test.Qxb6613638aFmtP
namespace Go.Proofs.Qxb6613638aFmt
open Go.RowKit Go.Extern

/-- A block as one finds it: what it reads as, and what its lists hold. -/
structure ZAt (w : World) (zb zo : Nat) (x : Nat → Option Addr) (l c : Nat → Nat) (tf tg th nf f g : Nat → Int) : Prop where
  blk : BlkAt w zb zo x l c
  n2 : x 2 = none → l 2 = 0
  n4 : x 4 = none → l 4 = 0
  types : TypesAt w (x 2) (l 2) tf tg th
  nums : NumsAt w (x 0) (l 0) nf
  leaps : LeapsAt w (x 4) (l 4) f g

theorem BlkAt.below {w w' : World} {bb o : Nat} {x : Nat → Option Addr} {l c : Nat → Nat} (h : BlkAt w bb o x l c) {B : Nat} (hb : Below B w w') (hB : B = w.heap.size) : BlkAt w' bb o x l c := by
  subst hB
  exact ⟨fun k hk => (hb.cell (p := ⟨bb, o + k, none⟩) (World.block_lt_of_cell? w _ (h.cell k hk))).trans (h.cell k hk), h.small⟩

theorem ZAt.below {w w' : World} {zb zo : Nat} {x : Nat → Option Addr} {l c : Nat → Nat} {tf tg th nf f g : Nat → Int} (h : ZAt w zb zo x l c tf tg th nf f g) (hb : Below w.heap.size w w') : ZAt w' zb zo x l c tf tg th nf f g :=
  ⟨h.blk.below hb rfl, h.n2, h.n4, h.types.below hb rfl, h.nums.below hb rfl, h.leaps.below hb rfl⟩

theorem ZAt.call {w : World} {zb zo : Nat} {x : Nat → Option Addr} {l c : Nat → Nat} {tf tg th nf f g : Nat → Int} (h : ZAt w zb zo x l c tf tg th nf f g) : Calls Tryf.prog 27 #[.pointer (some ⟨zb, zo, none⟩)] w (Blocked w x l c f g) :=
  f27_any zb zo x l c w h.blk h.n2 h.n4 tf tg th f g h.types h.leaps

theorem heap_set10 (w : World) (g : Nat) (a0 a1 a2 a3 a4 a5 a6 a7 a8 a9 : Value) (k : Nat) (hk : k ≠ g) : ((((((((((w.setCell ⟨g, 0, none⟩ a0).setCell ⟨g, 1, none⟩ a1).setCell ⟨g, 2, none⟩ a2).setCell ⟨g, 3, none⟩ a3).setCell ⟨g, 4, none⟩ a4).setCell ⟨g, 5, none⟩ a5).setCell ⟨g, 6, none⟩ a6).setCell ⟨g, 7, none⟩ a7).setCell ⟨g, 8, none⟩ a8).setCell ⟨g, 9, none⟩ a9).heap[k]? = w.heap[k]? := by
  rw [Below.heap_setCell _ _ _ _ (by exact hk), Below.heap_setCell _ _ _ _ (by exact hk), Below.heap_setCell _ _ _ _ (by exact hk), Below.heap_setCell _ _ _ _ (by exact hk), Below.heap_setCell _ _ _ _ (by exact hk), Below.heap_setCell _ _ _ _ (by exact hk), Below.heap_setCell _ _ _ _ (by exact hk), Below.heap_setCell _ _ _ _ (by exact hk), Below.heap_setCell _ _ _ _ (by exact hk), Below.heap_setCell _ _ _ _ (by exact hk)]

theorem below_set10 {B : Nat} {v w : World} (h : Below B v w) {g : Nat} (hg : B ≤ g) (a0 a1 a2 a3 a4 a5 a6 a7 a8 a9 : Value) : Below B v ((((((((((w.setCell ⟨g, 0, none⟩ a0).setCell ⟨g, 1, none⟩ a1).setCell ⟨g, 2, none⟩ a2).setCell ⟨g, 3, none⟩ a3).setCell ⟨g, 4, none⟩ a4).setCell ⟨g, 5, none⟩ a5).setCell ⟨g, 6, none⟩ a6).setCell ⟨g, 7, none⟩ a7).setCell ⟨g, 8, none⟩ a8).setCell ⟨g, 9, none⟩ a9) :=
  ((((((((((h.setCell (p := ⟨g, 0, none⟩) hg _).setCell (p := ⟨g, 1, none⟩) hg _).setCell (p := ⟨g, 2, none⟩) hg _).setCell (p := ⟨g, 3, none⟩) hg _).setCell (p := ⟨g, 4, none⟩) hg _).setCell (p := ⟨g, 5, none⟩) hg _).setCell (p := ⟨g, 6, none⟩) hg _).setCell (p := ⟨g, 7, none⟩) hg _).setCell (p := ⟨g, 8, none⟩) hg _).setCell (p := ⟨g, 9, none⟩) hg _)

/-- The records lie elsewhere. -/
theorem LeapsAt.apart {w w' : World} {a : Option Addr} {n : Nat} {f g : Nat → Int} (h : LeapsAt w a n f g) {R : Nat} (hR : ∀ j z, w.cell? ⟨R, j, none⟩ ≠ some (.int .i32 z)) (hb : ∀ k, k ≠ R → w'.heap[k]? = w.heap[k]?) : LeapsAt w' a n f g := by
  refine ⟨?_, h.2⟩
  rcases h.1 with h0 | ⟨b, off, ha, hc⟩
  · exact .inl h0
  · refine .inr ⟨b, off, ha, fun k hk => ?_⟩
    have hbR : b ≠ R := fun e => by
      subst e
      exact hR _ _ (hc k hk).2
    exact ⟨(World.cell?_of_block (hb b hbR)).trans (hc k hk).1, (World.cell?_of_block (hb b hbR)).trans (hc k hk).2⟩

/-- No cell of a new file's row is a number of 32 bits. -/
theorem row10_no32 {w : World} {R : Nat} (h : w.heap[R]? = some (.cells #[.int .i64 0, .slice none 0 0, .slice none 0 0, .slice none 0 0, .slice none 0 0, .slice none 0 0, .slice none 0 0, .slice none 0 0, .pointer none, .string { data := #[] }] 54 (0, 0))) : ∀ j z, w.cell? ⟨R, j, none⟩ ≠ some (.int .i32 z) := by
  intro j z hv
  rw [cell_of_row _ _ _ _ _ _ h] at hv
  have hm := Array.mem_of_getElem? hv
  simp at hm

/-- A file without a second block. -/
def Filed0 (w : World) (ver : Int) (x : Nat → Option Addr) (l c : Nat → Nat) (f g : Nat → Int) (ft : ByteArray) (e : Ending) (w' : World) : Prop :=
  ∃ a2 c2 a4 c4, e = .returned (.agg #[.int .i64 ver, .slice (x 0) (l 0) (c 0), .slice (x 1) (l 1) (c 1), .slice a2 (l 2) c2, .slice (x 3) (l 3) (c 3), .slice a4 (l 4) c4, .slice (x 5) (l 5) (c 5), .slice (x 6) (l 6) (c 6), .pointer none, .string ft]) ∧
    LeapsAt w' a4 (l 4) f g ∧ Below w.heap.size w w'

set_option maxRecDepth 20000 in
set_option maxHeartbeats 4000000 in
theorem f19_none (ver : Int) (zb zo : Nat) (x : Nat → Option Addr) (l c : Nat → Nat) (tf tg th nf f g : Nat → Int) (ft : ByteArray) (w : World) (h : ZAt w zb zo x l c tf tg th nf f g) :
    Calls Tryf.prog 19 #[.int .i64 ver, .pointer (some ⟨zb, zo, none⟩), .pointer none, .string ft] w (Filed0 w ver x l c f g ft) := by
  have H27 : Hid (∀ wx, Below w.heap.size w wx → Calls Tryf.prog 27 #[.pointer (some ⟨zb, zo, none⟩)] wx (Blocked wx x l c f g)) := fun wx hb => (h.below hb).call
  obtain ⟨W1, hW1⟩ : ∃ W, w.alloc (.cells #[.int .i64 0, .slice none 0 0, .slice none 0 0, .slice none 0 0, .slice none 0 0, .slice none 0 0, .slice none 0 0, .slice none 0 0, .pointer none, .string { data := #[] }] 54) = W := ⟨_, rfl⟩
  have hb1 : Below w.heap.size w W1 := by rw [← hW1]; exact (Below.refl _ w).alloc (Nat.le_refl _) _
  have hblk : W1.heap[w.heap.size]? = some (.cells #[.int .i64 0, .slice none 0 0, .slice none 0 0, .slice none 0 0, .slice none 0 0, .slice none 0 0, .slice none 0 0, .slice none 0 0, .pointer none, .string { data := #[] }] 54 (0, 0)) := by rw [← hW1]; exact heap_alloc_new w _
  have hs1 : W1.heap.size = w.heap.size + 1 := by rw [← hW1]; simp
  have HBK : Hid (∀ wx, Below W1.heap.size W1 wx → wx.heap[w.heap.size]? = some (.cells #[.int .i64 0, .slice none 0 0, .slice none 0 0, .slice none 0 0, .slice none 0 0, .slice none 0 0, .slice none 0 0, .slice none 0 0, .pointer none, .string { data := #[] }] 54 (0, 0))) := fun wx hb => (hb.block _ (by rw [hs1]; omega)).trans hblk
  have HB1 := hide hb1
  have hc27 := hide (unhide H27 W1 hb1)
  clear hb1 hblk
  go_enter Tryf.func19, Tryf.ntmps19
  go_upto_region 1 with fail
  clear hW1
  go_wp2_with (go_at_call 27; refine (unhide hc27).mono ?_)
  rintro e w2 ⟨a2, c2, a4, c4, rfl, hlp, hb2⟩
  have HLP := hide hlp
  have HB2 := hide hb2
  clear hlp hb2 hc27
  go_upto_region 5 with fail
  obtain ⟨W3, hW3⟩ : ∃ W, w2.alloc (.cells #[.int .i64 ver, .slice (x 0) (l 0) (c 0), .slice (x 1) (l 1) (c 1), .slice a2 (l 2) c2, .slice (x 3) (l 3) (c 3), .slice a4 (l 4) c4, .slice (x 5) (l 5) (c 5), .slice (x 6) (l 6) (c 6), .pointer none, .string ft] 54) = W := ⟨_, rfl⟩
  have hb3 : Below w2.heap.size w2 W3 := by rw [← hW3]; exact (Below.refl _ w2).alloc (Nat.le_refl _) _
  have hnew : W3.heap[w2.heap.size]? = some (.cells #[.int .i64 ver, .slice (x 0) (l 0) (c 0), .slice (x 1) (l 1) (c 1), .slice a2 (l 2) c2, .slice (x 3) (l 3) (c 3), .slice a4 (l 4) c4, .slice (x 5) (l 5) (c 5), .slice (x 6) (l 6) (c 6), .pointer none, .string ft] 54 (0, 0)) := by rw [← hW3]; exact heap_alloc_new w2 _
  have hb13 : Below W1.heap.size W1 W3 := (unhide HB2).trans (hb3.mono (unhide HB2).size)
  have hR : W3.heap[w.heap.size]? = _ := unhide HBK W3 hb13
  have hBW : Below w.heap.size w W3 := (unhide HB1).trans (hb13.mono (unhide HB1).size)
  have HBW := hide hBW
  have HLP3 := hide ((unhide HLP).below hb3 rfl)
  have HN32 := hide (row10_no32 hR)
  rw [hW3]
  have n0 : W3.cell? ⟨w2.heap.size, 0, none⟩ = some (.int .i64 ver) := cell_of_row _ _ 0 _ _ _ hnew
  have n1 : W3.cell? ⟨w2.heap.size, 1, none⟩ = some (.slice (x 0) (l 0) (c 0)) := cell_of_row _ _ 1 _ _ _ hnew
  have n2 : W3.cell? ⟨w2.heap.size, 2, none⟩ = some (.slice (x 1) (l 1) (c 1)) := cell_of_row _ _ 2 _ _ _ hnew
  have n3 : W3.cell? ⟨w2.heap.size, 3, none⟩ = some (.slice a2 (l 2) c2) := cell_of_row _ _ 3 _ _ _ hnew
  have n4 : W3.cell? ⟨w2.heap.size, 4, none⟩ = some (.slice (x 3) (l 3) (c 3)) := cell_of_row _ _ 4 _ _ _ hnew
  have n5 : W3.cell? ⟨w2.heap.size, 5, none⟩ = some (.slice a4 (l 4) c4) := cell_of_row _ _ 5 _ _ _ hnew
  have n6 : W3.cell? ⟨w2.heap.size, 6, none⟩ = some (.slice (x 5) (l 5) (c 5)) := cell_of_row _ _ 6 _ _ _ hnew
  have n7 : W3.cell? ⟨w2.heap.size, 7, none⟩ = some (.slice (x 6) (l 6) (c 6)) := cell_of_row _ _ 7 _ _ _ hnew
  have n8 : W3.cell? ⟨w2.heap.size, 8, none⟩ = some (.pointer none) := cell_of_row _ _ 8 _ _ _ hnew
  have n9 : W3.cell? ⟨w2.heap.size, 9, none⟩ = some (.string ft) := cell_of_row _ _ 9 _ _ _ hnew
  have y0 : W3.cell? ⟨w.heap.size, 0, none⟩ = some (.int .i64 0) := cell_of_row _ _ 0 _ _ _ hR
  have y1 : W3.cell? ⟨w.heap.size, 1, none⟩ = some (.slice none 0 0) := cell_of_row _ _ 1 _ _ _ hR
  have y2 : W3.cell? ⟨w.heap.size, 2, none⟩ = some (.slice none 0 0) := cell_of_row _ _ 2 _ _ _ hR
  have y3 : W3.cell? ⟨w.heap.size, 3, none⟩ = some (.slice none 0 0) := cell_of_row _ _ 3 _ _ _ hR
  have y4 : W3.cell? ⟨w.heap.size, 4, none⟩ = some (.slice none 0 0) := cell_of_row _ _ 4 _ _ _ hR
  have y5 : W3.cell? ⟨w.heap.size, 5, none⟩ = some (.slice none 0 0) := cell_of_row _ _ 5 _ _ _ hR
  have y6 : W3.cell? ⟨w.heap.size, 6, none⟩ = some (.slice none 0 0) := cell_of_row _ _ 6 _ _ _ hR
  have y7 : W3.cell? ⟨w.heap.size, 7, none⟩ = some (.slice none 0 0) := cell_of_row _ _ 7 _ _ _ hR
  have y8 : W3.cell? ⟨w.heap.size, 8, none⟩ = some (.pointer none) := cell_of_row _ _ 8 _ _ _ hR
  have y9 : W3.cell? ⟨w.heap.size, 9, none⟩ = some (.string { data := #[] }) := cell_of_row _ _ 9 _ _ _ hR
  have hfz : ∀ k, W3.frozen? ⟨w.heap.size, k, none⟩ = false := fun k => by simp only [World.frozen?, hR]; simp
  have hne : w.heap.size ≠ w2.heap.size := by have := (unhide HB2).size; omega
  clear hW3 hb3 hnew hb13 hR hBW HBK HB1 HB2 H27 HLP
  go_wp2
  refine bodyPost_ret (v := .agg #[.int .i64 ver, .slice (x 0) (l 0) (c 0), .slice (x 1) (l 1) (c 1), .slice a2 (l 2) c2, .slice (x 3) (l 3) (c 3), .slice a4 (l 4) c4, .slice (x 5) (l 5) (c 5), .slice (x 6) (l 6) (c 6), .pointer none, .string ft]) (by simp [results, Tryf.results19, go_sem, y0, y1, y2, y3, y4, y5, y6, y7, y8, y9]) rfl ⟨a2, c2, a4, c4, rfl, ?_, ?_⟩
  · exact (unhide HLP3).apart (unhide HN32) (fun k hk => heap_set10 _ _ _ _ _ _ _ _ _ _ _ _ k hk)
  · exact below_set10 (unhide HBW) (Nat.le_refl _) _ _ _ _ _ _ _ _ _ _
/-- Two of the lists were copied. -/
def upd {α : Type} (x : Nat → α) (a2 a4 : α) (k : Nat) : α := if k = 2 then a2 else if k = 4 then a4 else x k

/-- No cell of a row is a number of 32 bits. -/
theorem row_no32 {w : World} {R : Nat} {cs : Array Value} {t : TypeId} (h : w.heap[R]? = some (.cells cs t (0, 0))) (hc : ∀ v ∈ cs, ∀ z, v ≠ .int .i32 z) : ∀ j z, w.cell? ⟨R, j, none⟩ ≠ some (.int .i32 z) := by
  intro j z hv
  rw [cell_of_row _ _ _ _ _ _ h] at hv
  exact hc _ (Array.mem_of_getElem? hv) z rfl

/-- A file with a second block. -/
def Filed2 (w : World) (ver : Int) (x : Nat → Option Addr) (l c : Nat → Nat) (f g : Nat → Int) (y : Nat → Option Addr) (m d : Nat → Nat) (f' g' : Nat → Int) (ft : ByteArray) (e : Ending) (w' : World) : Prop :=
  ∃ a2 c2 a4 c4 vb b2 d2 b4 d4, e = .returned (.agg #[.int .i64 ver, .slice (x 0) (l 0) (c 0), .slice (x 1) (l 1) (c 1), .slice a2 (l 2) c2, .slice (x 3) (l 3) (c 3), .slice a4 (l 4) c4, .slice (x 5) (l 5) (c 5), .slice (x 6) (l 6) (c 6), .pointer (some ⟨vb, 0, none⟩), .string ft]) ∧
    LeapsAt w' a4 (l 4) f g ∧ BlkAt w' vb 0 (upd y b2 b4) m (upd d d2 d4) ∧ LeapsAt w' b4 (m 4) f' g' ∧ Below w.heap.size w w'

theorem blk_upd {w : World} {vb : Nat} {y : Nat → Option Addr} {m d : Nat → Nat} {b2 b4 : Option Addr} {d2 d4 : Nat} (h : w.heap[vb]? = some (.cells #[.slice (y 0) (m 0) (d 0), .slice (y 1) (m 1) (d 1), .slice b2 (m 2) d2, .slice (y 3) (m 3) (d 3), .slice b4 (m 4) d4, .slice (y 5) (m 5) (d 5), .slice (y 6) (m 6) (d 6)] 51 (0, 0))) (hm : ∀ k, k < 7 → m k ≤ 1048576) : BlkAt w vb 0 (upd y b2 b4) m (upd d d2 d4) := by
  refine ⟨fun k hk => ?_, hm⟩
  rw [Nat.zero_add, cell_of_row _ _ _ _ _ _ h]
  match k, hk with
  | 0, _ => rfl
  | 1, _ => rfl
  | 2, _ => rfl
  | 3, _ => rfl
  | 4, _ => rfl
  | 5, _ => rfl
  | 6, _ => rfl

theorem BlkAt.block {w w' : World} {vb : Nat} {x : Nat → Option Addr} {l c : Nat → Nat} (h : BlkAt w vb 0 x l c) (hb : w'.heap[vb]? = w.heap[vb]?) : BlkAt w' vb 0 x l c :=
  ⟨fun k hk => (World.cell?_of_block (a := ⟨vb, 0 + k, none⟩) hb).trans (h.cell k hk), h.small⟩

set_option maxRecDepth 20000 in
set_option maxHeartbeats 4000000 in
theorem f19_some (ver : Int) (zb zo zb2 zo2 : Nat) (x : Nat → Option Addr) (l c : Nat → Nat) (tf tg th nf f g : Nat → Int) (y : Nat → Option Addr) (m d : Nat → Nat) (tf' tg' th' nf' f' g' : Nat → Int) (ft : ByteArray) (w : World)
    (h : ZAt w zb zo x l c tf tg th nf f g) (h' : ZAt w zb2 zo2 y m d tf' tg' th' nf' f' g') :
    Calls Tryf.prog 19 #[.int .i64 ver, .pointer (some ⟨zb, zo, none⟩), .pointer (some ⟨zb2, zo2, none⟩), .string ft] w (Filed2 w ver x l c f g y m d f' g' ft) := by
  have H27 : Hid (∀ wx, Below w.heap.size w wx → Calls Tryf.prog 27 #[.pointer (some ⟨zb, zo, none⟩)] wx (Blocked wx x l c f g)) := fun wx hb => (h.below hb).call
  have H27' : Hid (∀ wx, Below w.heap.size w wx → Calls Tryf.prog 27 #[.pointer (some ⟨zb2, zo2, none⟩)] wx (Blocked wx y m d f' g')) := fun wx hb => (h'.below hb).call
  have HSM := hide h'.blk.small
  obtain ⟨W1, hW1⟩ : ∃ W, w.alloc (.cells #[.int .i64 0, .slice none 0 0, .slice none 0 0, .slice none 0 0, .slice none 0 0, .slice none 0 0, .slice none 0 0, .slice none 0 0, .pointer none, .string { data := #[] }] 54) = W := ⟨_, rfl⟩
  have hb1 : Below w.heap.size w W1 := by rw [← hW1]; exact (Below.refl _ w).alloc (Nat.le_refl _) _
  have hblk : W1.heap[w.heap.size]? = some (.cells #[.int .i64 0, .slice none 0 0, .slice none 0 0, .slice none 0 0, .slice none 0 0, .slice none 0 0, .slice none 0 0, .slice none 0 0, .pointer none, .string { data := #[] }] 54 (0, 0)) := by rw [← hW1]; exact heap_alloc_new w _
  have hs1 : W1.heap.size = w.heap.size + 1 := by rw [← hW1]; simp
  have HBK : Hid (∀ wx, Below W1.heap.size W1 wx → wx.heap[w.heap.size]? = some (.cells #[.int .i64 0, .slice none 0 0, .slice none 0 0, .slice none 0 0, .slice none 0 0, .slice none 0 0, .slice none 0 0, .slice none 0 0, .pointer none, .string { data := #[] }] 54 (0, 0))) := fun wx hb => (hb.block _ (by rw [hs1]; omega)).trans hblk
  have HB1 := hide hb1
  have hc27 := hide (unhide H27 W1 hb1)
  clear hb1 hblk h h'
  go_enter Tryf.func19, Tryf.ntmps19
  go_upto_region 1 with fail
  clear hW1
  go_wp2_with (go_at_call 27; refine (unhide hc27).mono ?_)
  rintro e w2 ⟨a2, c2, a4, c4, rfl, hlp, hb2⟩
  have HLP := hide hlp
  have HB2 := hide hb2
  clear hlp hb2 hc27
  go_upto_region 3 with fail
  obtain ⟨W3, hW3⟩ : ∃ W, w2.alloc (.cells #[.int .i64 ver, .slice (x 0) (l 0) (c 0), .slice (x 1) (l 1) (c 1), .slice a2 (l 2) c2, .slice (x 3) (l 3) (c 3), .slice a4 (l 4) c4, .slice (x 5) (l 5) (c 5), .slice (x 6) (l 6) (c 6), .pointer none, .string ft] 54) = W := ⟨_, rfl⟩
  have hb3 : Below w2.heap.size w2 W3 := by rw [← hW3]; exact (Below.refl _ w2).alloc (Nat.le_refl _) _
  have hs3 : W3.heap.size = w2.heap.size + 1 := by rw [← hW3]; simp
  have hnew : W3.heap[w2.heap.size]? = some (.cells #[.int .i64 ver, .slice (x 0) (l 0) (c 0), .slice (x 1) (l 1) (c 1), .slice a2 (l 2) c2, .slice (x 3) (l 3) (c 3), .slice a4 (l 4) c4, .slice (x 5) (l 5) (c 5), .slice (x 6) (l 6) (c 6), .pointer none, .string ft] 54 (0, 0)) := by rw [← hW3]; exact heap_alloc_new w2 _
  have hb13 : Below W1.heap.size W1 W3 := (unhide HB2).trans (hb3.mono (unhide HB2).size)
  have hBW : Below w.heap.size w W3 := (unhide HB1).trans (hb13.mono (unhide HB1).size)
  have HBW := hide hBW
  have HB13 := hide hb13
  have HNEW := hide hnew
  have HLP3 := hide ((unhide HLP).below hb3 rfl)
  have hc27 := hide (unhide H27' W3 hBW)
  rw [hW3]
  clear hW3 hb3 hnew hb13 hBW HLP H27 H27'
  go_wp2_with (go_at_call 27; refine (unhide hc27).mono ?_)
  rintro e w4 ⟨b2, d2, b4, d4, rfl, hlp4, hb4⟩
  have HLP4 := hide hlp4
  have HB4 := hide hb4
  clear hlp4 hb4 hc27
  go_upto_region 4 with fail
  obtain ⟨W5, hW5⟩ : ∃ W, w4.alloc (.cells #[.slice (y 0) (m 0) (d 0), .slice (y 1) (m 1) (d 1), .slice b2 (m 2) d2, .slice (y 3) (m 3) (d 3), .slice b4 (m 4) d4, .slice (y 5) (m 5) (d 5), .slice (y 6) (m 6) (d 6)] 51) = W := ⟨_, rfl⟩
  have hb5 : Below w4.heap.size w4 W5 := by rw [← hW5]; exact (Below.refl _ w4).alloc (Nat.le_refl _) _
  have hb35 : Below W3.heap.size W3 W5 := (unhide HB4).trans (hb5.mono (unhide HB4).size)
  have hv5 : W5.heap[w4.heap.size]? = some (.cells #[.slice (y 0) (m 0) (d 0), .slice (y 1) (m 1) (d 1), .slice b2 (m 2) d2, .slice (y 3) (m 3) (d 3), .slice b4 (m 4) d4, .slice (y 5) (m 5) (d 5), .slice (y 6) (m 6) (d 6)] 51 (0, 0)) := by rw [← hW5]; exact heap_alloc_new w4 _
  have hn5 : W5.heap[w2.heap.size]? = some (.cells #[.int .i64 ver, .slice (x 0) (l 0) (c 0), .slice (x 1) (l 1) (c 1), .slice a2 (l 2) c2, .slice (x 3) (l 3) (c 3), .slice a4 (l 4) c4, .slice (x 5) (l 5) (c 5), .slice (x 6) (l 6) (c 6), .pointer none, .string ft] 54 (0, 0)) := (hb35.block _ (by rw [hs3]; omega)).trans (unhide HNEW)
  have hb15 : Below W1.heap.size W1 W5 := (unhide HB13).trans (hb35.mono (unhide HB13).size)
  have hR : W5.heap[w.heap.size]? = _ := unhide HBK W5 hb15
  have HBW5 := hide ((unhide HBW).trans (hb35.mono (unhide HBW).size))
  have HLA := hide ((unhide HLP3).below hb35 rfl)
  have HLB := hide ((unhide HLP4).below hb5 rfl)
  have HV5 := hide hv5
  have HNR := hide (row_no32 hR (by simp))
  have HNN := hide (row_no32 hn5 (by simp))
  rw [hW5]
  have n0 : W5.cell? ⟨w2.heap.size, 0, none⟩ = some (.int .i64 ver) := cell_of_row _ _ 0 _ _ _ hn5
  have n1 : W5.cell? ⟨w2.heap.size, 1, none⟩ = some (.slice (x 0) (l 0) (c 0)) := cell_of_row _ _ 1 _ _ _ hn5
  have n2 : W5.cell? ⟨w2.heap.size, 2, none⟩ = some (.slice (x 1) (l 1) (c 1)) := cell_of_row _ _ 2 _ _ _ hn5
  have n3 : W5.cell? ⟨w2.heap.size, 3, none⟩ = some (.slice a2 (l 2) c2) := cell_of_row _ _ 3 _ _ _ hn5
  have n4 : W5.cell? ⟨w2.heap.size, 4, none⟩ = some (.slice (x 3) (l 3) (c 3)) := cell_of_row _ _ 4 _ _ _ hn5
  have n5 : W5.cell? ⟨w2.heap.size, 5, none⟩ = some (.slice a4 (l 4) c4) := cell_of_row _ _ 5 _ _ _ hn5
  have n6 : W5.cell? ⟨w2.heap.size, 6, none⟩ = some (.slice (x 5) (l 5) (c 5)) := cell_of_row _ _ 6 _ _ _ hn5
  have n7 : W5.cell? ⟨w2.heap.size, 7, none⟩ = some (.slice (x 6) (l 6) (c 6)) := cell_of_row _ _ 7 _ _ _ hn5
  have n8 : W5.cell? ⟨w2.heap.size, 8, none⟩ = some (.pointer none) := cell_of_row _ _ 8 _ _ _ hn5
  have n9 : W5.cell? ⟨w2.heap.size, 9, none⟩ = some (.string ft) := cell_of_row _ _ 9 _ _ _ hn5
  have y0 : W5.cell? ⟨w.heap.size, 0, none⟩ = some (.int .i64 0) := cell_of_row _ _ 0 _ _ _ hR
  have y1 : W5.cell? ⟨w.heap.size, 1, none⟩ = some (.slice none 0 0) := cell_of_row _ _ 1 _ _ _ hR
  have y2 : W5.cell? ⟨w.heap.size, 2, none⟩ = some (.slice none 0 0) := cell_of_row _ _ 2 _ _ _ hR
  have y3 : W5.cell? ⟨w.heap.size, 3, none⟩ = some (.slice none 0 0) := cell_of_row _ _ 3 _ _ _ hR
  have y4 : W5.cell? ⟨w.heap.size, 4, none⟩ = some (.slice none 0 0) := cell_of_row _ _ 4 _ _ _ hR
  have y5 : W5.cell? ⟨w.heap.size, 5, none⟩ = some (.slice none 0 0) := cell_of_row _ _ 5 _ _ _ hR
  have y6 : W5.cell? ⟨w.heap.size, 6, none⟩ = some (.slice none 0 0) := cell_of_row _ _ 6 _ _ _ hR
  have y7 : W5.cell? ⟨w.heap.size, 7, none⟩ = some (.slice none 0 0) := cell_of_row _ _ 7 _ _ _ hR
  have y8 : W5.cell? ⟨w.heap.size, 8, none⟩ = some (.pointer none) := cell_of_row _ _ 8 _ _ _ hR
  have y9 : W5.cell? ⟨w.heap.size, 9, none⟩ = some (.string { data := #[] }) := cell_of_row _ _ 9 _ _ _ hR
  have hfz : ∀ k, W5.frozen? ⟨w.heap.size, k, none⟩ = false := fun k => by simp only [World.frozen?, hR]; simp
  have hfn : ∀ k, W5.frozen? ⟨w2.heap.size, k, none⟩ = false := fun k => by simp only [World.frozen?, hn5]; simp
  have hne1 : w.heap.size < w2.heap.size := by have := (unhide HB2).size; omega
  have hne2 : w2.heap.size < w4.heap.size := by have := (unhide HB4).size; omega
  have hne : w.heap.size ≠ w2.heap.size := by omega
  have HN1 := hide hne1
  have HN2 := hide hne2
  clear hW5 hb5 hb35 hv5 hn5 hb15 hR HBK HB1 HB2 HB4 HBW HB13 HNEW HLP3 HLP4 hs3 hs1 hne1 hne2
  go_wp2
  refine bodyPost_ret (v := .agg #[.int .i64 ver, .slice (x 0) (l 0) (c 0), .slice (x 1) (l 1) (c 1), .slice a2 (l 2) c2, .slice (x 3) (l 3) (c 3), .slice a4 (l 4) c4, .slice (x 5) (l 5) (c 5), .slice (x 6) (l 6) (c 6), .pointer (some ⟨w4.heap.size, 0, none⟩), .string ft]) (by simp [results, Tryf.results19, go_sem, y0, y1, y2, y3, y4, y5, y6, y7, y8, y9]) rfl ⟨a2, c2, a4, c4, w4.heap.size, b2, d2, b4, d4, rfl, ?_, ?_, ?_, ?_⟩
  · exact ((unhide HLA).apart (unhide HNN) (fun k hk => Below.heap_setCell _ _ _ _ (by exact hk))).apart (fun j z => by rw [World.cell?_of_block (w := W5) (Below.heap_setCell _ _ _ _ (by exact hne))]; exact unhide HNR j z) (fun k hk => heap_set10 _ _ _ _ _ _ _ _ _ _ _ _ k hk)
  · exact ((blk_upd (unhide HV5) (unhide HSM)).block (Below.heap_setCell _ _ _ _ (by exact (Nat.ne_of_lt (unhide HN2)).symm))).block (heap_set10 _ _ _ _ _ _ _ _ _ _ _ _ _ (Nat.ne_of_lt (Nat.lt_trans (unhide HN1) (unhide HN2))).symm)
  · exact ((unhide HLB).apart (unhide HNN) (fun k hk => Below.heap_setCell _ _ _ _ (by exact hk))).apart (fun j z => by rw [World.cell?_of_block (w := W5) (Below.heap_setCell _ _ _ _ (by exact hne))]; exact unhide HNR j z) (fun k hk => heap_set10 _ _ _ _ _ _ _ _ _ _ _ _ k hk)
  · exact below_set10 ((unhide HBW5).setCell (p := ⟨w2.heap.size, 8, none⟩) (Nat.le_of_lt (unhide HN1)) _) (Nat.le_refl _) _ _ _ _ _ _ _ _ _ _
end Go.Proofs.Qxb6613638aFmt
