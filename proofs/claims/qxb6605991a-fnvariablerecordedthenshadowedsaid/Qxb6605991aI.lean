/-
  The walk of ZZnewOrigin.
-/
import Derived.Test.Qxb6605991aH
import Derived.BigRegion
namespace Go.Proofs.Qxb6605991a
open Go.RowKit

/-- It handed back an Origin: the path, a file map that hides as h says, a variables' map that answers V; old memory stands. -/
def OriginDone (w : World) (path : ByteArray) (h : ByteArray → ByteArray → Bool) (V : ByteArray × Int → Option ByteArray) (e : Ending) (w' : World) : Prop :=
  ∃ fb vb, e = .returned (.agg #[.string path, .map (some fb), .map (some vb)]) ∧ FileAt w' fb h ∧ MapAt kref w' vb (fun q => (V q).map Value.string) ∧ Below w.heap.size w w'

theorem RowAt.cell {w w' : World} {b off len : Nat} {F : Nat → Value} (h : ∀ k, k < len → w.cell? ⟨b, off + k, none⟩ = some (F k)) {B : Nat} (hb : Below B w w') (hB : w.heap.size ≤ B) (k : Nat) (hk : k < len) : w'.cell? ⟨b, off + k, none⟩ = some (F k) :=
  (hb.cell (Nat.lt_of_lt_of_le (World.block_lt_of_cell? w _ (h k hk)) hB)).trans (h k hk)

theorem FileAt.of_blocks {w w' : World} {fb : Nat} {h : ByteArray → ByteArray → Bool} (H : FileAt w fb h) (hb : ∀ b, fb ≤ b → w'.heap[b]? = w.heap[b]?) : FileAt w' fb h := by
  obtain ⟨L, hL, hs⟩ := H
  refine ⟨L, hL.of_block (hb _ (Nat.le_refl _)), fun s => ?_⟩
  rcases hs s with h1 | ⟨mb, M, h0, h1, h2⟩ | h1
  · exact .inl h1
  · exact .inr (.inl ⟨mb, M, h0, h1.of_block (hb _ (Nat.le_of_lt h0)), h2⟩)
  · exact .inr (.inr h1)
theorem heap_set3 (w : World) (g : Nat) (x y z : Value) (b : Nat) (h : b ≠ g) : (((w.setCell ⟨g, 0, none⟩ x).setCell ⟨g, 1, none⟩ y).setCell ⟨g, 2, none⟩ z).heap[b]? = w.heap[b]? :=
  (Below.heap_setCell _ _ _ _ h).trans ((Below.heap_setCell _ _ _ _ h).trans (Below.heap_setCell _ _ _ _ h))

set_option maxHeartbeats 1000000 in
theorem f12_any (path : ByteArray) (a1 a2 a3 a4 a5 a6 : Option Addr) (l1 l2 l3 l4 l5 l6 c1 c2 c3 c4 c5 c6 : Nat) (f1 f3 f4 f6 : Nat → ByteArray) (f5 : Nat → Int) (ka : Nat → Option Addr) (kl kc : Nat → Nat) (ks : Nat → Nat → ByteArray) (w : World)
    (h1 : RowAt w a1 l1 fun k => .string (f1 k)) (h2 : KeysAt w a2 l2 ka kl kc ks) (h3 : RowAt w a3 l3 fun k => .string (f3 k)) (h4 : RowAt w a4 l4 fun k => .string (f4 k)) (h5 : RowAt w a5 l5 fun k => .int .i64 (f5 k)) (h6 : RowAt w a6 l6 fun k => .string (f6 k))
    (hl1 : l1 ≤ 1048577) (e2 : l2 = l1) (hl3 : l3 ≤ 1048577) (hl4 : l4 ≤ 1048577) (e5 : l5 = l4) (e6 : l6 = l4) (hkl : ∀ k, k < l2 → kl k ≤ 1048577) :
    Calls Try.prog 12 #[.string path, .slice a1 l1 c1, .slice a2 l2 c2, .slice a3 l3 c3, .slice a4 l4 c4, .slice a5 l5 c5, .slice a6 l6 c6] w
      (OriginDone w path (hidA (hidT f1 kl ks l1) f3 l3) (varsOf f4 f5 f6 l4)) := by
  subst e2 e5 e6
  have hmm := fun (wx : World) => run_makeMap_plain (P := Try.prog) wx 35
  have hmm2 := fun (wx : World) => run_makeMap_plain (P := Try.prog) wx 36
  obtain ⟨W1, hW1⟩ : ∃ W, w.alloc (.cells #[.string { data := #[] }, .map none, .map none] 38) = W := ⟨_, rfl⟩
  have hb1 : Below w.heap.size w W1 := by rw [← hW1]; exact (Below.refl _ w).alloc (Nat.le_refl _) _
  have hsz1 : W1.heap.size = w.heap.size + 1 := by rw [← hW1]; simp
  have hcell : ∀ (k : Nat), W1.cell? ⟨w.heap.size, k, none⟩ = (#[.string { data := #[] }, .map none, .map none] : Array Value)[k]? := fun k => by
    rw [← hW1]; exact cell_of_row _ _ _ _ _ _ (heap_alloc_new w _)
  have HB1 := hide hb1
  have HSZ := hide hsz1
  have HCE := hide hcell
  have HFR : Hid (∀ k, W1.frozen? ⟨w.heap.size, k, none⟩ = false) := fun k => by
    rw [← hW1]
    simp only [World.frozen?, heap_alloc_new]
    simp
  have H1 := hide (h1.below hb1 (Nat.le_refl _))
  have H2 := hide (And.intro (h2.row.below hb1 (Nat.le_refl _)) fun k hk => (h2.rows k hk).below hb1 (Nat.le_refl _))
  have H3 := hide (h3.below hb1 (Nat.le_refl _))
  have H4 := hide (h4.below hb1 (Nat.le_refl _))
  have H5 := hide (h5.below hb1 (Nat.le_refl _))
  have H6 := hide (h6.below hb1 (Nat.le_refl _))
  have HKL := hide hkl
  clear h1 h2 h3 h4 h5 h6 hkl hb1 hsz1 hcell
  go_enter Try.func12, Try.ntmps12
  go_wp2
  have hst : Hid (FileAt (W1.alloc (.map #[] 0)) W1.heap.size (hidT f1 kl ks 0) ∧ Below W1.heap.size W1 (W1.alloc (.map #[] 0))) := ⟨FileAt.new W1, (Below.refl _ W1).alloc (Nat.le_refl _) _⟩
  go_loopw [16] (fun i wr => ∃ (k : Nat), k ≤ l2 ∧ i = .int .i64 k ∧ Hid (FileAt wr W1.heap.size (hidT f1 kl ks k) ∧ Below W1.heap.size W1 wr)) (fun i _ => l2 - (intOf i).toNat)
  case atStart => exact ⟨0, Nat.zero_le _, rfl, hst⟩
  case round =>
    obtain ⟨k, hk, rfl, HR⟩ := hrel
    clear hst
    obtain ⟨wo, hwo⟩ : ∃ x, x = wr := ⟨_, rfl⟩
    subst hwo
    by_cases hlt : k < l2
    · rcases unhide H1 with rfl | ⟨b, off, rfl, hc⟩
      · omega
      rcases (unhide H2).1 with rfl | ⟨b', off', rfl, hc'⟩
      · omega
      have hbr := (unhide HR).2
      have hin := ((unhide H2).2 k hlt).below hbr (Nat.le_refl _)
      have hn := RowAt.cell hc hbr (Nat.le_refl _) k hlt
      have hkk := RowAt.cell hc' hbr (Nat.le_refl _) k hlt
      have hm := unhide HKL k hlt
      have HN := hide (show wo.cell? ⟨b, off + k, none⟩ = some (.string (f1 k)) from hn)
      have HKK := hide (show wo.cell? ⟨b', off' + k, none⟩ = some (.slice (ka k) (kl k) (kc k)) from hkk)
      have HIN := hide hin
      clear hc hc' hbr hin hn hkk H1 H2 H3 H4 H5 H6 HKL HB1 HSZ HCE HFR hl3 hl4
      have hst2 : Hid (MapAt Value.string (wo.alloc (.map #[] 0)) wo.heap.size (keysOf (ks k) 0) ∧ Below wo.heap.size wo (wo.alloc (.map #[] 0))) :=
        ⟨(MapAt.new _ wo).congr (fun q => by simp [keysOf]), (Below.refl _ wo).alloc (Nat.le_refl _) _⟩
      go_wp2
      go_loopw [18] (fun i wi => ∃ (j : Nat), j ≤ kl k ∧ i = .int .i64 j ∧ Hid (MapAt Value.string wi wo.heap.size (keysOf (ks k) j) ∧ Below wo.heap.size wo wi)) (fun i _ => kl k - (intOf i).toNat)
      case atStart => exact ⟨0, Nat.zero_le _, rfl, hst2⟩
      case round =>
        obtain ⟨j, hj, rfl, HI⟩ := hrel
        clear hst2
        have hkk := (unhide HI).2.cell (World.block_lt_of_cell? wo _ (unhide HKK)) |>.trans (unhide HKK)
        by_cases hltj : j < kl k
        · rcases unhide HIN with h0 | ⟨b2, off2, hka, hc2⟩
          · omega
          rw [hka] at hkk
          have hcj : wr.cell? ⟨b2, off2 + j, none⟩ = some (.string (ks k j)) := RowAt.cell hc2 (unhide HI).2 (Nat.le_refl _) j hltj
          obtain ⟨w2, hup, hm2, hg2⟩ := (unhide HI).1.update (keyOk_string Try.underlying9) Try.underlying35 (ks k j) (.iface 9 (.string { data := #[] }))
          have hst3 : Hid (MapAt Value.string w2 wo.heap.size (keysOf (ks k) (j + 1)) ∧ Below wo.heap.size wo w2) :=
            ⟨hm2.congr (fun q => by rw [← keysOf_step (ks k) j q]), (unhide HI).2.grown hg2 (unhide HI).2.size (fun r e => by cases e; exact Nat.le_refl _)⟩
          clear hm2 hg2 HI HR HN HKK HIN hka hc2
          go_wp2
          go_roundw
          case rel => exact ⟨j + 1, by omega, by go_num, hst3⟩
          case measure => simp [intOf]; omega
        · obtain rfl : j = kl k := by omega
          have hn := (unhide HI).2.cell (World.block_lt_of_cell? wo _ (unhide HN)) |>.trans (unhide HN)
          have hfile := (unhide HR).1.below (unhide HI).2 (Nat.le_refl _)
          obtain ⟨w2, hup, hf2, hg2⟩ := hfile.table (f1 k) (unhide HI).1 (unhide HR).1.lt
          have hst3 : Hid (FileAt w2 W1.heap.size (hidT f1 kl ks (k + 1)) ∧ Below W1.heap.size W1 w2) :=
            ⟨hf2.congr (fun s q => by rw [keysOf_isSome]; rfl), ((unhide HR).2.trans ((unhide HI).2.mono (unhide HR).2.size)).grown hg2 (Nat.le_trans (unhide HR).2.size (unhide HI).2.size) (fun r e => by cases e; exact Nat.le_refl _)⟩
          clear hf2 hg2 HI HR HN HKK HIN hfile
          go_wp2
          go_roundw
          case rel => exact ⟨k + 1, by omega, by go_num, hst3⟩
          case measure => simp [intOf]; omega
    · obtain rfl : k = l2 := by omega
      clear H1 H2 HKL hlt hk
      have hst : Hid (FileAt wo W1.heap.size (hidA (hidT f1 kl ks k) f3 0) ∧ Below W1.heap.size W1 wo) := HR
      clear HR
      go_wp2
      go_loopw [19] (fun i wr => ∃ (j : Nat), j ≤ l3 ∧ i = .int .i64 j ∧ Hid (FileAt wr W1.heap.size (hidA (hidT f1 kl ks k) f3 j) ∧ Below W1.heap.size W1 wr)) (fun i _ => l3 - (intOf i).toNat)
      case atStart => exact ⟨0, Nat.zero_le _, rfl, hst⟩
      case round =>
        obtain ⟨j, hj, rfl, HR⟩ := hrel
        clear hst
        by_cases hltj : j < l3
        · rcases unhide H3 with rfl | ⟨b, off, rfl, hc⟩
          · omega
          have hn : wr.cell? ⟨b, off + j, none⟩ = some (.string (f3 j)) := RowAt.cell hc (unhide HR).2 (Nat.le_refl _) j hltj
          have hfa := (unhide HR).1.below ((Below.refl wr.heap.size wr).alloc (Nat.le_refl _) (.cells #[] 35)) (Nat.le_refl _)
          obtain ⟨w2, hup, hf2, hg2⟩ := hfa.array (f3 j) (some ⟨wr.heap.size, 0, none⟩) 0 0
          have hst3 : Hid (FileAt w2 W1.heap.size (hidA (hidT f1 kl ks k) f3 (j + 1)) ∧ Below W1.heap.size W1 w2) :=
            ⟨hf2, ((unhide HR).2.alloc (unhide HR).2.size (.cells #[] 35)).grown hg2 (by have := (unhide HR).2.size; simp; omega) (fun r e => by cases e; exact Nat.le_refl _)⟩
          clear hc H3 H4 H5 H6 HB1 HSZ HCE HFR HR hfa hf2 hg2
          go_wp2
          go_roundw
          case rel => exact ⟨j + 1, by omega, by go_num, hst3⟩
          case measure => simp [intOf]; omega
        · obtain rfl : j = l3 := by omega
          obtain ⟨Wf, hWf⟩ : ∃ x, x = wr := ⟨_, rfl⟩
          subst hWf
          clear H3
          obtain ⟨W3, hW3⟩ : ∃ W, Wf.alloc (.map #[] 0) = W := ⟨_, rfl⟩
          have hb3 : Below Wf.heap.size Wf W3 := by rw [← hW3]; exact (Below.refl _ Wf).alloc (Nat.le_refl _) _
          have hst : Hid (MapAt kref W3 Wf.heap.size (fun q => (varsOf f4 f5 f6 0 q).map Value.string) ∧ Below Wf.heap.size Wf W3) := by
            refine ⟨?_, hb3⟩
            rw [← hW3]
            exact (MapAt.new kref Wf).congr (fun q => rfl)
          clear hb3
          go_wp2
          go_loopw [21] (fun i wr => ∃ (v : Nat), v ≤ l6 ∧ i = .int .i64 v ∧ Hid (MapAt kref wr Wf.heap.size (fun q => (varsOf f4 f5 f6 v q).map Value.string) ∧ Below Wf.heap.size Wf wr)) (fun i _ => l6 - (intOf i).toNat)
          case atStart => exact ⟨0, Nat.zero_le _, rfl, hst⟩
          case round =>
            obtain ⟨v, hv, rfl, HV⟩ := hrel
            clear hst
            by_cases hltv : v < l6
            · rcases unhide H4 with rfl | ⟨b4, o4, rfl, hc4⟩
              · omega
              rcases unhide H5 with rfl | ⟨b5, o5, rfl, hc5⟩
              · omega
              rcases unhide H6 with rfl | ⟨b6, o6, rfl, hc6⟩
              · omega
              have hbw : Below W1.heap.size W1 wr := (unhide HR).2.trans ((unhide HV).2.mono (unhide HR).2.size)
              have hn4 : wr.cell? ⟨b4, o4 + v, none⟩ = some (.string (f4 v)) := RowAt.cell hc4 hbw (Nat.le_refl _) v hltv
              have hn5 : wr.cell? ⟨b5, o5 + v, none⟩ = some (.int .i64 (f5 v)) := RowAt.cell hc5 hbw (Nat.le_refl _) v hltv
              have hn6 : wr.cell? ⟨b6, o6 + v, none⟩ = some (.string (f6 v)) := RowAt.cell hc6 hbw (Nat.le_refl _) v hltv
              have hvd : MapAt kref wr.drew Wf.heap.size (fun q => (varsOf f4 f5 f6 v q).map Value.string) := (unhide HV).1.of_block rfl
              obtain ⟨w2, hup0, hm2, hg2⟩ := hvd.update keyOk_kref Try.underlying36 (f4 v, f5 v) (.string (f6 v))
              have hup : (Instr.mapUpdate 36 (.map (some Wf.heap.size)) (.agg #[.string (f4 v), .int .i64 (f5 v), .string { data := #[] }]) (.string (f6 v))).run Try.prog wr.drew = .ok () w2 := hup0
              have hst4 : Hid (MapAt kref w2 Wf.heap.size (fun q => (varsOf f4 f5 f6 (v + 1) q).map Value.string) ∧ Below Wf.heap.size Wf w2) :=
                ⟨hm2.congr (fun q => by
                  show _ = (if q = (f4 v, f5 v) then some (f6 v) else varsOf f4 f5 f6 v q).map Value.string
                  by_cases hq : q = (f4 v, f5 v)
                  · rw [if_pos hq, if_pos hq]; rfl
                  · rw [if_neg hq, if_neg hq]), (unhide HV).2.drew.grown hg2 (unhide HV).2.size (fun r e => by cases e; exact Nat.le_refl _)⟩
              clear hup0 hm2 hg2 hvd HV
              clear hc4 hc5 hc6 hbw H4 H5 H6 HB1 HSZ HCE HFR HR
              go_wp2
              go_region
              go_wp2
              go_roundw
              case rel => exact ⟨v + 1, by omega, by go_num, hst4⟩
              case measure => simp [intOf]; omega
            · obtain rfl : v = l6 := by omega
              clear H4 H5 H6
              have hbw : Below W1.heap.size W1 wr := (unhide HR).2.trans ((unhide HV).2.mono (unhide HR).2.size)
              have hlt1 : w.heap.size < W1.heap.size := by rw [unhide HSZ]; omega
              have hfile := (unhide HR).1.below (unhide HV).2 (Nat.le_refl _)
              have hfb := (unhide HR).1.lt
              have q0 : wr.cell? ⟨w.heap.size, 0, none⟩ = some (.string { data := #[] }) := (hbw.cell (p := ⟨w.heap.size, 0, none⟩) hlt1).trans (unhide HCE 0)
              have q1 : wr.cell? ⟨w.heap.size, 1, none⟩ = some (.map none) := (hbw.cell (p := ⟨w.heap.size, 1, none⟩) hlt1).trans (unhide HCE 1)
              have q2 : wr.cell? ⟨w.heap.size, 2, none⟩ = some (.map none) := (hbw.cell (p := ⟨w.heap.size, 2, none⟩) hlt1).trans (unhide HCE 2)
              have z0 : wr.frozen? ⟨w.heap.size, 0, none⟩ = false := (hbw.frozen (p := ⟨w.heap.size, 0, none⟩) hlt1).trans (unhide HFR 0)
              have z1 : wr.frozen? ⟨w.heap.size, 1, none⟩ = false := (hbw.frozen (p := ⟨w.heap.size, 1, none⟩) hlt1).trans (unhide HFR 1)
              have z2 : wr.frozen? ⟨w.heap.size, 2, none⟩ = false := (hbw.frozen (p := ⟨w.heap.size, 2, none⟩) hlt1).trans (unhide HFR 2)
              have hfin : FileAt (((wr.setCell ⟨w.heap.size, 0, none⟩ (.string path)).setCell ⟨w.heap.size, 1, none⟩ (.map (some W1.heap.size))).setCell ⟨w.heap.size, 2, none⟩ (.map (some Wf.heap.size))) W1.heap.size (hidA (hidT f1 kl ks k) f3 j) ∧
                  MapAt kref (((wr.setCell ⟨w.heap.size, 0, none⟩ (.string path)).setCell ⟨w.heap.size, 1, none⟩ (.map (some W1.heap.size))).setCell ⟨w.heap.size, 2, none⟩ (.map (some Wf.heap.size))) Wf.heap.size (fun q => (varsOf f4 f5 f6 v q).map Value.string) ∧
                  Below w.heap.size w (((wr.setCell ⟨w.heap.size, 0, none⟩ (.string path)).setCell ⟨w.heap.size, 1, none⟩ (.map (some W1.heap.size))).setCell ⟨w.heap.size, 2, none⟩ (.map (some Wf.heap.size))) :=
                ⟨hfile.of_blocks (fun b hb => heap_set3 _ _ _ _ _ _ (by omega)), (unhide HV).1.of_block (heap_set3 _ _ _ _ _ _ (by omega)),
                  ((((unhide HB1).trans (hbw.mono (by omega))).setCell (p := ⟨w.heap.size, 0, none⟩) (Nat.le_refl _) _).setCell (p := ⟨w.heap.size, 1, none⟩) (Nat.le_refl _) _).setCell (p := ⟨w.heap.size, 2, none⟩) (Nat.le_refl _) _⟩
              have HFIN := hide hfin
              clear hfin hbw hlt1 hfile hfb HR HV HB1 HSZ HCE HFR
              go_wp2
              exact bodyPost_ret (v := .agg #[.string path, .map (some W1.heap.size), .map (some Wf.heap.size)]) (by simp [results, Try.results12, go_sem, q0, q1, q2]) rfl ⟨_, _, rfl, unhide HFIN⟩
end Go.Proofs.Qxb6605991a
