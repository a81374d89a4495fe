/-
  The walk of zzContainer.
-/
import Derived.Test.Qxb6605951aDoorF
namespace Go.Proofs.Qxb6605951aDoor
open Go.RowKit

theorem Tryd.info21 : (Tryd.prog.info? 21).map (fun i => (i.zero, i.size, i.bytes)) = some (some (.int .i32 0), 1, 4) := by kernel_rfl

/-- Two rows of different element types are different blocks. -/
theorem rows_apart {w : World} {b1 b2 : Nat} {e1 e2 : TypeId} {s1 s2 : Nat} {v1 v2 : Value} {n1 n2 : Nat} {x1 x2 : List Value} (h1 : w.ownsRow b1 e1 s1 v1 n1 x1) (h2 : w.ownsRow b2 e2 s2 v2 n2 x2) (he : e1 ≠ e2) :
    v1.ownBlock = none ∨ v1.ownBlock ≠ v2.ownBlock := by
  rcases h1.2 with ⟨rfl, _⟩ | ⟨g1, c1, cur1, rfl, _, q1, _⟩
  · exact .inl rfl
  rcases h2.2 with ⟨rfl, _⟩ | ⟨g2, c2, cur2, rfl, _, q2, _⟩
  · exact .inr (by simp [Value.ownBlock])
  · refine .inr fun e => ?_
    simp [Value.ownBlock] at e
    subst e
    rw [q1] at q2
    simp at q2
    exact he q2.2

theorem ownsRow_block {w w' : World} {b : Nat} {e : TypeId} {s : Nat} {v : Value} {n : Nat} {x : List Value} (h : w.ownsRow b e s v n x) (hb : ∀ g, b ≤ g → w'.heap[g]? = w.heap[g]?) : w'.ownsRow b e s v n x := by
  refine ⟨h.1, ?_⟩
  rcases h.2 with h2 | ⟨g, cap, cur, h1, h2, h3, r⟩
  · exact .inl h2
  · exact .inr ⟨g, cap, cur, h1, h2, by rw [hb g h2]; exact h3, r⟩

/-- The cell j of an owned row of one-cell values. -/
theorem ownsRow_cell {w : World} {b : Nat} {e : TypeId} {g n cap : Nat} {n' : Nat} {x : List Value} (h : w.ownsRow b e 1 (.slice (some ⟨g, 0, none⟩) n' cap) n x) (j : Nat) (v : Value) (hj : x[j]? = some v) : w.cell? ⟨g, j, none⟩ = some v := by
  have := h.cells (g := g) rfl j v hj
  rwa [Addr.add_lit, Nat.zero_add] at this

def ContainerMade (w : World) (o kind : Int) (m : Nat) (ls : List (List Int)) (e : Ending) (w' : World) : Prop :=
  ∃ g rl rc N, e = .returned (.agg #[.int .u8 kind, .slice (some ⟨g, 0, none⟩) rl rc, .slice (some ⟨N, 0, none⟩) m m, .nilIface]) ∧ Own8 w' w.heap.size (.slice (some ⟨g, 0, none⟩) rl rc) (o :: (ls.flatten ++ [101])) ∧
    w.heap.size ≤ N ∧ Nest N m (fun j => ((ls[j]?.getD []).length : Int)) m w' ∧ Below w.heap.size w w'

/-- What has been gathered behind k rounds. -/
def Gath (B S I : Nat) (o : Int) (m : Nat) (ls : List (List Int)) (k : Nat) (vr : Value) (wr : World) : Prop :=
  Own8 wr (B + 1) vr (o :: (ls.take k).flatten) ∧ wr.ownsRow (B + 1) 21 1 (.slice (some ⟨S, 0, none⟩) k m) k ((List.range k).map fun j => .int .i32 ((ls[j]?.getD []).length : Int)) ∧
  wr.ownsRow (B + 1) 21 1 (.slice (some ⟨I, 0, none⟩) k m) k ((List.range k).map fun _ => .int .i32 0) ∧ ResAt B wr

theorem flat_step (ls : List (List Int)) (k : Nat) (hk : k < ls.length) : (ls.take (k + 1)).flatten = (ls.take k).flatten ++ (ls[k]?.getD []) := by
  rw [List.take_succ_eq_append_getElem hk, List.flatten_append]
  simp [hk]
theorem flat_le (ls : List (List Int)) (k : Nat) : (ls.take k).flatten.length ≤ ls.flatten.length := by
  have h : (ls.take k).flatten ++ (ls.drop k).flatten = ls.flatten := by rw [← List.flatten_append, List.take_append_drop]
  rw [← h, List.length_append]; omega

set_option maxHeartbeats 400000 in
theorem f7_any (o kind : Int) (B0 G m cap : Nat) (vs : List Value) (ls : List (List Int)) (w : World) (hm : m ≤ 140000) (hown : w.ownsRow B0 27 1 (.slice (some ⟨G, 0, none⟩) m cap) m vs) (hit : ItemsAt w B0 vs ls)
    (hpos : ∀ j, j < m → 0 < (ls[j]?.getD []).length) (htot : ls.flatten.length ≤ 10000000) :
    Calls Tryd.prog 7 #[.int .u8 o, .int .u8 kind, .slice (some ⟨G, 0, none⟩) m cap] w (ContainerMade w o kind m ls) := by
  obtain ⟨i5, hi, hz0, hz1, hz2⟩ := info_parts Tryd.info5
  obtain ⟨i21, yi, yz0, yz1, yz2⟩ := info_parts Tryd.info21
  go_enter Tryd.func7, Tryd.ntmps7
  go_wp2_with (at_make; refine wpList_make_own _ rfl _ _ 39 rfl (w.heap.size + 1) 21 i21 _ 1 Tryd.underlying39 yi yz0 yz1 _ _ _ m rfl rfl rfl (by rw [yz2]; omega) (by unfold maxLen; omega) (by simp) ?_)
  intro w1 hown1 hg1
  go_wp2_with (at_make; refine wpList_make_own _ rfl _ _ 39 rfl (w.heap.size + 1) 21 i21 _ 1 Tryd.underlying39 yi yz0 yz1 _ _ _ m rfl rfl rfl (by rw [yz2]; omega) (by unfold maxLen; omega) (by have := hg1.size; simp at this; omega) ?_)
  intro w2 hown2 hg2
  have hsz1 : w.heap.size + 2 < w1.heap.size := (hown1.lt _ rfl).2
  have hsz2 : w1.heap.size < w2.heap.size := (hown2.lt _ rfl).2
  have hraw : Own8 ((w.alloc (.cells #[.int .u8 0, .slice none 0 0, .slice none 0 0, .nilIface] 32)).alloc (.cells #[.int .u8 o] 5)) (w.heap.size + 1) (.slice (some ⟨w.heap.size + 1, 0, none⟩) 1 1) [o] :=
    ⟨rfl, .inr ⟨w.heap.size + 1, 1, _, rfl, Nat.le_refl _, by simpa using heap_alloc_new (w.alloc (.cells #[.int .u8 0, .slice none 0 0, .slice none 0 0, .nilIface] 32)) (.cells #[.int .u8 o] 5), Nat.le_refl _, by decide, rfl, rfl⟩⟩
  have hG : Gath w.heap.size (w.heap.size + 1 + 1) w1.heap.size o m ls 0 (.slice (some ⟨w.heap.size + 1, 0, none⟩) 1 1) w2 :=
    ⟨(hraw.kept hg1 (by simp [Value.ownBlock])).kept hg2 (by simp [Value.ownBlock]), hown1.kept hg2 (by simp [Value.ownBlock]), hown2, ((((resAt_new w).kept (World.grownBy_alloc _ _ none) (by simp)).kept hg1 (by simp)).kept hg2 (by simp))⟩
  have hbw : Below w.heap.size w w2 := ((((Below.refl _ w).alloc (Nat.le_refl _) _).alloc (by simp) _).grown hg1 (by simp; omega) (fun _ e => by cases e)).grown hg2 (by omega) (fun _ e => by cases e)
  clear hown1 hown2 hg1 hg2 hraw
  obtain ⟨I, hI⟩ : ∃ I, w1.heap.size = I := ⟨_, rfl⟩
  rw [hI] at hG hsz1 hsz2 ⊢
  clear hI
  go_wp2
  go_loopw [7, 8, 9, 10] (fun v s t i wr => ∃ k : Nat, k ≤ m ∧ i = .int .i64 k ∧ s = .slice (some ⟨w.heap.size + 1 + 1, 0, none⟩) k m ∧ t = .slice (some ⟨I, 0, none⟩) k m ∧ (∃ g rl rc, v = .slice (some ⟨g, 0, none⟩) rl rc) ∧
      Gath w.heap.size (w.heap.size + 1 + 1) I o m ls k v wr ∧ Below w.heap.size w wr ∧ I < wr.heap.size) (fun _ _ _ i _ => m - (intOf i).toNat)
  case atStart => exact ⟨0, Nat.zero_le _, rfl, rfl, rfl, ⟨_, _, _, rfl⟩, hG, hbw, hsz2⟩
  case round =>
    obtain ⟨k, hk, rfl, rfl, rfl, ⟨g, rl, rc, rfl⟩, hGr, hbr, hszr⟩ := hrel
    clear hG hbw hsz2
    by_cases hlt : k < m
    · obtain ⟨hraw, hS, hIr, hres⟩ := hGr
      have hvl : vs.length = m := by have := hown.1; simpa using this
      have hll : ls.length = m := hit.1.symm.trans hvl
      have hvk := hit.2 k (by omega)
      obtain ⟨gk, ck, hform⟩ := hvk.form (hpos k hlt)
      have hflat := flat_step ls k (by omega)
      have hfl := flat_le ls (k + 1)
      have hcellk : w.cell? ⟨G, k, none⟩ = some (vs[k]?.getD undef) := ownsRow_cell hown k _ (by simp [show k < vs.length by omega])
      rw [hform] at hvk hcellk
      obtain ⟨l, hl⟩ : ∃ l, ls[k]?.getD [] = l := ⟨_, rfl⟩
      rw [hl] at hvk hcellk hflat
      have hszk : Hid ((((ls[k]?.getD []).length : Nat) : Int) = (l.length : Int)) := by rw [hl]; rfl
      clear hform hl
      have hnews : ∀ (j : Nat) (u : Value), (l.map (Value.int .u8))[j]? = some u → wr.cell? ((⟨gk, 0, none⟩ : Addr).add j) = some u := by
        intro j u hu
        have h1 := ownsRow_cell hvk j u hu
        rw [Addr.add_lit, Nat.zero_add, hbr.cell (p := ⟨gk, j, none⟩) (World.block_lt_of_cell? w _ h1)]
        exact h1
      have hck : wr.cell? ⟨G, k, none⟩ = some (.slice (some ⟨gk, 0, none⟩) l.length ck) := (hbr.cell (World.block_lt_of_cell? w _ hcellk)).trans hcellk
      have hn1 : (o :: (ls.take k).flatten).length + l.length ≤ 10000001 := by
        rw [hflat] at hfl; simp only [List.length_cons, List.length_append] at hfl ⊢; omega
      have hbound : l.length ≤ 10000001 := by omega
      have HF : Hid ((ls.take (k + 1)).flatten = (ls.take k).flatten ++ l) := hflat
      clear hcellk hvk hflat hfl
      go_wp2_with (at_builtin; refine wpList_append_own _ rfl _ _ 27 rfl (w.heap.size + 1) 5 i5 (.int .u8 0) 1 1 Tryd.underlying27 hi hz0 hz1 hz2 rfl (by decide) _ _ _ rfl hraw ⟨gk, 0, none⟩ l.length ck (l.map (Value.int .u8)) rfl (by simp) hnews (ints_oneCell _ _) (by unfold maxLen; omega) (by omega) (by omega) ?_)
      intro v3 w3 hown3 hg3 _
      have hraw3 : Own8 w3 (w.heap.size + 1) v3 (o :: (ls.take (k + 1)).flatten) := by
        unfold Own8
        rw [HF.out]
        simpa [Nat.add_assoc, Nat.add_comm, Nat.add_left_comm] using hown3
      have hS3 := hS.kept hg3 (rows_apart hS hraw (by decide))
      have hI3 := hIr.kept hg3 (rows_apart hIr hraw (by decide))
      have hres3 := hres.kept hg3 (fun e => by have := (hraw.lt _ e.symm).1; omega)
      have hb3 : Below w.heap.size w w3 := hbr.grown hg3 hbr.size (fun r e => by have := (hraw.lt _ e).1; omega)
      have hsz3 : I < w3.heap.size := by have := hg3.size; omega
      have hck3 : w3.cell? ⟨G, k, none⟩ = some (.slice (some ⟨gk, 0, none⟩) l.length ck) := hg3.cell hck (fun e => by
        have h1 := (hraw.lt _ e.symm).1
        have h2 : G < w.heap.size := (hown.lt _ rfl).2
        simp at h1; omega)
      obtain ⟨g3, c3, hv3⟩ := hraw3.form (by simp)
      obtain ⟨n3, hn3⟩ : ∃ n, (o :: (ls.take (k + 1)).flatten).length = n := ⟨_, rfl⟩
      rw [hn3] at hv3
      subst hv3
      clear hown3 hg3 hS hIr hres hraw hbr hszr hck hnews hn1 hn3
      go_wp2_with (at_builtin; refine wpList_append_fits _ rfl _ _ 39 rfl (w.heap.size + 1) 21 i21 1 Tryd.underlying39 yi yz1 _ k m _ rfl (hS3.alloc _) ⟨w3.heap.size, 0, none⟩ 1 1 [.int .i32 l.length] rfl rfl (cell_one_new _ _ _) (by simp [Value.oneCell']) (by omega) ?_)
      intro w4 hS4 hg4
      have hraw4 : Own8 w4 _ _ _ := (hraw3.alloc (.cells #[.int .i32 l.length] 21)).kept hg4 (rows_apart hraw3 hS3 (by decide))
      have hI4 := (hI3.alloc (.cells #[.int .i32 l.length] 21)).kept hg4 (by simp [Value.ownBlock]; omega)
      have hres4 := (hres3.kept (World.grownBy_alloc _ (.cells #[.int .i32 l.length] 21) none) (by simp)).kept hg4 (by simp; omega)
      have hb4 : Below w.heap.size w w4 := (hb3.alloc hb3.size _).grown hg4 (by simp; omega) (fun r e => by cases e; omega)
      have hsz4 : I < w4.heap.size := by have := hg4.size; simp at this; omega
      clear hS3 hg4 hraw3 hI3 hres3 hb3 hsz3 hck3
      go_wp2_with (at_builtin; refine wpList_append_fits _ rfl _ _ 39 rfl (w.heap.size + 1) 21 i21 1 Tryd.underlying39 yi yz1 _ k m _ rfl (hI4.alloc _) ⟨w4.heap.size, 0, none⟩ 1 1 [.int .i32 0] rfl rfl (cell_one_new _ _ _) (by simp [Value.oneCell']) (by omega) ?_)
      intro w5 hI5 hg5
      have hraw5 : Own8 w5 _ _ _ := (hraw4.alloc (.cells #[.int .i32 0] 21)).kept hg5 (rows_apart hraw4 hI4 (by decide))
      have hS5 := (hS4.alloc (.cells #[.int .i32 0] 21)).kept hg5 (by simp [Value.ownBlock]; omega)
      have hres5 := (hres4.kept (World.grownBy_alloc _ (.cells #[.int .i32 0] 21) none) (by simp)).kept hg5 (by simp; omega)
      have hb5 : Below w.heap.size w w5 := (hb4.alloc hb4.size _).grown hg5 (by simp; omega) (fun r e => by cases e; omega)
      have hsz5 : I < w5.heap.size := by have := hg5.size; simp at this; omega
      clear hS4 hg5 hraw4 hI4 hres4 hb4 hsz4
      go_wp2
      go_roundw
      case rel =>
        refine ⟨k + 1, by omega, by go_num, rfl, rfl, ⟨_, _, _, rfl⟩, ⟨hraw5, ?_, ?_, hres5⟩, hb5, hsz5⟩
        · rw [List.range_succ, List.map_append, List.map_cons, List.map_nil, hszk.out]; exact hS5
        · rw [List.range_succ, List.map_append, List.map_cons, List.map_nil]; exact hI5
      case measure => simp [intOf]; omega
    · obtain rfl : k = m := by omega
      obtain ⟨hraw, hS, hIr, hres⟩ := hGr
      have hvl : vs.length = k := by have := hown.1; simpa using this
      have hll : ls.length = k := hit.1.symm.trans hvl
      have hn1 : (o :: (ls.take k).flatten).length ≤ 10000001 := by
        have := flat_le ls k; simp only [List.length_cons]; omega
      have HT : ls.take k = ls := by rw [← hll]; exact List.take_length
      rw [HT] at hraw hn1
      clear HT
      clear hvl hll hown hit
      go_wp2_with (at_builtin; refine wpList_append_own _ rfl _ _ 27 rfl (w.heap.size + 1) 5 i5 (.int .u8 0) 1 1 Tryd.underlying27 hi hz0 hz1 hz2 rfl (by decide) _ _ _ rfl (hraw.alloc _) ⟨wr.heap.size, 0, none⟩ 1 1 [.int .u8 101] rfl rfl (cell_one_new _ _ _) (by simp [Value.oneCell']) (by unfold maxLen; omega) (by omega) (by simp; omega) ?_)
      intro v3 w3 hown3 hg3 _
      have hraw3 : Own8 w3 (w.heap.size + 1) v3 (o :: (ls.flatten ++ [101])) := by
        unfold Own8
        simpa [Nat.add_assoc, Nat.add_comm, Nat.add_left_comm] using hown3
      have hS3 := (hS.alloc (.cells #[.int .u8 101] 5)).kept hg3 (rows_apart hS hraw (by decide))
      have hI3 := (hIr.alloc (.cells #[.int .u8 101] 5)).kept hg3 (rows_apart hIr hraw (by decide))
      have hres3 := (hres.kept (World.grownBy_alloc _ (.cells #[.int .u8 101] 5) none) (by simp)).kept hg3 (fun e => by have := (hraw.lt _ e.symm).1; omega)
      have hb3 : Below w.heap.size w w3 := (hbr.alloc hbr.size _).grown hg3 (by simp; omega) (fun r e => by have := (hraw.lt _ e).1; omega)
      obtain ⟨g3, c3, hv3⟩ := hraw3.form (by simp)
      obtain ⟨n3, hn3⟩ : ∃ n, (o :: (ls.flatten ++ [101])).length = n := ⟨_, rfl⟩
      rw [hn3] at hv3
      subst hv3
      clear hown3 hg3 hS hIr hres hraw hbr hszr hn1 hn3
      have hSc : ∀ j, j < k → w3.cell? ⟨w.heap.size + 1 + 1, j, none⟩ = some (.int .i32 ((ls[j]?.getD []).length : Int)) := fun j hj => ownsRow_cell hS3 j _ (by simp [hj])
      have hIc : ∀ j, j < k → w3.cell? ⟨I, j, none⟩ = some (.int .i32 0) := fun j hj => ownsRow_cell hI3 j _ (by simp [hj])
      have HC := f12_any kind g3 n3 c3 (w.heap.size + 1 + 1) I k k k (fun j => ((ls[j]?.getD []).length : Int)) w3 hm hSc hIc
      clear hSc hIc hS3 hI3
      have HCh : Hid (Calls Tryd.prog 12 #[.int .u8 kind, .slice (some ⟨g3, 0, none⟩) n3 c3, .slice (some ⟨w.heap.size + 1 + 1, 0, none⟩) k k, .slice (some ⟨I, 0, none⟩) k k] w3 (ValueMade w3 kind (.slice (some ⟨g3, 0, none⟩) n3 c3) k (fun j => ((ls[j]?.getD []).length : Int)))) := HC
      clear HC
      go_wp2_with (go_at_call 12; refine HCh.out.mono ?_)
      rintro e w4 ⟨N, rfl, hN, hnest, hb4⟩
      have hres4 := hres3.kept (below_grownBy hb4 none) (by simp)
      have hraw4 : Own8 w4 _ _ _ := hraw3.kept (below_grownBy hb4 none) (by simp [Value.ownBlock])
      have hb5 : Below w.heap.size w w4 := hb3.trans (hb4.mono hb3.size)
      have hNw : w.heap.size + 1 ≤ N := by have := (hraw3.lt _ rfl).2; have := (hraw3.lt _ rfl).1; omega
      obtain ⟨⟨r0, q0⟩, ⟨r1, q1⟩, ⟨r2, q2⟩, ⟨r3, q3⟩, z0, z1, z2, z3⟩ := hres4
      clear hres3 hraw3 hb4 hb3 HCh
      go_wp2
      refine bodyPost_ret (v := .agg #[.int .u8 kind, .slice (some ⟨g3, 0, none⟩) n3 c3, .slice (some ⟨N, 0, none⟩) k k, .nilIface]) (by simp [results, Tryd.results7, go_sem, q0, q1, q2, q3]) rfl ⟨g3, n3, c3, N, rfl, ?_, by omega, ?_, ?_⟩
      · refine Own8.base (B := w.heap.size + 1) ?_ (by omega)
        exact ownsRow_block hraw4 (fun b hb => (Below.heap_setCell _ _ _ _ (by simp; omega)).trans ((Below.heap_setCell _ _ _ _ (by simp; omega)).trans ((Below.heap_setCell _ _ _ _ (by simp; omega)).trans (Below.heap_setCell _ _ _ _ (by simp; omega)))))
      · exact hnest.block ((Below.heap_setCell _ _ _ _ (by simp; omega)).trans ((Below.heap_setCell _ _ _ _ (by simp; omega)).trans ((Below.heap_setCell _ _ _ _ (by simp; omega)).trans (Below.heap_setCell _ _ _ _ (by simp; omega)))))
      · exact (((hb5.setCell (p := ⟨w.heap.size, 0, none⟩) (Nat.le_refl _) _).setCell (p := ⟨w.heap.size, 1, none⟩) (Nat.le_refl _) _).setCell (p := ⟨w.heap.size, 2, none⟩) (Nat.le_refl _) _).setCell (p := ⟨w.heap.size, 3, none⟩) (Nat.le_refl _) _
end Go.Proofs.Qxb6605951aDoor
