/-
  The walk of zzItoa at what is not negative.
-/
import Derived.Test.Qxb6605951aDoorB
namespace Go.Proofs.Qxb6605951aDoor
open Go.RowKit

theorem Tryd.info5 : (Tryd.prog.info? 5).map (fun i => (i.zero, i.size, i.bytes)) = some (some (.int .u8 0), 1, 1) := by kernel_rfl

/-- The buffer of zzItoa behind some rounds: from j on digits. -/
def Buf (g : Nat) (w0 wr : World) (j : Nat) (c : Nat → Int) : Prop :=
  (∀ t, t < 20 → wr.cell? ⟨g, t, none⟩ = some (.int .u8 (c t)) ∧ wr.frozen? ⟨g, t, none⟩ = false) ∧ (∀ t, j ≤ t → t < 20 → 48 ≤ c t ∧ c t ≤ 57) ∧ Below g w0 wr ∧ g < wr.heap.size

theorem Buf.step {g : Nat} {w0 wr : World} {j : Nat} {c : Nat → Int} (h : Buf g w0 wr j c) (hj : 1 ≤ j) (hj2 : j ≤ 20) (d : Int) (h1 : 48 ≤ d) (h2 : d ≤ 57) :
    Buf g w0 (wr.setCell ⟨g, j - 1, none⟩ (.int .u8 d)) (j - 1) (fun t => if t = j - 1 then d else c t) := by
  obtain ⟨a, b, e, hs⟩ := h
  refine ⟨fun t ht => ⟨?_, ?_⟩, fun t ht ht2 => ?_, e.setCell (p := ⟨g, j - 1, none⟩) (Nat.le_refl _) _, by simpa [World.setCell] using hs⟩
  · by_cases htj : t = j - 1
    · subst htj
      simp only [if_true]
      exact World.cell?_setCell_same' _ _ _ (by rw [(a (j - 1) ht).1]; rfl)
    · simp only [if_neg htj]
      rw [World.cell?_setCell_other _ _ _ _ (by simp)]
      exact (a t ht).1
  · rw [World.frozen?_setCell]; exact (a t ht).2
  · by_cases htj : t = j - 1
    · simp [htj, h1, h2]
    · simp only [if_neg htj]; exact b t (by omega) ht2

/-- The digits that lie from j on, as a list. -/
theorem Buf.list {g : Nat} {w0 wr w1 : World} {j : Nat} {c : Nat → Int} (h : Buf g w0 wr j c) (hj : j < 20) (hk : ∀ (t : Nat) (u : Value), wr.cell? ⟨g, t, none⟩ = some u → w1.cell? ⟨g, t, none⟩ = some u) :
    ∃ ds : List Int, ds.length = 20 - j ∧ Hid (∀ d ∈ ds, 48 ≤ d ∧ d ≤ (57 : Int)) ∧ ∀ (t : Nat) (u : Value), (ds.map (Value.int .u8))[t]? = some u → w1.cell? ((⟨g, j, none⟩ : Addr).add t) = some u := by
  refine ⟨(List.range (20 - j)).map fun t => c (j + t), by simp, ?_, ?_⟩
  · intro d hd
    obtain ⟨t, ht, rfl⟩ := List.mem_map.1 hd
    simp at ht
    exact h.2.1 (j + t) (by omega) (by omega)
  · intro t u hu
    have ht : t < 20 - j := by have := (List.getElem?_eq_some_iff.1 hu).1; simpa using this
    rw [Addr.add_lit]
    refine hk _ _ ?_
    rw [(h.1 (j + t) (by omega)).1]
    simp [ht] at hu
    rw [hu]

/-- Twenty new cells. -/
theorem Buf.start (w : World) (g : Nat) (hg : g = w.heap.size) : Buf g w (w.alloc (.cells #[.int .u8 0, .int .u8 0, .int .u8 0, .int .u8 0, .int .u8 0, .int .u8 0, .int .u8 0, .int .u8 0, .int .u8 0, .int .u8 0, .int .u8 0, .int .u8 0, .int .u8 0, .int .u8 0, .int .u8 0, .int .u8 0, .int .u8 0, .int .u8 0, .int .u8 0, .int .u8 0] 53)) 20 (fun _ => 0) := by
  subst hg
  refine ⟨fun t ht => ?_, fun t h1 h2 => by omega, (Below.refl _ w).alloc (Nat.le_refl _) _, by simp⟩
  have e : (w.alloc (.cells #[.int .u8 0, .int .u8 0, .int .u8 0, .int .u8 0, .int .u8 0, .int .u8 0, .int .u8 0, .int .u8 0, .int .u8 0, .int .u8 0, .int .u8 0, .int .u8 0, .int .u8 0, .int .u8 0, .int .u8 0, .int .u8 0, .int .u8 0, .int .u8 0, .int .u8 0, .int .u8 0] 53)).heap[w.heap.size]? = _ := heap_alloc_new w _
  refine ⟨?_, by simp only [World.frozen?, e]; simp⟩
  rw [cell_of_row _ _ _ _ _ _ e]
  have : ∀ t, t < 20 → (#[Value.int .u8 0, .int .u8 0, .int .u8 0, .int .u8 0, .int .u8 0, .int .u8 0, .int .u8 0, .int .u8 0, .int .u8 0, .int .u8 0, .int .u8 0, .int .u8 0, .int .u8 0, .int .u8 0, .int .u8 0, .int .u8 0, .int .u8 0, .int .u8 0, .int .u8 0, .int .u8 0] : Array Value)[t]? = some (.int .u8 0) := by
    intro t ht
    match t, ht with
    | 0, _ | 1, _ | 2, _ | 3, _ | 4, _ | 5, _ | 6, _ | 7, _ | 8, _ | 9, _ | 10, _ | 11, _ | 12, _ | 13, _ | 14, _ | 15, _ | 16, _ | 17, _ | 18, _ | 19, _ => rfl
    | t + 20, h => exact absurd h (by omega)
  exact this t ht

theorem pow_step (x j : Nat) (hj : 1 ≤ j) (h : x < 10 ^ j) : x / 10 < 10 ^ (j - 1) := by
  obtain ⟨m, rfl⟩ : ∃ m, j = m + 1 := ⟨j - 1, by omega⟩
  rw [Nat.pow_succ] at h
  simp only [Nat.add_sub_cancel]
  omega
theorem pow_pos' (x j : Nat) (hx : x ≠ 0) (h : x < 10 ^ j) : 1 ≤ j := by
  rcases j with _ | j
  · simp at h; omega
  · omega

theorem Tryd.arr53 : Tryd.prog.underlying 53 = some (.array (Tryd.prog.arrayLen 53) (Tryd.prog.elem 53)) := by kernel_rfl
theorem Tryd.len53 : Tryd.prog.arrayLen 53 = 20 := by kernel_rfl
theorem Tryd.elem53 : Tryd.prog.elem 53 = 5 := by kernel_rfl
theorem slice_array (w : World) (g l : Nat) (hl : l < 20) (z : Int) (hz : z = (l : Int)) :
    (Instr.sliceAt 53 (.pointer (some ⟨g, 0, none⟩)) (some (.int .i64 z)) none none).run Tryd.prog w = .ok (.slice (some ⟨g, l, none⟩) (20 - l) (20 - l)) w := by
  obtain ⟨i0, hi, hz0, hz1, hz2⟩ := info_parts Tryd.info5
  subst hz
  rw [run_sliceAt_array_l w 53 ⟨g, 0, none⟩ Tryd.arr53 .i64 l (by omega) (by rw [Tryd.len53]; omega), Tryd.elem53, Tryd.len53]
  have hs : (sizeOf 5).run Tryd.prog w = .ok 1 w := by simp [sizeOf, typeInfo, hi, hz1]
  rw [hs]
  simp [Result.andThen, slicedAt, Addr.add_lit]
  omega
/-- It handed back, in new memory, at least one and at most twenty decimal digits. -/
def Digits (w : World) (e : Ending) (w' : World) : Prop :=
  ∃ (v : Value) (ds : List Int), e = .returned v ∧ w'.ownsRow w.heap.size 5 1 v ds.length (ds.map (Value.int .u8)) ∧ 1 ≤ ds.length ∧ ds.length ≤ 20 ∧ (∀ d ∈ ds, 48 ≤ d ∧ d ≤ (57 : Int)) ∧ Below w.heap.size w w'

set_option maxHeartbeats 400000 in
theorem f16_any (n : Int) (h0 : 0 ≤ n) (h1 : n < 1000000000000000000) (w : World) :
    Calls Tryd.prog 16 #[.int .i64 n] w (Digits w) := by
  go_enter Tryd.func16, Tryd.ntmps16
  go_wp2
  go_loopw [3, 5] (fun u i wr => ∃ (j x : Nat) (c : Nat → Int), 1 ≤ j ∧ j ≤ 20 ∧ i = .int .i64 j ∧ u = .int .u64 x ∧ Hid (x < 10 ^ j) ∧ x < 1000000000000000000 ∧ Buf w.heap.size w wr j c) (fun _ i _ => (intOf i).toNat)
  case atStart =>
    refine ⟨20, n.toNat, fun _ => 0, by omega, by omega, rfl, by rw [Int.toNat_of_nonneg h0], ?_, by omega, ?_⟩
    · show n.toNat < 10 ^ 20
      omega
    · exact Buf.start w _ rfl
  case round =>
    obtain ⟨j, x, c, hj1, hj2, rfl, rfl, hx, hx2, hb⟩ := hrel
    obtain ⟨hc1, hc2⟩ := hb.1 (j - 1) (by omega)
    have hsz : w.heap.size < wr.heap.size := hb.2.2.2
    have hb' := hb.step hj1 hj2 (48 + (x : Int) % 10) (by omega) (by omega)
    have HB : Hid (Buf w.heap.size w (wr.setCell ⟨w.heap.size, j - 1, none⟩ (.int .u8 (48 + (x : Int) % 10))) (j - 1) (fun t => if t = j - 1 then 48 + (x : Int) % 10 else c t)) := hb'
    clear hb hb'
    by_cases hz : x / 10 = 0
    · have hz' : ((x : Int) / 10 == 0) = true := by simp; omega
      obtain ⟨i0, hi, hz0, hz1, hz2⟩ := info_parts Tryd.info5
      clear hz
      go_wp2_with (at_make; refine wpList_make_own _ rfl _ _ 27 rfl w.heap.size 5 i0 _ 1 Tryd.underlying27 hi hz0 hz1 _ _ _ 21 rfl rfl rfl (by rw [hz2]; omega) (by unfold maxLen; omega) (by simp; omega) ?_)
      intro w1 hown hgrow
      have hsl := fun wx => slice_array wx w.heap.size (j - 1) (by omega) ((j : Int) - 1) (by omega)
      obtain ⟨ds, hdl, hdr, hnew⟩ : ∃ ds : List Int, ds.length = 20 - (j - 1) ∧ Hid (∀ d ∈ ds, 48 ≤ d ∧ d ≤ (57 : Int)) ∧ ∀ (t : Nat) (u : Value), (ds.map (Value.int .u8))[t]? = some u → w1.cell? ((⟨w.heap.size, j - 1, none⟩ : Addr).add t) = some u :=
        HB.out.list (by omega) (fun t u hu => hgrow.cell hu (by simp))
      clear hc1 hc2
      go_wp2_with (at_builtin; refine wpList_append_fits _ rfl _ _ 27 rfl w.heap.size 5 i0 1 Tryd.underlying27 hi hz1 _ 0 21 [] rfl hown _ _ _ (ds.map (Value.int .u8)) rfl (by simp [hdl]) hnew (ints_oneCell _ _) (by omega) ?_)
      intro w2 hown2 hgrow2
      have hb1 := HB.out.2.2.1.grown hgrow (by have := HB.out.2.2.2; omega) (fun k e => by cases e)
      have hb2 := hb1.grown hgrow2 hb1.size (fun k e => by cases e; omega)
      clear hnew hown hgrow hgrow2 hb1
      go_wp2
      go_ret
      exact ⟨_, ds, rfl, by rw [hdl]; simpa using hown2, by omega, by omega, hdr.out, hb2⟩
    · have hz' : ((x : Int) / 10 == 0) = false := by simp; omega
      go_wp2
      go_roundw
      case rel => exact ⟨j - 1, x / 10, _, pow_pos' _ _ hz (pow_step x j hj1 hx.out), by omega, by go_num, by go_num, pow_step x j hj1 hx.out, by omega, HB.out⟩
      case measure => simp [intOf]; omega
end Go.Proofs.Qxb6605951aDoor
