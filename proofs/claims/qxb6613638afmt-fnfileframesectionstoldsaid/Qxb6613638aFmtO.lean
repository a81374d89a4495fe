/-
  The walks of zzTypes and zzLeaps.
-/
import Derived.Test.Qxb6613638aFmtG
import Derived.OwnWalk
import Derived.RegionTactic
import Derived.BigRegion
import Derived.Lib.SliceRun
namespace Go.Proofs.Qxb6613638aFmt
open Go.RowKit Go.Extern

theorem Tryf.info91 : (Tryf.prog.info? 91).map (fun i => (i.zero, i.size, i.bytes)) = some (some (.agg #[.int .i32 0, .int .u8 0, .int .u8 0]), 3, 8) := by kernel_rfl
theorem Tryf.info92 : (Tryf.prog.info? 92).map (fun i => (i.zero, i.size, i.bytes)) = some (some (.agg #[.int .i64 0, .int .i32 0]), 2, 16) := by kernel_rfl

/-- What 'ownsRow' says of a value that lies at a row's head. -/
theorem row_of_owns {w : World} {base : Nat} {e : TypeId} {size n : Nat} {xs : List Value} {g n' cap : Nat} (h : w.ownsRow base e size (.slice (some ⟨g, 0, none⟩) n' cap) n xs) :
    n' = n ∧ base ≤ g ∧ ∃ cur : Array Value, w.heap[g]? = some (.cells cur e (0, 0)) ∧ n ≤ cap ∧ cur.size = cap * size ∧ cur.toList.take (n * size) = xs := by
  rcases h.2 with ⟨h1, _⟩ | ⟨g', cap', cur, h1, h2, h3, h4, _, h6, h7⟩
  · cases h1
  · cases h1
    exact ⟨rfl, h2, cur, h3, h4, h6, h7⟩

/-- m cells that may be written. -/
def Room (N m : Nat) (w : World) : Prop := ∀ j, j < m → (∃ v, w.cell? ⟨N, j, none⟩ = some v) ∧ w.frozen? ⟨N, j, none⟩ = false

theorem room_start {w : World} {N m : Nat} {cur : Array Value} {t : TypeId} (h : w.heap[N]? = some (.cells cur t (0, 0))) (hs : cur.size = m) : Room N m w := by
  refine fun j hj => ⟨⟨cur[j]'(by omega), ?_⟩, ?_⟩
  · rw [cell_of_row _ _ _ _ _ _ h]; exact Array.getElem?_eq_getElem _
  · simp only [World.frozen?, h]; simp

theorem Room.set {w : World} {N m : Nat} (h : Room N m w) (i : Nat) (v : Value) : Room N m (w.setCell ⟨N, i, none⟩ v) := by
  intro j hj
  refine ⟨?_, by rw [World.frozen?_setCell]; exact (h j hj).2⟩
  by_cases hji : j = i
  · subst hji
    obtain ⟨u, hu⟩ := (h j hj).1
    exact ⟨v, World.cell?_setCell_same' _ _ _ (by rw [hu]; rfl)⟩
  · rw [World.cell?_setCell_other _ _ _ _ (by simp)]
    exact (h j hj).1

theorem Room.drew {w : World} {N m : Nat} (h : Room N m w) : Room N m w.drew := h

/-- Three cells each. -/
def TypesAt (w : World) (a : Option Addr) (len : Nat) (f g h : Nat → Int) : Prop :=
  len = 0 ∨ ∃ b off, a = some ⟨b, off, none⟩ ∧ ∀ k, k < len → w.cell? ⟨b, off + k * 3, none⟩ = some (.int .i32 (f k)) ∧ w.cell? ⟨b, off + k * 3 + 1, none⟩ = some (.int .u8 (g k)) ∧ w.cell? ⟨b, off + k * 3 + 2, none⟩ = some (.int .u8 (h k))

def TypesMade (w : World) (len : Nat) (e : Ending) (w' : World) : Prop := ∃ a c, e = .returned (.slice a len c) ∧ Below w.heap.size w w'

set_option maxRecDepth 20000 in
set_option maxHeartbeats 1000000 in
theorem f31_any (a : Option Addr) (len cap : Nat) (f g h : Nat → Int) (hl : len ≤ 1048576) (ha : a = none → len = 0) (w : World) (ht : TypesAt w a len f g h) : Calls Tryf.prog 31 #[.slice a len cap] w (TypesMade w len) := by
  have hq := fun w => Lib.run_eql_slice_nil (P := Tryf.prog) w 41 90 a len cap 0 0 Tryf.underlying41
  cases a with
  | none =>
    obtain rfl := ha rfl
    clear ht
    go_enter Tryf.func31, Tryf.ntmps31
    go_wp2
    go_ret
    exact ⟨_, _, rfl, Below.refl _ _⟩
  | some a =>
    obtain ⟨i0, hi, hz0, hz1, hz2⟩ := info_parts Tryf.info91
    have HT := hide ht
    clear ht ha
    go_enter Tryf.func31, Tryf.ntmps31
    go_wp2_with (at_make; refine wpList_make_full _ rfl _ _ 48 rfl w.heap.size 91 i0 _ 3 Tryf.underlying48 hi hz0 hz1 _ _ _ _ len rfl rfl rfl rfl (by rw [hz2]; omega) (by unfold maxLen; omega) (Nat.le_refl _) ?_)
    intro w1 hown hgrow
    have hbw : Below w.heap.size w w1 := (Below.refl _ w).grown hgrow (Nat.le_refl _) (fun _ e => by cases e)
    obtain ⟨_, _, cur, hcur, _, hcs, _⟩ := row_of_owns hown
    have hroom : Room w.heap.size (len * 3) w1 := room_start hcur hcs
    clear hown hgrow hcur hcs hi hz0 hz1 hz2
    go_wp2
    go_loopw [4] (fun i wr => ∃ k : Nat, k ≤ len ∧ i = .int .i64 k ∧ Hid (Room w.heap.size (len * 3) wr ∧ Below w.heap.size w wr)) (fun i _ => len - (intOf i).toNat)
    case atStart => exact ⟨0, Nat.zero_le _, rfl, hroom, hbw⟩
    case round =>
      obtain ⟨k, hk, rfl, HA⟩ := hrel
      clear hroom hbw
      by_cases hlt : k < len
      · rcases unhide HT with rfl | ⟨b, off, hab, hc⟩
        · omega
        cases hab
        obtain ⟨e0, e1, e2⟩ := hc k hlt
        have hb := (unhide HA).2
        have c0 : wr.cell? ⟨b, off + k * 3, none⟩ = some (.int .i32 (f k)) := (hb.cell (p := ⟨b, off + k * 3, none⟩) (World.block_lt_of_cell? w _ e0)).trans e0
        have c1 : wr.cell? ⟨b, off + k * 3 + 1, none⟩ = some (.int .u8 (g k)) := (hb.cell (p := ⟨b, off + k * 3 + 1, none⟩) (World.block_lt_of_cell? w _ e1)).trans e1
        have c2 : wr.cell? ⟨b, off + k * 3 + 2, none⟩ = some (.int .u8 (h k)) := (hb.cell (p := ⟨b, off + k * 3 + 2, none⟩) (World.block_lt_of_cell? w _ e2)).trans e2
        obtain ⟨⟨x0, hx0⟩, fx0⟩ := (unhide HA).1 (k * 3) (by omega)
        obtain ⟨⟨x1, hx1⟩, fx1⟩ := (unhide HA).1 (k * 3 + 1) (by omega)
        obtain ⟨⟨x2, hx2⟩, fx2⟩ := (unhide HA).1 (k * 3 + 2) (by omega)
        clear hc HT hb e0 e1 e2
        go_wp2
        go_region
        all_goals
          go_wp2
          go_roundw
          case rel => exact ⟨k + 1, by omega, by go_num, (((unhide HA).1.set _ _).set _ _).set _ _, ((((unhide HA).2.setCell (p := ⟨w.heap.size, k * 3, none⟩) (Nat.le_refl _) _).setCell (p := ⟨w.heap.size, k * 3 + 1, none⟩) (Nat.le_refl _) _).setCell (p := ⟨w.heap.size, k * 3 + 2, none⟩) (Nat.le_refl _) _).drew⟩
          case measure => simp [intOf]; omega
      · obtain rfl : k = len := by omega
        clear HT
        go_wp2
        go_ret
        exact ⟨_, _, rfl, (unhide HA).2⟩

/-- The first k records were copied. -/
def Leapt (N k : Nat) (f g : Nat → Int) (w : World) : Prop := ∀ j, j < k → w.cell? ⟨N, j * 2, none⟩ = some (.int .i64 (f j)) ∧ w.cell? ⟨N, j * 2 + 1, none⟩ = some (.int .i32 (g j))

theorem Leapt.step {N n k : Nat} {f g : Nat → Int} {w : World} (h : Leapt N k f g w) (hr : Room N (n * 2) w) (hk : k < n) : Leapt N (k + 1) f g ((w.setCell ⟨N, k * 2, none⟩ (.int .i64 (f k))).setCell ⟨N, k * 2 + 1, none⟩ (.int .i32 (g k))) := by
  intro j hj
  by_cases hjk : j = k
  · subst hjk
    obtain ⟨u, hu⟩ := (hr (j * 2) (by omega)).1
    obtain ⟨u', hu'⟩ := ((hr.set (j * 2) (.int .i64 (f j))) (j * 2 + 1) (by omega)).1
    exact ⟨by rw [World.cell?_setCell_other _ _ _ _ (by simp)]; exact World.cell?_setCell_same' _ _ _ (by rw [hu]; rfl), World.cell?_setCell_same' _ _ _ (by rw [hu']; rfl)⟩
  · have same : ∀ i, i ≠ k * 2 → i ≠ k * 2 + 1 → ((w.setCell ⟨N, k * 2, none⟩ (.int .i64 (f k))).setCell ⟨N, k * 2 + 1, none⟩ (.int .i32 (g k))).cell? ⟨N, i, none⟩ = w.cell? ⟨N, i, none⟩ := fun i h1 h2 => by
      rw [World.cell?_setCell_other _ _ _ _ (by simp), World.cell?_setCell_other _ _ _ _ (by simp)]
    rw [same (j * 2) (by omega) (by omega), same (j * 2 + 1) (by omega) (by omega)]
    exact h j (by omega)

def LeapsMade (w : World) (len : Nat) (f g : Nat → Int) (e : Ending) (w' : World) : Prop := ∃ a c, e = .returned (.slice a len c) ∧ LeapsAt w' a len f g ∧ Below w.heap.size w w'

set_option maxRecDepth 20000 in
set_option maxHeartbeats 1000000 in
theorem f32_any (a : Option Addr) (len cap : Nat) (f g : Nat → Int) (hl : len ≤ 1048576) (ha : a = none → len = 0) (w : World) (ht : LeapsAt w a len f g) : Calls Tryf.prog 32 #[.slice a len cap] w (LeapsMade w len f g) := by
  have hq := fun w => Lib.run_eql_slice_nil (P := Tryf.prog) w 42 88 a len cap 0 0 Tryf.underlying42
  cases a with
  | none =>
    obtain rfl := ha rfl
    have hr := ht.2
    clear ht
    go_enter Tryf.func32, Tryf.ntmps32
    go_wp2
    go_ret
    exact ⟨_, _, rfl, ⟨.inl rfl, hr⟩, Below.refl _ _⟩
  | some a =>
    obtain ⟨i0, hi, hz0, hz1, hz2⟩ := info_parts Tryf.info92
    have HT := hide ht
    clear ht ha
    go_enter Tryf.func32, Tryf.ntmps32
    go_wp2_with (at_make; refine wpList_make_full _ rfl _ _ 49 rfl w.heap.size 92 i0 _ 2 Tryf.underlying49 hi hz0 hz1 _ _ _ _ len rfl rfl rfl rfl (by rw [hz2]; omega) (by unfold maxLen; omega) (Nat.le_refl _) ?_)
    intro w1 hown hgrow
    have hbw : Below w.heap.size w w1 := (Below.refl _ w).grown hgrow (Nat.le_refl _) (fun _ e => by cases e)
    obtain ⟨_, _, cur, hcur, _, hcs, _⟩ := row_of_owns hown
    have hroom : Room w.heap.size (len * 2) w1 := room_start hcur hcs
    clear hown hgrow hcur hcs hi hz0 hz1 hz2
    go_wp2
    go_loopw [4] (fun i wr => ∃ k : Nat, k ≤ len ∧ i = .int .i64 k ∧ Hid (Leapt w.heap.size k f g wr ∧ Room w.heap.size (len * 2) wr ∧ Below w.heap.size w wr)) (fun i _ => len - (intOf i).toNat)
    case atStart => exact ⟨0, Nat.zero_le _, rfl, fun j hj => by omega, hroom, hbw⟩
    case round =>
      obtain ⟨k, hk, rfl, HA⟩ := hrel
      clear hroom hbw
      by_cases hlt : k < len
      · rcases (unhide HT).1 with rfl | ⟨b, off, hab, hc⟩
        · omega
        cases hab
        obtain ⟨e0, e1⟩ := hc k hlt
        have hb := (unhide HA).2.2
        have c0 : wr.cell? ⟨b, off + k * 2, none⟩ = some (.int .i64 (f k)) := (hb.cell (p := ⟨b, off + k * 2, none⟩) (World.block_lt_of_cell? w _ e0)).trans e0
        have c1 : wr.cell? ⟨b, off + k * 2 + 1, none⟩ = some (.int .i32 (g k)) := (hb.cell (p := ⟨b, off + k * 2 + 1, none⟩) (World.block_lt_of_cell? w _ e1)).trans e1
        obtain ⟨⟨x0, hx0⟩, fx0⟩ := (unhide HA).2.1 (k * 2) (by omega)
        obtain ⟨⟨x1, hx1⟩, fx1⟩ := (unhide HA).2.1 (k * 2 + 1) (by omega)
        clear hc HT hb e0 e1
        go_wp2
        go_region
        all_goals
          go_wp2
          go_roundw
          case rel => exact ⟨k + 1, by omega, by go_num, (unhide HA).1.step (unhide HA).2.1 hlt, ((unhide HA).2.1.set _ _).set _ _, (((unhide HA).2.2.setCell (p := ⟨w.heap.size, k * 2, none⟩) (Nat.le_refl _) _).setCell (p := ⟨w.heap.size, k * 2 + 1, none⟩) (Nat.le_refl _) _).drew⟩
          case measure => simp [intOf]; omega
      · obtain rfl : k = len := by omega
        have HR := hide (unhide HT).2
        clear HT
        go_wp2
        go_ret
        refine ⟨_, _, rfl, ⟨.inr ⟨w.heap.size, 0, rfl, fun j hj => ?_⟩, unhide HR⟩, (unhide HA).2.2⟩
        rw [Nat.zero_add]
        exact (unhide HA).1 j hj
end Go.Proofs.Qxb6613638aFmt
