/-
  The walk of zzKeyItems.
-/
import Derived.Test.Qxb6605951aDoorD
namespace Go.Proofs.Qxb6605951aDoor
open Go.RowKit

theorem Tryd.info27 : (Tryd.prog.info? 27).map (fun i => (i.zero, i.size, i.bytes)) = some (some (.slice none 0 0), 1, 24) := by kernel_rfl

/-- For each of the first k strings its encoding and the two signs of an empty string. -/
def KeyItems (f : Nat → ByteArray) : Nat → List (List Int) → Prop
  | 0, ls => ls = []
  | k + 1, ls => ∃ ls' l, ls = ls' ++ [l, [48, 58]] ∧ KeyItems f k ls' ∧ EncOf (f k) l

/-- Each value of the list owns its bytes, from block B on. -/
def ItemsAt (w : World) (B : Nat) (vs : List Value) (ls : List (List Int)) : Prop :=
  vs.length = ls.length ∧ ∀ j, j < vs.length → Own8 w B (vs[j]?.getD undef) (ls[j]?.getD [])

theorem below_grownBy {w w' : World} (h : Below w.heap.size w w') (row : Option Nat) : w.grownBy w' row := ⟨h.os, h.tape, h.output, h.size, fun k hk _ => h.block k hk⟩

theorem ItemsAt.kept {w w' : World} {B : Nat} {vs : List Value} {ls : List (List Int)} (h : ItemsAt w B vs ls) {row : Option Nat} (hg : w.grownBy w' row) (hr : ∀ r, row = some r → r < B) : ItemsAt w' B vs ls :=
  ⟨h.1, fun j hj => (h.2 j hj).kept hg (by
    cases hv : (vs[j]?.getD undef).ownBlock with
    | none => exact .inl rfl
    | some b =>
      refine .inr fun e => ?_
      have h1 := ((h.2 j hj).lt b hv).1
      have h2 := hr b e.symm
      omega)⟩

theorem ItemsAt.snoc {w : World} {B : Nat} {vs : List Value} {ls : List (List Int)} (h : ItemsAt w B vs ls) {v : Value} {l : List Int} (hv : Own8 w B v l) : ItemsAt w B (vs ++ [v]) (ls ++ [l]) := by
  refine ⟨by simp [h.1], fun j hj => ?_⟩
  simp at hj
  by_cases hj2 : j < vs.length
  · rw [List.getElem?_append_left hj2, List.getElem?_append_left (by rw [← h.1]; exact hj2)]
    exact h.2 j hj2
  · obtain rfl : j = vs.length := by omega
    rw [List.getElem?_concat_length, h.1, List.getElem?_concat_length]
    exact hv

theorem Own8.base {w : World} {B B' : Nat} {v : Value} {l : List Int} (h : Own8 w B v l) (hB : B' ≤ B) : Own8 w B' v l := by
  refine ⟨h.1, ?_⟩
  rcases h.2 with h2 | ⟨g, cap, cur, h1, h2, r⟩
  · exact .inl h2
  · exact .inr ⟨g, cap, cur, h1, by omega, r⟩

theorem Own8.form {w : World} {B : Nat} {v : Value} {l : List Int} (h : Own8 w B v l) (hl : 0 < l.length) : ∃ g cap, v = .slice (some ⟨g, 0, none⟩) l.length cap := by
  rcases h.2 with ⟨_, h2⟩ | ⟨g, cap, cur, h1, h2, r⟩
  · omega
  · exact ⟨g, cap, h1⟩
theorem EncOf.pos {s : ByteArray} {l : List Int} (h : EncOf s l) : 0 < l.length := by
  obtain ⟨ds, rfl, h1, _⟩ := h
  simp; omega

/-- Two bytes laid in a new block. -/
theorem own8_two (w : World) (B : Nat) (hB : B ≤ w.heap.size) : Own8 (w.alloc (.cells #[.int .u8 48, .int .u8 58] 5)) B (.slice (some ⟨w.heap.size, 0, none⟩) 2 2) [48, 58] :=
  ⟨rfl, .inr ⟨w.heap.size, 2, _, rfl, hB, heap_alloc_new w _, Nat.le_refl _, by decide, rfl, rfl⟩⟩

def KeyItemsDone (w : World) (len : Nat) (f : Nat → ByteArray) (e : Ending) (w' : World) : Prop :=
  ∃ G cap vs ls, e = .returned (.slice (some ⟨G, 0, none⟩) (2 * len) cap) ∧ w'.ownsRow w.heap.size 27 1 (.slice (some ⟨G, 0, none⟩) (2 * len) cap) (2 * len) vs ∧ ItemsAt w' w.heap.size vs ls ∧ KeyItems f len ls ∧ Below w.heap.size w w'

set_option maxHeartbeats 400000 in
theorem f8_any (a : Option Addr) (len cap : Nat) (f : Nat → ByteArray) (w : World) (h : StrsAt w a len f) (hl : len ≤ 65537) (hs : ∀ k, k < len → (f k).size ≤ 1048576) :
    Calls Tryd.prog 8 #[.slice a len cap] w (KeyItemsDone w len f) := by
  obtain ⟨i0, hi, hz0, hz1, hz2⟩ := info_parts Tryd.info27
  go_enter Tryd.func8, Tryd.ntmps8
  go_wp2_with (at_make; refine wpList_make_own _ rfl _ _ 34 rfl w.heap.size 27 i0 _ 1 Tryd.underlying34 hi hz0 hz1 _ _ _ (2 * len) rfl rfl (by omega) (by rw [hz2]; omega) (by unfold maxLen; omega) (Nat.le_refl _) ?_)
  intro w1 hown hgrow
  have hb1 : Below w.heap.size w w1 := (Below.refl _ w).grown hgrow (Nat.le_refl _) (fun k e => by cases e)
  have hlt1 : w.heap.size < w1.heap.size := (hown.lt _ rfl).2
  clear hgrow
  go_wp2
  go_loopw [3, 4] (fun v i wr => ∃ (k : Nat) (vs : List Value) (ls : List (List Int)), k ≤ len ∧ i = .int .i64 k ∧ v = .slice (some ⟨w.heap.size, 0, none⟩) (2 * k) (2 * len) ∧
      wr.ownsRow w.heap.size 27 1 (.slice (some ⟨w.heap.size, 0, none⟩) (2 * k) (2 * len)) (2 * k) vs ∧ ItemsAt wr (w.heap.size + 1) vs ls ∧ KeyItems f k ls ∧ Below w.heap.size w wr ∧ w.heap.size < wr.heap.size) (fun _ i _ => len - (intOf i).toNat)
  case atStart => exact ⟨0, [], [], Nat.zero_le _, rfl, rfl, hown, ⟨rfl, fun j hj => by simp at hj⟩, rfl, hb1, hlt1⟩
  case round =>
    obtain ⟨k, vs, ls, hk, rfl, rfl, hownr, hit, hki, hbr, hltr⟩ := hrel
    clear hown hb1 hlt1
    by_cases hlt : k < len
    · rcases h with rfl | ⟨b, off, rfl, hc⟩
      · omega
      have hck : wr.cell? ⟨b, off + k, none⟩ = some (.string (f k)) := (hbr.cell (World.block_lt_of_cell? w _ (hc k hlt))).trans (hc k hlt)
      have hsk := hs k hlt
      clear hc hs
      go_wp2_with (go_at_call 13; refine (f13_any (f k) hsk wr).mono ?_)
      rintro e w2 ⟨v, l, rfl, hv, hl2, hb2⟩
      obtain ⟨gv, capv, hvv⟩ := hv.form hl2.pos
      obtain ⟨n, hn⟩ : ∃ n, n = l.length := ⟨_, rfl⟩
      rw [← hn] at hvv
      subst hvv
      clear hn
      have hown2 := hownr.kept (below_grownBy hb2 none) (by simp [Value.ownBlock])
      have hit2 := (hit.kept (below_grownBy hb2 none) (fun _ e => by cases e)).snoc (hv.base (B' := w.heap.size + 1) (by omega))
      have hbw2 : Below w.heap.size w w2 := hbr.trans (hb2.mono hbr.size)
      have hsz2 : w.heap.size < w2.heap.size := by have := hb2.size; omega
      clear hownr hit hbr hltr hb2 hck hv
      go_wp2_with (at_builtin; refine wpList_append_fits _ rfl _ _ 34 rfl w.heap.size 27 i0 1 Tryd.underlying34 hi hz1 _ (2 * k) (2 * len) _ rfl (hown2.alloc _) ⟨w2.heap.size, 0, none⟩ 1 1 [.slice (some ⟨gv, 0, none⟩) n capv] rfl rfl (cell_one_new _ _ _) ?h1 (by omega) ?_)
      case h1 =>
        intro u hu
        simp at hu; subst hu
        rfl
      intro w3 hown3 hg3
      have hit3 := (hit2.kept (World.grownBy_alloc w2 (.cells #[.slice (some ⟨gv, 0, none⟩) n capv] 27) none) (fun _ e => by cases e)).kept hg3 (fun _ e => by cases e; omega)
      have hbw3 : Below w.heap.size w w3 := (hbw2.alloc (by omega) _).grown hg3 (by simp; omega) (fun _ e => by cases e; omega)
      have hsz3 : w.heap.size < w3.heap.size := by have := hg3.size; simp at this; omega
      clear hown2 hit2 hg3 hbw2 hsz2
      have hnn := own8_two w3 (w.heap.size + 1) (by omega)
      have hit4 := (hit3.kept (World.grownBy_alloc w3 (.cells #[.int .u8 48, .int .u8 58] 5) none) (fun _ e => by cases e)).snoc hnn
      have hown4 := (hown3.alloc (.cells #[.int .u8 48, .int .u8 58] 5)).alloc (.cells #[.slice (some ⟨w3.heap.size, 0, none⟩) 2 2] 27)
      clear hnn
      go_wp2_with (at_builtin; refine wpList_append_fits _ rfl _ _ 34 rfl w.heap.size 27 i0 1 Tryd.underlying34 hi hz1 _ (2 * k + 1) (2 * len) _ rfl hown4 ⟨w3.heap.size + 1, 0, none⟩ 1 1 [.slice (some ⟨w3.heap.size, 0, none⟩) 2 2] rfl rfl ?h2 (by simp [Value.oneCell']) (by omega) ?_)
      case h2 => simpa using cell_one_new (w3.alloc (.cells #[.int .u8 48, .int .u8 58] 5)) (.slice (some ⟨w3.heap.size, 0, none⟩) 2 2) 27
      intro w4 hown5 hg4
      have hit5 := (hit4.kept (World.grownBy_alloc _ (.cells #[.slice (some ⟨w3.heap.size, 0, none⟩) 2 2] 27) none) (fun _ e => by cases e)).kept hg4 (fun _ e => by cases e; omega)
      have hbw4 : Below w.heap.size w w4 := ((hbw3.alloc (by omega) _).alloc (by simp; omega) _).grown hg4 (by simp; omega) (fun _ e => by cases e; omega)
      have hsz4 : w.heap.size < w4.heap.size := by have := hg4.size; simp at this; omega
      clear hown3 hit3 hown4 hit4 hg4 hbw3 hsz3
      go_wp2
      go_roundw
      case rel => exact ⟨k + 1, _, _, by omega, by go_num, by go_num, by simpa [Nat.mul_add] using hown5, hit5, ⟨ls, l, by simp, hki, hl2⟩, hbw4, hsz4⟩
      case measure => simp [intOf]; omega
    · obtain rfl : k = len := by omega
      clear h hs
      go_wp2
      go_ret
      exact ⟨_, _, vs, ls, rfl, hownr, ⟨hit.1, fun j hj => (hit.2 j hj).base (by omega)⟩, hki, hbr⟩
end Go.Proofs.Qxb6605951aDoor
