/-
  The walk of Origin.Variable.
-/
import Derived.Test.Qxb6605991aE
import Derived.Test.Qxb6605991aShelf
import Derived.WalkSmall
namespace Go.Proofs.Qxb6605991a
open Go.RowKit

/-- What the file says of a key, given what lies at its table: hidden or not. -/
def Says (w : World) (key : ByteArray) (o : Option Value) (b : Bool) : Prop :=
  (o = none ∧ b = false) ∨ (∃ (mb : Nat) (M : ByteArray → Option Value), MapAt Value.string w mb M ∧ o = some (.iface 35 (.map (some mb))) ∧ b = (M key).isSome) ∨ ∃ (a : Option Addr) (l c : Nat), o = some (.iface 43 (.slice a l c)) ∧ b = true
theorem Says.silent {w : World} {key : ByteArray} : Says w key none false := .inl ⟨rfl, rfl⟩
theorem Says.table {w : World} {key : ByteArray} (mb : Nat) (M : ByteArray → Option Value) (h : MapAt Value.string w mb M) : Says w key (some (.iface 35 (.map (some mb)))) (M key).isSome := .inr (.inl ⟨mb, M, h, rfl, rfl⟩)
theorem Says.array {w : World} {key : ByteArray} (a : Option Addr) (l c : Nat) : Says w key (some (.iface 43 (.slice a l c))) true := .inr (.inr ⟨a, l, c, rfl, rfl⟩)

/-- It handed back the variable and whether it was found; old memory stands. -/
def VarDone (w : World) (x : Option ByteArray) (e : Ending) (w' : World) : Prop :=
  e = .returned (.tuple #[.string (x.getD ByteArray.empty), .bool x.isSome]) ∧ Below w.heap.size w w'

theorem MapAt.below {K : Type} [DecidableEq K] {ky : K → Value} {w w' : World} {b : Nat} {L : K → Option Value} (h : MapAt ky w b L) {B : Nat} (hb : Below B w w') (hB : b < B) : MapAt ky w' b L := h.of_block (hb.block b hB)

theorem Try.info35 : (Try.prog.info? 35).map (fun i => (i.zero, i.size, i.bytes)) = some (some (.map none), 1, 8) := by kernel_rfl
theorem assert_hit (v : Value) (w : World) : (Instr.typeAssert (.iface 35 v) 20 35 true).run Try.prog w = .ok (.tuple #[v, .bool true]) w := by
  simp [Instr.typeAssert, run_underlying Try.underlying35]
theorem assert_miss (v : Value) (w : World) : (Instr.typeAssert (.iface 43 v) 20 35 true).run Try.prog w = .ok (.tuple #[.map none, .bool false]) w := by
  obtain ⟨i, hi, hz, _, _⟩ := info_parts Try.info35
  have hzv : (zeroValue 35).run Try.prog w = .ok (.map none) w := by simp [zeroValue, typeInfo, hi, hz]
  simp [Instr.typeAssert, run_underlying Try.underlying35, hzv]

set_option maxHeartbeats 400000 in
theorem f13_any (path : ByteArray) (fb vb : Nat) (name : ByteArray) (place : Int) (hs : name.size ≤ 1048576) (L : ByteArray → Option Value) (V : ByteArray × Int → Option ByteArray) (hidden : Bool) (m : Int) (w : World)
    (hm : w.cell? ⟨0, 0, none⟩ = some (.int .i64 m)) (hL : MapAt Value.string w fb L) (hV : MapAt kref w vb fun q => (V q).map Value.string) (hsay : Says w (keyOf' name) (L (tableOf name)) hidden) :
    Calls Try.prog 13 #[.agg #[.string path, .map (some fb), .map (some vb)], .string name, .int .i64 place] w (VarDone w (if hidden then none else V (name, place))) := by
  obtain ⟨W0, hW0⟩ : ∃ W, w.alloc (.cells #[.string path, .map (some fb), .map (some vb)] 38) = W := ⟨_, rfl⟩
  have hb0 : Below w.heap.size w W0 := by rw [← hW0]; exact (Below.refl _ w).alloc (Nat.le_refl _) _
  have hcell : ∀ (k : Nat), W0.cell? ⟨w.heap.size, k, none⟩ = (#[.string path, .map (some fb), .map (some vb)] : Array Value)[k]? := fun k => by
    rw [← hW0]; exact cell_of_row _ _ _ _ _ _ (heap_alloc_new w _)
  obtain ⟨found, hfd⟩ : ∃ f, (Lib.cut name.data.toList dot.data.toList).2.2 = f := ⟨_, rfl⟩
  have hcut : Calls Try.prog 16 #[.string name, .string { data := #[46] }] W0 fun e w' => e = .returned (.tuple #[.string (tableOf name), .string (keyOf' name), .bool found]) ∧ ∃ n, w' = W0.drewN n := by
    rw [← hfd]
    exact Try.strings_Cut name dot m W0 (by omega) ((hb0.cell (World.block_lt_of_cell? w _ hm)).trans hm)
  have HCUT := hide hcut
  obtain ⟨i20, hi20, hz20, _, _⟩ := info_parts Try.info20
  obtain ⟨i9, hi9, hz9, _, _⟩ := info_parts Try.info9
  have hbd : ∀ n, Below w.heap.size w (W0.drewN n) := fun n => below_drewN hb0 n
  have HLK : Hid (∀ n, (Instr.lookup 35 (.map (some fb)) (.string (tableOf name)) false).run Try.prog (W0.drewN n) = .ok ((L (tableOf name)).getD .nilIface) (W0.drewN n)) := fun n =>
    (hL.below (hbd n) hL.lt).look (keyOk_string Try.underlying9) Try.underlying35 hi20 hz20 (tableOf name) false
  have hv0 : ∀ n, (Instr.lookup 36 (.map (some vb)) (.agg #[.string name, .int .i64 place, .string ByteArray.empty]) true).run Try.prog (W0.drewN n) = .ok (.tuple #[.string ((V (name, place)).getD ByteArray.empty), .bool (V (name, place)).isSome]) (W0.drewN n) := fun n => by
    have := (hV.below (hbd n) hV.lt).look keyOk_kref Try.underlying36 hi9 hz9 (name, place) true
    cases hv : V (name, place) <;> simpa [hv, kref] using this
  have HVK : Hid (∀ n, (Instr.lookup 36 (.map (some vb)) (.agg #[.string name, .int .i64 place, .string { data := #[] }]) true).run Try.prog (W0.drewN n) = .ok (.tuple #[.string ((V (name, place)).getD ByteArray.empty), .bool (V (name, place)).isSome]) (W0.drewN n)) := fun n => hv0 n
  have HBD := hide hbd
  have hc1 := hcell 1
  have hc2 := hcell 2
  simp only [List.getElem?_toArray] at hc1 hc2
  have HC1 : Hid (∀ n, (W0.drewN n).cell? ⟨w.heap.size, 1, none⟩ = some (.map (some fb))) := fun n => hc1
  have HC2 : Hid (∀ n, (W0.drewN n).cell? ⟨w.heap.size, 2, none⟩ = some (.map (some vb))) := fun n => hc2
  clear hv0 hcut hL hV hm hcell hb0 hi9 hz9 hbd hc1 hc2 hfd
  generalize hx : L (tableOf name) = x at hsay HLK
  clear hx
  rcases hsay with ⟨rfl, rfl⟩ | ⟨mb, M, hM, rfl, rfl⟩ | ⟨a, l, c, rfl, rfl⟩
  · go_enter Try.func13, Try.ntmps13
    go_wp2_with (go_at_call 16; refine (unhide HCUT).mono ?_; rintro e w' ⟨rfl, n, rfl⟩; have hlk := unhide HLK n; have hvk := unhide HVK n; have hc1 := unhide HC1 n; have hc2 := unhide HC2 n; have hbn := hide (unhide HBD n); generalize W0.drewN n = W at *)
    go_ret2
    exact ⟨rfl, unhide hbn⟩
  · have HMK : Hid (∀ n, (Instr.lookup 35 (.map (some mb)) (.string (keyOf' name)) true).run Try.prog (W0.drewN n) = .ok (.tuple #[(M (keyOf' name)).getD .nilIface, .bool (M (keyOf' name)).isSome]) (W0.drewN n)) := fun n =>
      (hM.below (unhide HBD n) hM.lt).look (keyOk_string Try.underlying9) Try.underlying35 hi20 hz20 (keyOf' name) true
    have hah := assert_hit (.map (some mb))
    clear hM hi20 hz20
    generalize M (keyOf' name) = y at *
    cases y with
    | some y =>
      go_enter Try.func13, Try.ntmps13
      go_wp2_with (go_at_call 16; refine (unhide HCUT).mono ?_; rintro e w' ⟨rfl, n, rfl⟩; have hlk := unhide HLK n; have hvk := unhide HVK n; have hc1 := unhide HC1 n; have hc2 := unhide HC2 n; have hbn := hide (unhide HBD n); have hmk := unhide HMK n; generalize W0.drewN n = W at *)
      go_ret2
      exact ⟨rfl, unhide hbn⟩
    | none =>
      go_enter Try.func13, Try.ntmps13
      go_wp2_with (go_at_call 16; refine (unhide HCUT).mono ?_; rintro e w' ⟨rfl, n, rfl⟩; have hlk := unhide HLK n; have hvk := unhide HVK n; have hc1 := unhide HC1 n; have hc2 := unhide HC2 n; have hbn := hide (unhide HBD n); have hmk := unhide HMK n; generalize W0.drewN n = W at *)
      go_ret2
      exact ⟨rfl, unhide hbn⟩
  · have ham := assert_miss (.slice a l c)
    go_enter Try.func13, Try.ntmps13
    go_wp2_with (go_at_call 16; refine (unhide HCUT).mono ?_; rintro e w' ⟨rfl, n, rfl⟩; have hlk := unhide HLK n; have hvk := unhide HVK n; have hc1 := unhide HC1 n; have hc2 := unhide HC2 n; have hbn := hide (unhide HBD n); generalize W0.drewN n = W at *)
    go_ret2
    exact ⟨rfl, unhide hbn⟩
end Go.Proofs.Qxb6605991a
