/-
  The walks of Entries and of ascending, over whatever iterator.
-/
import Derived.Test.Qxb6605951aDoorJ
import Derived.Test.Qxb6605951aDoorK
import Derived.RangeFuncCalls
import Derived.Shelf.Abstract
import Derived.OwnWalkIn
import Derived.TacticsInMore
import Derived.LoopNIn
import Derived.LoopIn
namespace Go.Proofs.Qxb6605951aDoor
open Go.RowKit Go.Shelf
attribute [local go_sem] Oper.semAt_some

/-- One entry that is handed to the loop's body: the key's slice (its address, its spare, its bytes), the value. -/
structure Ent where
  a : Addr
  c : Nat
  l : List Int
  v : Value

def Ent.args (x : Ent) : Array Value := #[.slice (some x.a) x.l.length x.c, x.v]

/-- Strictly ascending, as bytes.Compare has it. -/
def Asc : List (List Int) → Prop
  | [] => True
  | [_] => True
  | a :: b :: r => Lib.compareBytes (Lib.bytesOf a) (Lib.bytesOf b) < 0 ∧ Asc (b :: r)

theorem f17_any (k : Int) (vr vn : Value) (h1 : ∃ a n c, vr = .slice a n c) (h2 : ∃ a n c, vn = .slice a n c) (w : World) :
    Calls Tryd.prog 17 #[.agg #[.int .u8 k, vr, vn, .nilIface]] w fun e w' => e = .returned (.func (.func 20) #[] #[.pointer (some ⟨w.heap.size, 0, none⟩)]) ∧ w' = w.alloc (.cells #[.int .u8 k, vr, vn, .nilIface] 32) := by
  obtain ⟨a1, n1, c1, rfl⟩ := h1
  obtain ⟨a2, n2, c2, rfl⟩ := h2
  go_enter Tryd.func17, Tryd.ntmps17
  go_wp2
  go_ret
  exact ⟨rfl, rfl⟩

/-- The answer of ascending: what was handed to it, and whether that is ascending. -/
def AscDone (w : World) (S Sp : List Ent → Prop) (e : Ending) (W' : World) : Prop :=
  ((e = .returned (.bool true) ∧ ∃ xs, S xs ∧ Asc (xs.map (·.l))) ∨ (e = .returned (.bool false) ∧ ∃ pre, Sp pre ∧ ¬ Asc (pre.map (·.l)))) ∧ Below w.heap.size w W'

/-- The world in which ascending begins to range. -/
def ascWorld (w : World) (k : Int) (vr vn : Value) : World :=
  ((((w.alloc (.cells #[.int .u8 k, vr, vn, .nilIface] 32)).alloc (.cells #[.bool false] 4)).alloc (.cells #[.slice none 0 0] 27)).alloc (.cells #[.bool true] 4)).alloc (.cells #[.int .u8 k, vr, vn, .nilIface] 32)

theorem hide {p : Prop} (h : p) : Hid p := h
theorem unhide {p : Prop} (h : Hid p) : p := h

theorem asc_snoc : ∀ (l : List (List Int)) (a b : List Int), Asc (l ++ [a, b]) ↔ Asc (l ++ [a]) ∧ Lib.compareBytes (Lib.bytesOf a) (Lib.bytesOf b) < 0
  | [], a, b => by simp [Asc]
  | [x], a, b => by simp [Asc]
  | x :: y :: r, a, b => by
    have ih := asc_snoc (y :: r) a b
    simp only [List.cons_append, Asc] at ih ⊢
    rw [ih]
    exact and_assoc.symm

/-- What holds between two rounds: R: the result, Pv: prev, Fi: first. -/
def AscI (w : World) (R Pv Fi : Nat) (pre : List Ent) (W : World) : Prop :=
  W.cell? ⟨R, 0, none⟩ = some (.bool false) ∧ W.frozen? ⟨R, 0, none⟩ = false ∧ W.frozen? ⟨Pv, 0, none⟩ = false ∧ W.frozen? ⟨Fi, 0, none⟩ = false ∧
  W.cell? ⟨Fi, 0, none⟩ = some (.bool pre.isEmpty) ∧ (∃ a n c, W.cell? ⟨Pv, 0, none⟩ = some (.slice a n c) ∧ ∀ q x, pre = q ++ [x] → a = some x.a ∧ n = x.l.length ∧ c = x.c ∧ BytesAt w x.a x.l) ∧
  Asc (pre.map (·.l)) ∧ Below w.heap.size w W

/-- A round has returned. -/
def AscX (w : World) (R : Nat) (c : Code) (pre : List Ent) (W : World) : Prop :=
  c = .ret ∧ W.cell? ⟨R, 0, none⟩ = some (.bool false) ∧ ¬ Asc (pre.map (·.l)) ∧ Below w.heap.size w W

theorem AscI.abides (w : World) (R Pv Fi B : Nat) (hR : R < B) (hP : Pv < B) (hF : Fi < B) (hw : w.heap.size ≤ B) : AbidesBelow B (AscI w R Pv Fi) := fun pre A A' h hb => by
  obtain ⟨h1, h2, h3, h4, h5, ⟨a, n, c, h6, h7⟩, h8, h9⟩ := h
  exact ⟨(hb.cell (p := ⟨R, 0, none⟩) hR).trans h1, (hb.frozen (p := ⟨R, 0, none⟩) hR).trans h2, (hb.frozen (p := ⟨Pv, 0, none⟩) hP).trans h3, (hb.frozen (p := ⟨Fi, 0, none⟩) hF).trans h4,
    (hb.cell (p := ⟨Fi, 0, none⟩) hF).trans h5, ⟨a, n, c, (hb.cell (p := ⟨Pv, 0, none⟩) hP).trans h6, h7⟩, h8, h9.trans (hb.mono hw)⟩

theorem AscX.abides (w : World) (R B : Nat) (hR : R < B) (hw : w.heap.size ≤ B) (c : Code) : AbidesBelow B (AscX w R c) := fun pre A A' h hb => by
  obtain ⟨h1, h2, h3, h4⟩ := h
  exact ⟨h1, (hb.cell (p := ⟨R, 0, none⟩) hR).trans h2, h3, h4.trans (hb.mono hw)⟩

theorem BytesAt.later {w W : World} {a : Addr} {l : List Int} (h : BytesAt w a l) (hb : Below w.heap.size w W) : BytesAt W a l := fun j x hx => (hb.cell (World.block_lt_of_cell? w _ (h j x hx))).trans (h j x hx)

/-- The facts of the world in which ascending begins to range. -/
theorem asc_start (w : World) (k : Int) (vr vn : Value) : AscI w (w.heap.size + 1) (w.heap.size + 1 + 1) (w.heap.size + 1 + 1 + 1) [] (ascWorld w k vr vn) ∧ (ascWorld w k vr vn).heap.size = w.heap.size + 5 := by
  have hb : Below w.heap.size w (ascWorld w k vr vn) := (((((Below.refl _ w).alloc (Nat.le_refl _) _).alloc (by simp) _).alloc (by simp; omega) _).alloc (by simp; omega) _).alloc (by simp; omega) _
  have e1 : (ascWorld w k vr vn).heap[w.heap.size + 1]? = some (.cells #[.bool false] 4 (0, 0)) := by
    refine (Below.heap_alloc _ _ _ (by simp)).trans ((Below.heap_alloc _ _ _ (by simp)).trans ((Below.heap_alloc _ _ _ (by simp)).trans ?_))
    simpa using heap_alloc_new (w.alloc (.cells #[.int .u8 k, vr, vn, .nilIface] 32)) (.cells #[.bool false] 4)
  have e2 : (ascWorld w k vr vn).heap[w.heap.size + 1 + 1]? = some (.cells #[.slice none 0 0] 27 (0, 0)) := by
    refine (Below.heap_alloc _ _ _ (by simp)).trans ((Below.heap_alloc _ _ _ (by simp)).trans ?_)
    simpa using heap_alloc_new ((w.alloc (.cells #[.int .u8 k, vr, vn, .nilIface] 32)).alloc (.cells #[.bool false] 4)) (.cells #[.slice none 0 0] 27)
  have e3 : (ascWorld w k vr vn).heap[w.heap.size + 1 + 1 + 1]? = some (.cells #[.bool true] 4 (0, 0)) := by
    refine (Below.heap_alloc _ _ _ (by simp)).trans ?_
    simpa using heap_alloc_new (((w.alloc (.cells #[.int .u8 k, vr, vn, .nilIface] 32)).alloc (.cells #[.bool false] 4)).alloc (.cells #[.slice none 0 0] 27)) (.cells #[.bool true] 4)
  refine ⟨⟨(cell_of_row _ _ _ _ _ _ e1).trans rfl, ?_, ?_, ?_, (cell_of_row _ _ _ _ _ _ e3).trans rfl, ⟨none, 0, 0, (cell_of_row _ _ _ _ _ _ e2).trans rfl, fun q x hq => by simp at hq⟩, trivial, hb⟩, by simp [ascWorld]⟩
  · simp only [World.frozen?, e1]; simp
  · simp only [World.frozen?, e2]; simp
  · simp only [World.frozen?, e3]; simp

set_option maxHeartbeats 1000000 in
theorem f14_of (k : Int) (vr vn : Value) (h1 : ∃ a n c, vr = .slice a n c) (h2 : ∃ a n c, vn = .slice a n c) (S Sp : List Ent → Prop) (w : World)
    (hseq : SeqC Fence.wide 4 Tryd.prog 20 #[.pointer (some ⟨w.heap.size + 1 + 1 + 1 + 1, 0, none⟩)] Ent.args (fun x => BytesAt w x.a x.l) w.heap.size S Sp (ascWorld w k vr vn)) :
    Calls Tryd.prog 14 #[.agg #[.int .u8 k, vr, vn, .nilIface]] w (AscDone w S Sp) := by
  obtain ⟨hI0, hsz0⟩ := asc_start w k vr vn
  obtain ⟨a1, n1, c1, rfl⟩ := h1
  obtain ⟨a2, n2, c2, rfl⟩ := h2
  refine (callsIn_wide (n := 5)).1 ?_
  refine callsIn_of_wp_marks Tryd.func14 rfl trivial ?_ rfl
  simp only [Tryd.ntmps14, List.size_toArray, List.length_cons, List.length_nil, Nat.reduceAdd, Nat.reduceSub, Array.replicate_succ, Array.replicate_zero, List.push_toArray, List.append_toArray, List.nil_append, List.cons_append]
  have HS : Hid (SeqC Fence.wide 4 Tryd.prog 20 #[.pointer (some ⟨w.heap.size + 1 + 1 + 1 + 1, 0, none⟩)] Ent.args (fun x => BytesAt w x.a x.l) w.heap.size S Sp (ascWorld w k (.slice a1 n1 c1) (.slice a2 n2 c2))) := hseq
  have HI0 : Hid (AscI w (w.heap.size + 1) (w.heap.size + 1 + 1) (w.heap.size + 1 + 1 + 1) [] (ascWorld w k (.slice a1 n1 c1) (.slice a2 n2 c2))) := hI0
  clear hseq hI0
  gi_wp2_with (refine ⟨trivial, ?_⟩; gi_at_call 17; refine (callsIn_wide.2 (f17_any _ _ _ ⟨_, _, _, rfl⟩ ⟨_, _, _, rfl⟩ _)).mono ?_; rintro e w' ⟨rfl, rfl⟩)
  obtain ⟨W0, hW0⟩ : ∃ W0, ((((((w.alloc (.cells #[.int .u8 k, .slice a1 n1 c1, .slice a2 n2 c2, .nilIface] 32)).alloc (.cells #[.bool false] 4)).alloc (.cells #[.slice none 0 0] 27)).alloc (.cells #[.bool true] 4)).alloc (.cells #[.int .u8 k, .slice a1 n1 c1, .slice a2 n2 c2, .nilIface] 32))) = W0 := ⟨_, rfl⟩
  have hW0' : ascWorld w k (.slice a1 n1 c1) (.slice a2 n2 c2) = W0 := hW0
  rw [hW0]
  rw [hW0'] at HS HI0 hsz0
  clear hW0 hW0'
  have HZ : Hid (W0.heap.size = w.heap.size + 5) := hsz0
  have hz1 : w.heap.size + 5 ≤ W0.heap.size := by omega
  clear hsz0
  refine wpIn_rangeFunc_c rfl (by omega) (gf := 20) (lb := #[.pointer (some ⟨w.heap.size + 1 + 1 + 1 + 1, 0, none⟩)]) rfl trivial (enters_of Tryd.func20 (by kernel_rfl) rfl) (n1 := w.heap.size) (by omega) HS.out (fun _ => rfl)
    (AscI w (w.heap.size + 1) (w.heap.size + 1 + 1) (w.heap.size + 1 + 1 + 1)) (AscX w (w.heap.size + 1)) (AscI.abides _ _ _ _ _ (by omega) (by omega) (by omega) (by omega)) (fun c => AscX.abides _ _ _ (by omega) (by omega) c) HI0.out
    (fun x => { tmps := #[.agg #[.int .u8 k, .slice a1 n1 c1, .slice a2 n2 c2, .nilIface], .pointer (some ⟨w.heap.size, 0, none⟩), .pointer (some ⟨w.heap.size + 1, 0, none⟩), .pointer (some ⟨w.heap.size + 1 + 1, 0, none⟩), .pointer (some ⟨w.heap.size + 1 + 1 + 1, 0, none⟩), .slice (some x.a) x.l.length x.c, .agg #[.int .u8 k, .slice a1 n1 c1, .slice a2 n2 c2, .nilIface], .func (.func 20) #[] #[.pointer (some ⟨w.heap.size + 1 + 1 + 1 + 1, 0, none⟩)], .slice (some x.a) x.l.length x.c, x.v, undef, undef, undef, undef, undef, undef, undef, undef, undef], defers := [] }) ?assign ?body ?done ?stop
  case assign =>
    intro l x W K hK
    simp only [Ent.args]
    gi_wp2
    exact hK
  case body =>
    rintro l pre x W ⟨hr, fr, fp, ff, hf, ⟨ap, np, cp, hp, hpl⟩, hasc, hbel⟩ hok hsz
    clear HS HI0
    have hokW := hok.later hbel
    have keep : RoundKeeps w.heap.size W0.heap.size W ((W.setCell ⟨w.heap.size + 1 + 1, 0, none⟩ (.slice (some x.a) x.l.length x.c)).setCell ⟨w.heap.size + 1 + 1 + 1, 0, none⟩ (.bool false)) :=
      ⟨((Below.refl _ W).setCell (p := ⟨w.heap.size + 1 + 1, 0, none⟩) (by simp; omega) _).setCell (p := ⟨w.heap.size + 1 + 1 + 1, 0, none⟩) (by simp; omega) _, fun b hb1 hb2 => (Below.heap_setCell _ _ _ _ (by simp; omega)).trans (Below.heap_setCell _ _ _ _ (by simp; omega))⟩
    have next : Asc ((pre ++ [x]).map (·.l)) → AscI w (w.heap.size + 1) (w.heap.size + 1 + 1) (w.heap.size + 1 + 1 + 1) (pre ++ [x]) ((W.setCell ⟨w.heap.size + 1 + 1, 0, none⟩ (.slice (some x.a) x.l.length x.c)).setCell ⟨w.heap.size + 1 + 1 + 1, 0, none⟩ (.bool false)) := fun ha => by
      refine ⟨?_, ?_, ?_, ?_, ?_, ⟨some x.a, x.l.length, x.c, ?_, fun q y hy => ?_⟩, ha, hbel.trans keep.1⟩
      · rw [World.cell?_setCell_other _ _ _ _ (by simp), World.cell?_setCell_other _ _ _ _ (by simp)]; exact hr
      · rw [World.frozen?_setCell, World.frozen?_setCell]; exact fr
      · rw [World.frozen?_setCell, World.frozen?_setCell]; exact fp
      · rw [World.frozen?_setCell, World.frozen?_setCell]; exact ff
      · rw [World.cell?_setCell_same' _ _ _ (by rw [World.cell?_setCell_other _ _ _ _ (by simp), hf]; rfl)]; simp
      · rw [World.cell?_setCell_other _ _ _ _ (by simp), World.cell?_setCell_same' _ _ _ (by rw [hp]; rfl)]
      · obtain ⟨_, h⟩ := List.append_inj' hy rfl
        cases h
        exact ⟨rfl, rfl, rfl, hok⟩
    rcases List.eq_nil_or_concat pre with rfl | ⟨q, x0, hq⟩
    · have NX := hide (next trivial)
      have KP := hide keep
      clear next keep hasc hpl
      have hf' : W.cell? ⟨w.heap.size + 1 + 1 + 1, 0, none⟩ = some (.bool true) := hf
      clear hf
      gi_wp2
      refine ⟨trivial, ?_⟩
      gi_wp2
      exact ⟨unhide KP, unhide NX⟩
    · rw [List.concat_eq_append] at hq
      subst hq
      obtain ⟨rfl, rfl, rfl, hb0⟩ := hpl q x0 rfl
      have hb0W := hb0.later hbel
      have hcall := f18_any x0.a x.a x0.c x.c x0.l x.l W hb0W hokW
      have hf' : W.cell? ⟨w.heap.size + 1 + 1 + 1, 0, none⟩ = some (.bool false) := by rw [show (q ++ [x0]).isEmpty = false by cases q <;> rfl] at hf; exact hf
      have hsn : Asc ((q ++ [x0] ++ [x]).map (·.l)) ↔ Asc ((q ++ [x0]).map (·.l)) ∧ Lib.compareBytes (Lib.bytesOf x0.l) (Lib.bytesOf x.l) < 0 := by
        have := asc_snoc (q.map (·.l)) x0.l x.l
        simpa using this
      obtain ⟨cv, hcv⟩ : ∃ cv, Lib.compareBytes (Lib.bytesOf x0.l) (Lib.bytesOf x.l) = cv := ⟨_, rfl⟩
      rw [hcv] at hcall hsn
      have HCL := hide hcall
      clear hf hb0 hb0W hokW hpl hcv hcall
      by_cases hge : 0 ≤ cv
      · have hna : ¬ Asc ((q ++ [x0] ++ [x]).map (·.l)) := fun h => by have := (hsn.1 h).2; omega
        have HNA := hide hna
        clear hna hsn next keep hasc
        gi_wp2_with (refine ⟨trivial, ?_⟩; gi_at_call 18; refine (CallsIn.inRound l (callsIn_wide.2 (unhide HCL))).mono ?_; rintro e w' ⟨rfl, rfl⟩)
        exact ⟨⟨(Below.refl _ _).setCell (p := ⟨w.heap.size + 1, 0, none⟩) (by simp) _, fun b hb1 hb2 => Below.heap_setCell _ _ _ _ (by simp; omega)⟩, rfl, World.cell?_setCell_same' _ _ _ (by rw [hr]; rfl), unhide HNA, hbel.setCell (p := ⟨w.heap.size + 1, 0, none⟩) (by simp) _⟩
      · have NX := hide (next (hsn.2 ⟨by simpa using hasc, by omega⟩))
        have KP := hide keep
        clear hsn next keep hasc
        gi_wp2_with (refine ⟨trivial, ?_⟩; gi_at_call 18; refine (CallsIn.inRound l (callsIn_wide.2 (unhide HCL))).mono ?_; rintro e w' ⟨rfl, rfl⟩)
        exact ⟨unhide KP, unhide NX⟩
  case done =>
    rintro xs W hS ⟨hr, fr, fp, ff, hf, _, hasc, hbel⟩ hK
    gi_wp2
    have hK2 : (W.setCell ⟨w.heap.size + 1, 0, none⟩ (.bool true)).heap[W0.heap.size]? = some (.deferred (some [])) := (Below.heap_setCell _ _ _ _ (by simp; omega)).trans hK
    refine ⟨by simp, .inl ⟨_, _, rfl, run_takeDeferred hK2, ?_⟩⟩
    have hc : ((W.setCell ⟨w.heap.size + 1, 0, none⟩ (.bool true)).putObj W0.heap.size (.deferred none)).cell? ⟨w.heap.size + 1, 0, none⟩ = some (.bool true) := by
      rw [World.cell?_of_block (w := W.setCell ⟨w.heap.size + 1, 0, none⟩ (.bool true)) (a := ⟨w.heap.size + 1, 0, none⟩) (World.putObj_heap_other (by simp; omega))]
      exact World.cell?_setCell_same' _ _ _ (by rw [hr]; rfl)
    refine ⟨.bool true, by simp [results, Tryd.results14, go_sem, hc], .inl ⟨rfl, xs, hS, hasc⟩, ?_⟩
    exact (hbel.setCell (p := ⟨w.heap.size + 1, 0, none⟩) (by simp) _).trans (below_putObj _ _ _ _ (by omega) hK2)
  case stop =>
    rintro c pre W hSp ⟨rfl, hr, hasc, hbel⟩ hK
    gi_wp2
    refine ⟨by simp, .inl ⟨_, _, rfl, run_takeDeferred hK, ?_⟩⟩
    have hc : (W.putObj W0.heap.size (.deferred none)).cell? ⟨w.heap.size + 1, 0, none⟩ = some (.bool false) := by
      rw [World.cell?_of_block (w := W) (a := ⟨w.heap.size + 1, 0, none⟩) (World.putObj_heap_other (by simp; omega))]
      exact hr
    refine ⟨.bool false, by simp [results, Tryd.results14, go_sem, hc], .inr ⟨rfl, pre, hSp, hasc⟩, ?_⟩
    exact hbel.trans (below_putObj _ _ _ _ (by omega) hK)
end Go.Proofs.Qxb6605951aDoor
