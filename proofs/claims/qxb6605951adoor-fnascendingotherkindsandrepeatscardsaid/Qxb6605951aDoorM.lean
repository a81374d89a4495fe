/-
  The iterator of Entries: of what is no dictionary, and of an empty one.
-/
import Derived.Test.Qxb6605951aDoorL
namespace Go.Proofs.Qxb6605951aDoor
open Go.RowKit Go.Shelf
attribute [local go_sem] Oper.semAt_some

/-- The box of the value over which Entries goes. -/
theorem asc_box (w : World) (k : Int) (vr vn : Value) : (ascWorld w k vr vn).heap[w.heap.size + 1 + 1 + 1 + 1]? = some (.cells #[.int .u8 k, vr, vn, .nilIface] 32 (0, 0)) := by
  have h := heap_alloc_new ((((w.alloc (.cells #[.int .u8 k, vr, vn, .nilIface] 32)).alloc (.cells #[.bool false] 4)).alloc (.cells #[.slice none 0 0] 27)).alloc (.cells #[.bool true] 4)) (.cells #[.int .u8 k, vr, vn, .nilIface] 32)
  simp only [World.size_alloc] at h
  exact h

def NoneGiven (xs : List Ent) : Prop := xs = []
def NoStop (_ : List Ent) : Prop := False

set_option maxHeartbeats 400000 in
/-- Of what is no dictionary nothing comes. -/
theorem entries_other (k : Int) (hk : (k == 4) = false) (vr vn : Value) (w : World) :
    SeqC Fence.wide 4 Tryd.prog 20 #[.pointer (some ⟨w.heap.size + 1 + 1 + 1 + 1, 0, none⟩)] Ent.args (fun x => BytesAt w x.a x.l) w.heap.size NoneGiven NoStop (ascWorld w k vr vn) := fun l J Jx W hb hsz hJ hJx hY h0 => by
  have hbox := asc_box w k vr vn
  have hlt : w.heap.size + 1 + 1 + 1 + 1 < (ascWorld w k vr vn).heap.size := (Array.getElem?_eq_some_iff.1 hbox).1
  have c0 : W.cell? ⟨w.heap.size + 1 + 1 + 1 + 1, 0, none⟩ = some (.int .u8 k) := (hb.cell (p := ⟨w.heap.size + 1 + 1 + 1 + 1, 0, none⟩) hlt).trans ((cell_of_row _ _ _ _ _ _ hbox).trans rfl)
  refine callsIn_of_wp Tryd.func20 rfl trivial ?_ rfl
  simp only [Tryd.ntmps20, List.size_toArray, List.length_cons, List.length_nil, Nat.reduceAdd, Nat.reduceSub, Array.replicate_succ, Array.replicate_zero, List.push_toArray, List.append_toArray, List.nil_append, List.cons_append]
  clear hb hsz hJ hJx hY hbox hlt
  gi_wp2
  refine bodyPost_ret (results_none rfl _ _ _) rfl ?_
  exact ⟨⟨_, rfl⟩, .inl ⟨[], rfl, h0⟩⟩

/-- A new row of values, stored whole: a cursor. -/
theorem cur_new (w : World) (k : Int) (vr vn : Value) (p q : Nat) : CurAt (w.alloc (.cells #[.int .u8 k, vr, vn, .nilIface, .int .i64 p, .int .i64 q] 58)) w.heap.size k vr vn p q := by
  have e : (w.alloc (.cells #[.int .u8 k, vr, vn, .nilIface, .int .i64 p, .int .i64 q] 58)).heap[w.heap.size]? = some (.cells #[.int .u8 k, vr, vn, .nilIface, .int .i64 p, .int .i64 q] 58 (0, 0)) := heap_alloc_new w _
  refine ⟨(cell_of_row _ _ _ _ _ _ e).trans rfl, (cell_of_row _ _ _ _ _ _ e).trans rfl, (cell_of_row _ _ _ _ _ _ e).trans rfl, (cell_of_row _ _ _ _ _ _ e).trans rfl, (cell_of_row _ _ _ _ _ _ e).trans rfl, (cell_of_row _ _ _ _ _ _ e).trans rfl, ?_, ?_⟩ <;> (simp only [World.frozen?, e]; simp)

set_option maxHeartbeats 1000000 in
/-- Of an empty dictionary nothing comes. -/
theorem entries_empty (vr : Value) (hvr : ∃ a n c, vr = .slice a n c) (an : Option Addr) (cn : Nat) (w : World) :
    SeqC Fence.wide 4 Tryd.prog 20 #[.pointer (some ⟨w.heap.size + 1 + 1 + 1 + 1, 0, none⟩)] Ent.args (fun x => BytesAt w x.a x.l) w.heap.size NoneGiven NoStop (ascWorld w 4 vr (.slice an 0 cn)) := fun l J Jx W hb hsz hJ hJx hY h0 => by
  have hbox := asc_box w 4 vr (.slice an 0 cn)
  have hlt : w.heap.size + 1 + 1 + 1 + 1 < (ascWorld w 4 vr (.slice an 0 cn)).heap.size := (Array.getElem?_eq_some_iff.1 hbox).1
  have cb := fun j => hb.cell (p := ⟨w.heap.size + 1 + 1 + 1 + 1, j, none⟩) hlt
  have c0 : W.cell? ⟨w.heap.size + 1 + 1 + 1 + 1, 0, none⟩ = some (.int .u8 4) := (cb 0).trans ((cell_of_row _ _ _ _ _ _ hbox).trans rfl)
  have c1 : W.cell? ⟨w.heap.size + 1 + 1 + 1 + 1, 1, none⟩ = some vr := (cb 1).trans ((cell_of_row _ _ _ _ _ _ hbox).trans rfl)
  have c2 : W.cell? ⟨w.heap.size + 1 + 1 + 1 + 1, 2, none⟩ = some (.slice an 0 cn) := (cb 2).trans ((cell_of_row _ _ _ _ _ _ hbox).trans rfl)
  have c3 : W.cell? ⟨w.heap.size + 1 + 1 + 1 + 1, 3, none⟩ = some .nilIface := (cb 3).trans ((cell_of_row _ _ _ _ _ _ hbox).trans rfl)
  obtain ⟨ar, nr, cr, rfl⟩ := hvr
  refine callsIn_of_wp Tryd.func20 rfl trivial ?_ rfl
  simp only [Tryd.ntmps20, List.size_toArray, List.length_cons, List.length_nil, Nat.reduceAdd, Nat.reduceSub, Array.replicate_succ, Array.replicate_zero, List.push_toArray, List.append_toArray, List.nil_append, List.cons_append]
  have HJ := hide hJ
  clear hb hsz hJ hJx hY hbox hlt cb
  gi_wp2_with (first
    | (refine ⟨trivial, ?_⟩; gi_at_call 21; refine (callsIn_wide.2 (f21_any _ _ _ ⟨_, _, _, rfl⟩ ⟨_, _, _, rfl⟩ _)).mono ?_; rintro e w1 ⟨rfl, hb1⟩)
    | (refine ⟨trivial, ?_⟩; gi_at_call 22; refine (callsIn_wide.2 (f22_end w1.heap.size 4 _ an 0 cn 1 0 rfl _ (cur_new w1 4 _ _ 1 0))).mono ?_; rintro e w2 ⟨rfl, hb2⟩))
  have hb3 : Below W.heap.size W w2 := (hb1.alloc hb1.size _).trans (hb2.mono (by have := hb1.size; simp; omega))
  have hJ2 : J [] (w2.alloc (.cells #[.int .u8 0, .slice none 0 0, .slice none 0 0, .nilIface] 32)) := (unhide HJ) _ _ _ h0 (hb3.alloc hb3.size _)
  clear hb1 hb2 hb3 c0 c1 c2 c3 HJ h0
  gi_loopw [5] (fun ok wr => ok = .bool false ∧ J [] wr) (fun _ _ => 0)
  case atStart => exact ⟨rfl, hJ2⟩
  case round =>
    obtain ⟨rfl, hJr⟩ := hrel
    clear hJ2
    gi_wp2
    go_end0
    exact ⟨⟨_, rfl⟩, .inl ⟨[], rfl, hJr⟩⟩
end Go.Proofs.Qxb6605951aDoor
