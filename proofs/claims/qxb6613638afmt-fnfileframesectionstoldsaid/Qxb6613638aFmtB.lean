/-
  fmt.Sprintf: the turns over plain operands.
-/
import Derived.Test.Qxb6613638aFmtA
namespace Go.Proofs.Qxb6613638aFmt
open Go.RowKit Go.Extern

/-- The operands that lie from a on. -/
def OpsAt (w : World) (a : Addr) (n : Nat) (ops : Nat → Value) : Prop := ∀ i, i < n → w.cell? (a.add i) = some (ops i) ∧ Plain (ops i)

theorem triples_ok (w : World) : ∀ ps : List (Nat × UInt8 × Bool), (FmtDoors.triples (ps.flatMap fun p => [Value.int .i64 (p.1 : Nat), .int .i64 (p.2.1.toNat : Nat), .bool p.2.2])).run Tryf.prog w = .ok ps w
  | [] => by simp [FmtDoors.triples]
  | (i, v, s) :: ps => by
    have := triples_ok w ps
    simp [FmtDoors.triples, this]

theorem turns_plain (a : Addr) (n c : Nat) (f : ByteArray) (ops : Nat → Value) (w : World) (h : OpsAt w a n ops) : ∀ (ps : List (Nat × UInt8 × Bool)) (acc : List (List UInt8)), (∀ p ∈ ps, p.1 < n) →
    ∃ s, (FmtCalls.turns 0 0 (.slice (some a) n c) f acc ps).run Tryf.prog w = .ok (.value (.string s)) w.drew
  | [], acc, _ => by
    exact ⟨_, by simp [FmtCalls.turns, FmtCalls.finish, FmtStop.str]; rfl⟩
  | (i, v, s) :: ps, acc, hp => by
    obtain ⟨hc, hpl⟩ := h i (hp _ (List.mem_cons_self ..))
    obtain ⟨r, hr⟩ := operand_plain (FmtCalls.frontName 0) false v s hpl w
    obtain ⟨s', ih⟩ := turns_plain a n c f ops w h ps (acc ++ [r.1, r.2]) (fun p hp' => hp p (List.mem_cons_of_mem _ hp'))
    have hop : (FmtDoors.operand (.slice (some a) n c) i).run Tryf.prog w = .ok (ops i) w := by
      have hlt : i < n := hp _ (List.mem_cons_self ..)
      simp [FmtDoors.operand, hlt, hc]
    refine ⟨s', ?_⟩
    have hact := act_plain (FmtCalls.frontName 0) false v s hpl w
    simp [FmtCalls.turns, hop, hact, hr, ih]

theorem begun_plain (a : Addr) (n c : Nat) (f : ByteArray) (ops : Nat → Value) (w : World) (h : OpsAt w a n ops) (ps : List (Nat × UInt8 × Bool)) (hp : ∀ p ∈ ps, p.1 < n) :
    ∃ s, (FmtCalls.begun #[] #[] (FmtCalls.save 0 0 (.slice (some a) n c) f [] ps)).run Tryf.prog w = .ok (.value (.string s)) w.drew := by
  obtain ⟨s, hs⟩ := turns_plain a n c f ops w h ps [] hp
  refine ⟨s, ?_⟩
  have ht := triples_ok w ps
  simp [FmtCalls.begun, FmtCalls.resume, FmtCalls.save, FmtCalls.strings]
  exact (congrArg (fun r => Result.andThen r fun a1 w' => Sem.run Tryf.prog (FmtCalls.turns 0 0 (.slice (some a) n c) f [] a1) w') ht).trans hs
/-- It handed back an error that holds one finding, of this section, no warning, with some text; in memory of its own. -/
def Erred (w : World) (sec : ByteArray) (e : Ending) (w' : World) : Prop :=
  ∃ b g msg, e = .returned (.iface 85 (.pointer (some ⟨b, 0, none⟩))) ∧ w'.cell? ⟨b, 0, none⟩ = some (.slice (some ⟨g, 0, none⟩) 1 1) ∧
    w'.cell? ⟨g, 0, none⟩ = some (.string sec) ∧ w'.cell? ⟨g, 1, none⟩ = some (.bool false) ∧ w'.cell? ⟨g, 2, none⟩ = some (.string msg) ∧ w.heap.size ≤ b ∧ w.heap.size ≤ g ∧ Below w.heap.size w w'

attribute [local go_sem] Tryf.call30 in
theorem f33_any (sec f : ByteArray) (a : Addr) (n c : Nat) (ops : Nat → Value) (ps : List (Nat × UInt8 × Bool)) (hps : FmtStop.printed? f n = some ps) (hp : ∀ p ∈ ps, p.1 < n) (w : World) (h : OpsAt w a n ops) :
    Calls Tryf.prog 33 #[.string sec, .string f, .slice (some a) n c] w (Erred w sec) := by
  obtain ⟨s, hs⟩ := begun_plain a n c f ops w h ps hp
  have hg := Tryf.guard "fmt.Sprintf" w
  clear h
  go_enter Tryf.func33, Tryf.ntmps33
  go_wp2
  refine rows_value Tryf.nextTurns hs ?_
  go_wp2
  go_ret
  have hA : (((w.alloc (.cells #[.string sec, .bool false, .string s] 37)).alloc (.cells #[.slice (some ⟨w.heap.size, 0, none⟩) 1 1] 84)).drew).heap[w.heap.size]? = some (.cells #[.string sec, .bool false, .string s] 37 (0, 0)) :=
    (Below.heap_alloc _ _ _ (by simp)).trans (heap_alloc_new w _)
  have hB : (((w.alloc (.cells #[.string sec, .bool false, .string s] 37)).alloc (.cells #[.slice (some ⟨w.heap.size, 0, none⟩) 1 1] 84)).drew).heap[w.heap.size + 1]? = some (.cells #[.slice (some ⟨w.heap.size, 0, none⟩) 1 1] 84 (0, 0)) := by
    have := heap_alloc_new (w.alloc (.cells #[.string sec, .bool false, .string s] 37)) (.cells #[.slice (some ⟨w.heap.size, 0, none⟩) 1 1] 84 (0, 0))
    rw [show (w.alloc (.cells #[.string sec, .bool false, .string s] 37)).heap.size = w.heap.size + 1 by simp] at this
    exact this
  exact ⟨w.heap.size + 1, w.heap.size, s, rfl, cell_of_row _ _ 0 _ _ _ hB, cell_of_row _ _ 0 _ _ _ hA, cell_of_row _ _ 1 _ _ _ hA, cell_of_row _ _ 2 _ _ _ hA, by omega, Nat.le_refl _, (((Below.refl _ w).alloc (Nat.le_refl _) _).alloc (by simp) _).drew⟩
end Go.Proofs.Qxb6613638aFmt
