/-
  A range over a function whose iterator keeps state of its own IN CELLS (a cursor): the shelf's contracts of iterators let an iterator lay blocks and step walks; this one also stores into its own blocks.
  The caller's invariant speaks of blocks below the heap's size where the statement begins; the iterator's own blocks lie above; so neither sees the other's.
-/
import Derived.RangeFuncKeeps
import Derived.RangeFuncLeaves
import Derived.Below
namespace Go.Proofs.Qxb6605951aDoor
open Go.RowKit

/-- What a round that goes on keeps: whatever lies below n1 (the data), and whatever lies from n0 on (the iterator's own). -/
def RoundKeeps (n1 n0 : Nat) (W W' : World) : Prop := Below n1 W W' ∧ ∀ b, n0 ≤ b → b < W.heap.size → W'.heap[b]? = W.heap[b]?

/-- It abides whatever turns nothing below B. -/
def AbidesBelow {β : Type} (B : Nat) (J : β → World → Prop) : Prop := ∀ s A A', J s A → Below B A A' → J s A'

def SeqC {α : Type} (F : Fence) (n : Nat) (P : Program) (g : Nat) (lb : Array Value) (encs : α → Array Value) (Ok : α → Prop) (n1 : Nat) (S Sp : List α → Prop) (w : World) : Prop :=
  ∀ (l : Nat) (J Jx : List α → World → Prop) (W : World), Below w.heap.size w W → W.heap.size = w.heap.size + 2 → AbidesBelow W.heap.size J → AbidesBelow W.heap.size Jx →
    (∀ pre x W1, J pre W1 → Ok x → YieldAt F (n - 1) P l (encs x) W1 fun e W' =>
      (e = .returned (.bool true) ∧ J (pre ++ [x]) W' ∧ RoundKeeps n1 W.heap.size W1 W') ∨ (e = .returned (.bool false) ∧ Jx (pre ++ [x]) W')) →
    J [] W →
    CallsIn F n P g (#[.func (.yield l) #[] #[]] ++ lb) W fun e W' => (∃ v, e = .returned v) ∧ ((∃ xs, S xs ∧ J xs W') ∨ (∃ pre, Sp pre ∧ Jx pre W'))

/-- How the body of a round may be left. -/
def postC {α : Type} (n1 n0 : Nat) (I : List α → World → Prop) (Ix : Code → List α → World → Prop) (xs : List α) (W : World) : Exit → Act → World → Prop
  | .normal, _, W' => RoundKeeps n1 n0 W W' ∧ I xs W'
  | .ret, _, W' => RoundKeeps n1 n0 W W' ∧ Ix .ret xs W'
  | .exit id, _, W' => RoundKeeps n1 n0 W W' ∧ Ix (.exit id) xs W'
  | .goto t, _, W' => RoundKeeps n1 n0 W W' ∧ Ix (.goto t) xs W'
  | .panic _, _, _ => False
  | .outgrown, _, _ => False

theorem below_putObj {B : Nat} (W : World) (l : Nat) (o o' : Obj) (hl : B ≤ l) (h : W.heap[l]? = some o) : Below B W (W.putObj l o') :=
  (Below.refl B W).grown (grownBy_putObj' W l o') (by have := (Array.getElem?_eq_some_iff.1 h).1; omega) (fun k e => by cases e; omega)

variable {F : Fence} {n : Nat} {P : Program}

theorem wpIn_rangeFunc_c {α : Type} {g : Operand} {ps : Array Tmp} {assign body : Code} {Q : Exit → Act → World → Prop} {a : Act} {w : World}
    (hro : F.round = none) (h1 : 1 ≤ n) {gf : Nat} {lb : Array Value} (hg : a.eval g = .func (.func gf) #[] lb) (hFg : F.fn gf) (eg : ∀ args w, (callFunc gf args).run P w = .ok (.enter gf args) w)
    {encs : α → Array Value} {Ok : α → Prop} {n1 : Nat} (hn1 : n1 ≤ w.heap.size) {S Sp : List α → Prop} (hseq : SeqC F (n - 1) P gf lb encs Ok n1 S Sp w) (hps : ∀ x, (encs x).size = ps.size)
    (I : List α → World → Prop) (Ix : Code → List α → World → Prop) (hI : AbidesBelow w.heap.size I) (hIx : ∀ c, AbidesBelow w.heap.size (Ix c)) (h0 : I [] w) (a₁ : α → Act)
    (hassign : ∀ (l : Nat) (x : α) (W : World) (K : Act → World → Prop), K (a₁ x) W →
      assign.wpIn (F.inRound l) (n - 1 - 1) P (Exit.then K (fun _ _ _ => False)) { tmps := (ps.zip (encs x)).foldl (fun t (p, v) => t.setIfInBounds p v) a.tmps, defers := [] } W)
    (hbody : ∀ (l : Nat) (pre : List α) (x : α) (W : World), I pre W → Ok x → w.heap.size ≤ W.heap.size → body.wpIn (F.inRound l) (n - 1 - 1) P (postC n1 w.heap.size I Ix (pre ++ [x]) W) (a₁ x) W)
    (hdone : ∀ (xs : List α) (W : World), S xs → I xs W → W.heap[w.heap.size]? = some (.deferred (some [])) → Q .normal { a with defers := { target := .collected w.heap.size, args := #[] } :: a.defers } W)
    (hstop : ∀ (c : Code) (pre : List α) (W : World), Sp pre → Ix c pre W → W.heap[w.heap.size]? = some (.deferred (some [])) → c.wpIn F n P Q { a with defers := { target := .collected w.heap.size, args := #[] } :: a.defers } W) :
    (Code.rangeFunc g ps assign body).wpIn F n P Q a w := by
  refine wpIn_rangeFunc ?_
  intro fn hfn
  rw [hro]
  obtain ⟨rec, hrec⟩ : ∃ rec : LoopState → Option Code → Loop, rec = fun st pe => { state := st, pending := pe, fn, tmps := a.tmps, params := ps, assign, body, defers := w.heap.size } := ⟨_, rfl⟩
  obtain ⟨W1, hW1⟩ : ∃ W1, (w.alloc (.deferred (some []))).alloc (.loop (rec .ready none)) = W1 := ⟨_, rfl⟩
  have hL1 : W1.heap[w.heap.size + 1]? = some (.loop (rec .ready none)) := by
    rw [← hW1]; have := World.alloc_heap_new (w.alloc (.deferred (some []))) (.loop (rec .ready none)); rwa [World.size_alloc] at this
  have hK1 : W1.heap[w.heap.size]? = some (.deferred (some [])) := by
    rw [← hW1]; exact (Below.heap_alloc _ _ _ (by simp)).trans (World.alloc_heap_new w _)
  have hb1 : Below w.heap.size w W1 := by
    rw [← hW1]; exact ((Below.refl _ w).alloc (Nat.le_refl _) _).alloc (by simp) _
  have hs1 : W1.heap.size = w.heap.size + 2 := by rw [← hW1]; simp
  have hI1 : I [] W1 := hI _ _ _ h0 hb1
  refine ⟨w.heap.size + 1, [{ target := .collected w.heap.size, args := #[] }], W1, { target := .fn (.func gf) lb, args := #[.func (.yield (w.heap.size + 1)) #[] #[]] }, W1, gf,
    #[.func (.yield (w.heap.size + 1)) #[] #[]] ++ lb, W1, ?_, ?_, ?_, ?_, fun _ => h1, ?_⟩
  · rw [← hW1, hrec]; exact run_enterLoop_outer _ _ _ _ _
  · simp only [resolve, hg]
    simp [go_sem]
  · intro f' hf'; simp [Target.leads] at hf'; subst hf'; exact hFg
  · simp [invoke, go_sem, eg]
  · refine (hseq (w.heap.size + 1)
      (fun pre W => I pre W ∧ W.heap[w.heap.size + 1]? = some (.loop (rec .ready none)) ∧ W.heap[w.heap.size]? = some (.deferred (some [])))
      (fun pre W => ∃ c, Ix c pre W ∧ W.heap[w.heap.size + 1]? = some (.loop (rec .done (some c))) ∧ W.heap[w.heap.size]? = some (.deferred (some [])))
      W1 hb1 hs1
      (fun s A B hs hb => ⟨hI s A B hs.1 (hb.mono (by omega)), (hb.block _ (by omega)).trans hs.2.1, (hb.block _ (by omega)).trans hs.2.2⟩)
      (fun s A B hs hb => by
        obtain ⟨c, hc, hl, hk⟩ := hs
        exact ⟨c, hIx c s A B hc (hb.mono (by omega)), (hb.block _ (by omega)).trans hl, (hb.block _ (by omega)).trans hk⟩)
      ?_ ⟨hI1, hL1, hK1⟩).mono ?_
    · -- ONE ROUND
      rintro pre x W ⟨hi, hl, hk⟩ hok
      have hlt : w.heap.size + 1 < W.heap.size := (Array.getElem?_eq_some_iff.1 hl).1
      have hy := run_yield (P := P) (args := encs x) hl (by rw [hrec]; exact hps x)
      rw [hrec] at hy
      refine ⟨fn, _, assign, body, hy, roundIn_of_wpIn hfn (hassign _ x W _ ⟨_, run_beginRound hl (by rw [hrec]), ?_⟩)⟩
      have hl2 : (W.putObj (w.heap.size + 1) (.loop { rec .ready none with state := .busy })).heap[w.heap.size + 1]? = some (.loop { rec .ready none with state := .busy }) := World.putObj_heap_same hlt
      have hk2 : (W.putObj (w.heap.size + 1) (.loop { rec .ready none with state := .busy })).heap[w.heap.size]? = some (.deferred (some [])) := (World.putObj_heap_other (by omega)).trans hk
      have hw2 : Below w.heap.size W (W.putObj (w.heap.size + 1) (.loop { rec .ready none with state := .busy })) := below_putObj W _ _ _ (by omega) hl
      have hz2 : (W.putObj (w.heap.size + 1) (.loop { rec .ready none with state := .busy })).heap.size = W.heap.size := by simp [World.putObj]
      refine wpIn_mono (hbody _ pre x _ (hI _ _ _ hi hw2) hok (Nat.le_trans (Nat.le_of_lt (Nat.lt_of_succ_lt hlt)) hw2.size)) ?_
      have fin : ∀ (jump : Option Code) (W3 : World), RoundKeeps n1 w.heap.size (W.putObj (w.heap.size + 1) (.loop { rec .ready none with state := .busy })) W3 →
          (Instr.endRound (w.heap.size + 1) jump).run P W3 = .ok (.bool jump.isNone) (W3.putObj (w.heap.size + 1) (.loop (rec (if jump.isNone then .ready else .done) jump))) ∧
          W3.heap[w.heap.size + 1]? = some (.loop { rec .ready none with state := .busy }) ∧
          (W3.putObj (w.heap.size + 1) (.loop (rec (if jump.isNone then .ready else .done) jump))).heap[w.heap.size + 1]? = some (.loop (rec (if jump.isNone then .ready else .done) jump)) ∧
          (W3.putObj (w.heap.size + 1) (.loop (rec (if jump.isNone then .ready else .done) jump))).heap[w.heap.size]? = some (.deferred (some [])) ∧
          Below w.heap.size W3 (W3.putObj (w.heap.size + 1) (.loop (rec (if jump.isNone then .ready else .done) jump))) ∧
          RoundKeeps n1 W1.heap.size W (W3.putObj (w.heap.size + 1) (.loop (rec (if jump.isNone then .ready else .done) jump))) := fun jump W3 hk3 => by
        have hl3 := (hk3.2 _ (by omega) (by omega)).trans hl2
        have := run_endRound (P := P) jump hl3
        have hb3 : Below w.heap.size W3 (W3.putObj (w.heap.size + 1) (.loop (rec (if jump.isNone then .ready else .done) jump))) := below_putObj W3 _ _ _ (by omega) hl3
        rw [hrec] at this ⊢
        refine ⟨this, by rw [hrec] at hl3; exact hl3, World.putObj_heap_same (Array.getElem?_eq_some_iff.1 hl3).1, (World.putObj_heap_other (by omega)).trans ((hk3.2 _ (by omega) (by omega)).trans hk2), by rw [hrec] at hb3; exact hb3, ?_, ?_⟩
        · rw [hrec] at hw2 hk3 hb3
          exact ((hw2.mono hn1).trans hk3.1).trans (hb3.mono hn1)
        · intro b hb1 hb2
          rw [hrec] at hk3 hz2
          exact (World.putObj_heap_other (by omega)).trans ((hk3.2 b (by omega) (by omega)).trans (World.putObj_heap_other (by omega)))
      rintro e a3 W3 hp
      cases e with
      | normal =>
        obtain ⟨hk3, hi3⟩ := hp
        obtain ⟨hr, hl3, hl4, hk4, hb3, hrk⟩ := fin none W3 hk3
        exact ⟨_, _, hr, .inl ⟨rfl, ⟨hI _ _ _ hi3 hb3, hl4, hk4⟩, hrk⟩⟩
      | ret =>
        obtain ⟨hk3, hi3⟩ := hp
        obtain ⟨hr, hl3, hl4, hk4, hb3, hrk⟩ := fin (some .ret) W3 hk3
        exact ⟨_, _, hr, .inr ⟨rfl, .ret, hIx _ _ _ _ hi3 hb3, hl4, hk4⟩⟩
      | exit id =>
        obtain ⟨hk3, hi3⟩ := hp
        obtain ⟨hr, hl3, hl4, hk4, hb3, hrk⟩ := fin (some (.exit id)) W3 hk3
        exact ⟨_, _, hr, .inr ⟨rfl, .exit id, hIx _ _ _ _ hi3 hb3, hl4, hk4⟩⟩
      | goto t =>
        obtain ⟨hk3, hi3⟩ := hp
        obtain ⟨hr, hl3, hl4, hk4, hb3, hrk⟩ := fin (some (.goto t)) W3 hk3
        exact ⟨_, _, hr, .inr ⟨rfl, .goto t, hIx _ _ _ _ hi3 hb3, hl4, hk4⟩⟩
      | panic ch => exact hp.elim
      | outgrown => exact hp.elim
    · -- BEHIND THE ITERATOR
      rintro e W2 ⟨⟨v, rfl⟩, (⟨xs, hS, hi, hl, hk⟩ | ⟨pre, hSp, c, hi, hl, hk⟩)⟩
      · have hb2 : Below w.heap.size W2 (W2.putObj (w.heap.size + 1) (.loop { rec .ready none with state := .exhausted })) := below_putObj W2 _ _ _ (by omega) hl
        have he := run_endLoop (P := P) hl (by rw [hrec]; simp)
        rw [hrec] at he hb2
        exact ⟨none, _, he, hdone xs _ hS (hI _ _ _ hi hb2) ((World.putObj_heap_other (by omega)).trans hk)⟩
      · have hb2 : Below w.heap.size W2 (W2.putObj (w.heap.size + 1) (.loop { rec .done (some c) with state := .exhausted })) := below_putObj W2 _ _ _ (by omega) hl
        have he := run_endLoop (P := P) hl (by rw [hrec]; simp)
        rw [hrec] at he hb2
        exact ⟨some c, _, he, hstop c pre _ hSp (hIx c _ _ _ hi hb2) ((World.putObj_heap_other (by omega)).trans hk)⟩

end Go.Proofs.Qxb6605951aDoor
