/-
  Maps whose keys are known: a plain lookup function, its law under an update, and the runs of the model's map operations.
-/
import Derived.Test.Qxb6605991aProg
import Derived.WalkKit
import Derived.WalkSpells
import Derived.Below
import Derived.MapKept
import Derived.WideMake
import Derived.WideKeyRuns
import Derived.Laws.StructEq
namespace Go.Proofs.Qxb6605991a
open Go.RowKit

section
variable {K : Type} [DecidableEq K]

/-- The first entry with the key. -/
def fnd (k : K) : List (K × Value × Nat) → Option (Nat × Value)
  | [] => none
  | p :: l => if p.1 = k then some (0, p.2.1) else (fnd k l).map fun q => (q.1 + 1, q.2)
/-- What lies at the key. -/
def lk (k : K) (l : List (K × Value × Nat)) : Option Value := (fnd k l).map (·.2)
/-- The list behind an update. -/
def put (k : K) (v : Value) (c : Nat) : List (K × Value × Nat) → List (K × Value × Nat)
  | [] => [(k, v, c)]
  | p :: l => if p.1 = k then (k, v, p.2.2) :: l else p :: put k v c l

theorem put_none (k : K) (v : Value) (c : Nat) : ∀ l : List (K × Value × Nat), fnd k l = none → put k v c l = l ++ [(k, v, c)]
  | [], _ => rfl
  | p :: l, h => by
    unfold fnd at h
    by_cases hp : p.1 = k
    · simp [hp] at h
    · simp [hp] at h
      simp [put, hp, put_none k v c l h]
theorem put_some (k : K) (v : Value) (c : Nat) : ∀ (l : List (K × Value × Nat)) (j : Nat) (v0 : Value), fnd k l = some (j, v0) → (put k v c l = l.modify j fun p => (k, v, p.2.2)) ∧ ∃ p, l[j]? = some p ∧ p.1 = k
  | [], _, _, h => by simp [fnd] at h
  | p :: l, j, v0, h => by
    unfold fnd at h
    by_cases hp : p.1 = k
    · simp [hp] at h
      obtain ⟨rfl, rfl⟩ := h
      exact ⟨by simp [put, hp], p, rfl, hp⟩
    · simp [hp] at h
      obtain ⟨j', h1, rfl⟩ := h
      obtain ⟨e, p', h2, h3⟩ := put_some k v c l j' v0 h1
      exact ⟨by simp [put, hp, e], p', by simpa using h2, h3⟩
theorem lk_put (k k' : K) (v : Value) (c : Nat) : ∀ l : List (K × Value × Nat), lk k' (put k v c l) = if k' = k then some v else lk k' l
  | [] => by
    by_cases h : k' = k
    · simp [put, lk, fnd, h]
    · simp [put, lk, fnd, h, Ne.symm h]
  | p :: l => by
    have ih := lk_put k k' v c l
    unfold lk at ih ⊢
    by_cases hp : p.1 = k
    · by_cases h : k' = k
      · simp [put, fnd, hp, h]
      · simp [put, fnd, hp, h, Ne.symm h]
    · by_cases h : p.1 = k'
      · have : ¬ k' = k := fun e => hp (h.trans e)
        simp [put, fnd, h, this]
      · simp only [put, hp, if_false, fnd, h]
        rw [Option.map_map, Option.map_map]
        exact ih

def ent (ky : K → Value) (p : K × Value × Nat) : MapEntry := ⟨ky p.1, p.2.1, p.2.2⟩

/-- What the model must answer about keys of this form. -/
structure KeyOk (P : Program) (kt : TypeId) (ky : K → Value) : Prop where
  check : ∀ (w : World) (em : Bool) (k : K), (Instr.checkKey em 10000 kt (ky k)).run P w = .ok () w
  find : ∀ (w : World) (k : K) (l : List (K × Value × Nat)), (Instr.findKey kt (ky k) (l.map (ent ky))).run P w = .ok (fnd k l) w
  bits : ∀ k, Instr.sameBits 10000 (ky k) (ky k) = true

/-- The block b is a map that answers L. -/
def MapAt (ky : K → Value) (w : World) (b : Nat) (L : K → Option Value) : Prop :=
  ∃ (es : Array MapEntry) (clock : Nat) (l : List (K × Value × Nat)), w.heap[b]? = some (.map es clock) ∧ es.toList = l.map (ent ky) ∧ ∀ k, lk k l = L k

theorem MapAt.new (ky : K → Value) (w : World) : MapAt ky (w.alloc (.map #[] 0)) w.heap.size (fun _ => none) :=
  ⟨#[], 0, [], heap_alloc_new w _, rfl, fun _ => rfl⟩
theorem MapAt.lt {ky : K → Value} {w : World} {b : Nat} {L : K → Option Value} (h : MapAt ky w b L) : b < w.heap.size := by
  obtain ⟨es, c, l, h1, _⟩ := h
  exact (Array.getElem?_eq_some_iff.1 h1).1
theorem MapAt.of_block {ky : K → Value} {w w' : World} {b : Nat} {L : K → Option Value} (h : MapAt ky w b L) (e : w'.heap[b]? = w.heap[b]?) : MapAt ky w' b L := by
  obtain ⟨es, c, l, h1, h2⟩ := h
  exact ⟨es, c, l, e.trans h1, h2⟩

theorem MapAt.update {P : Program} {mty kt et : TypeId} {ky : K → Value} (ok : KeyOk P kt ky) (hm : P.underlying mty = some (.map kt et)) {w : World} {b : Nat} {L : K → Option Value} (h : MapAt ky w b L) (k : K) (v : Value) :
    ∃ w', (Instr.mapUpdate mty (.map (some b)) (ky k) v).run P w = .ok () w' ∧ MapAt ky w' b (fun k' => if k' = k then some v else L k') ∧ w.grownBy w' (some b) := by
  obtain ⟨es, c, l, hb, hes, hL⟩ := h
  have hf : (Instr.findKey kt (ky k) es.toList).run P w = .ok (fnd k l) w := by rw [hes]; exact ok.find w k l
  have hgrow : ∀ o : Obj, w.grownBy { w with heap := w.heap.setIfInBounds b o } (some b) := fun o =>
    ⟨rfl, rfl, rfl, by simp, fun j _ hj => (MapKept.heap_set hb).2 j (fun e => hj (by rw [e]))⟩
  cases hfd : fnd k l with
  | none =>
    refine ⟨{ w with heap := w.heap.setIfInBounds b (.map (es.push { key := ky k, val := v, born := c }) (c + 1)) }, ?_, ⟨_, _, put k v c l, (MapKept.heap_set hb).1, ?_, fun k' => ?_⟩, hgrow _⟩
    · simp [Instr.mapUpdate, run_underlying hm, MapKept.run_getObj_map hb, ok.check, hf, hfd, MapKept.run_setObj_map _ hb, Result.andThen]
    · rw [put_none k v c l hfd, Array.toList_push, hes]; simp [ent]
    · rw [lk_put, hL]
  | some q =>
    obtain ⟨j, v0⟩ := q
    obtain ⟨hp, p, hj, hpk⟩ := put_some k v c l j v0 hfd
    have hej : es[j]? = some (ent ky p) := by
      rw [← Array.getElem?_toList, hes, List.getElem?_map, hj]; rfl
    have hkey : ((es[j]?).map (·.key)).getD (ky k) = ky k := by rw [hej]; simp [ent, hpk]
    have hst : (Instr.keyThatStays (ky k) (ky k)).run P w = .ok (ky k) w := by simp [Instr.keyThatStays, ok.bits]
    refine ⟨{ w with heap := w.heap.setIfInBounds b (.map (es.modify j fun e => { e with key := ky k, val := v }) c) }, ?_, ⟨_, _, put k v c l, (MapKept.heap_set hb).1, ?_, fun k' => ?_⟩, hgrow _⟩
    · simp only [Instr.mapUpdate, Sem.run_bind, run_underlying hm, MapKept.run_getObj_map hb, ok.check, hf, hfd, Result.andThen, hkey, hst, MapKept.run_setObj_map _ hb]
    · rw [hp, Array.toList_modify, hes]
      apply List.ext_getElem?
      intro i
      simp only [List.getElem?_modify, List.getElem?_map]
      cases hi : l[i]? with
      | none => simp
      | some x => by_cases e : j = i <;> simp [e, ent]
    · rw [lk_put, hL]

theorem MapAt.look {P : Program} {mty kt et : TypeId} {ky : K → Value} (ok : KeyOk P kt ky) (hm : P.underlying mty = some (.map kt et)) {i : TypeInfo} {z : Value} (hi : P.info? et = some i) (hz : i.zero = some z) {w : World} {b : Nat} {L : K → Option Value} (h : MapAt ky w b L) (k : K) (cm : Bool) :
    (Instr.lookup mty (.map (some b)) (ky k) cm).run P w = .ok (if cm then .tuple #[(L k).getD z, .bool (L k).isSome] else (L k).getD z) w := by
  obtain ⟨es, c, l, hb, hes, hL⟩ := h
  have hf : (Instr.findKey kt (ky k) es.toList).run P w = .ok (fnd k l) w := by rw [hes]; exact ok.find w k l
  have hLk := hL k
  unfold lk at hLk
  have hzv : (zeroValue et).run P w = .ok z w := by simp [zeroValue, typeInfo, hi, hz]
  simp only [Instr.lookup, Sem.run_bind, run_underlying hm, MapKept.run_getObj_map hb, ok.check, Result.andThen]
  cases hfd : fnd k l with
  | none =>
    rw [hfd] at hLk
    rw [← hLk]
    cases cm <;> simp [hf, hfd, hzv]
  | some q =>
    rw [hfd] at hLk
    rw [← hLk]
    cases cm <;> simp [hf, hfd]
end

/-- String keys. -/
theorem keyOk_string {P : Program} {kt : TypeId} (h : P.underlying kt = some .string) : KeyOk P kt Value.string where
  check w em k := MapKept.run_checkKey (k := .string k) h (by simp [MapKept.IsKey]) em 9999
  find w k l := by
    refine MapKept.run_findKey h ?_
    have : ∀ (l : List (ByteArray × Value × Nat)) (i : Nat), Instr.findNow .string (.string k) (l.map (ent Value.string)) i = some ((fnd k l).map fun q => (q.1 + i, q.2)) := by
      intro l
      induction l with
      | nil => intro i; rfl
      | cons p l ih =>
        intro i
        by_cases hp : p.1 = k
        · simp [Instr.findNow, Instr.sameNow, ent, fnd, hp, (MapKept.bytes_beq k k).2 rfl]
        · have hne : (k == p.1) = false := by
            cases hb : k == p.1 with
            | false => rfl
            | true => exact absurd ((MapKept.bytes_beq _ _).1 hb).symm hp
          simp [Instr.findNow, Instr.sameNow, ent, fnd, hp, hne]
          rw [ih (i + 1)]
          cases fnd k l with
          | none => rfl
          | some q => simp; omega
    rw [this l 0]
    simp
  bits k := by simp [Instr.sameBits, (MapKept.bytes_beq k k).2 rfl]
end Go.Proofs.Qxb6605991a
