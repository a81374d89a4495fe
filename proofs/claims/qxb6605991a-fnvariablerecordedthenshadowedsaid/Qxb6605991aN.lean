/-
  Keys of the struct type keyRef.
-/
import Derived.Test.Qxb6605991aM
namespace Go.Proofs.Qxb6605991a
open Go.RowKit

theorem Try.info45 : (Try.prog.info? 45).map (fun i => (i.zero, i.size, i.bytes)) = some (some (.agg #[.string ByteArray.empty, .int .i64 0, .string ByteArray.empty]), 3, 40) := by kernel_rfl
theorem Try.info38 : (Try.prog.info? 38).map (fun i => (i.zero, i.size, i.bytes)) = some (some (.agg #[.string ByteArray.empty, .map none, .map none]), 3, 32) := by kernel_rfl
theorem Try.info20 : (Try.prog.info? 20).map (fun i => (i.zero, i.size, i.bytes)) = some (some (.nilIface), 1, 16) := by kernel_rfl
theorem Try.info9 : (Try.prog.info? 9).map (fun i => (i.zero, i.size, i.bytes)) = some (some (.string ByteArray.empty), 1, 16) := by kernel_rfl
theorem Try.info22 : (Try.prog.info? 22).map (fun i => (i.zero, i.size, i.bytes)) = some (some (.slice none 0 0), 1, 24) := by kernel_rfl
theorem Try.info3 : (Try.prog.info? 3).map (fun i => (i.zero, i.size, i.bytes)) = some (some (.int .i64 0), 1, 8) := by kernel_rfl
theorem Try.st45 : Try.prog.stoodInHeld 45 = false := by kernel_rfl
theorem Try.plain9 : Try.prog.plainKey 9 = true := by kernel_rfl
theorem Try.plain3 : Try.prog.plainKey 3 = true := by kernel_rfl
theorem Try.struct45 : Try.prog.underlying 45 = some (.struct (Try.prog.fieldsOf 45)) := by kernel_rfl

/-- A key of 'vars'. -/
def kref (q : ByteArray × Int) : Value := .agg #[.string q.1, .int .i64 q.2, .string ByteArray.empty]

theorem bytes_beq_decide (a b : ByteArray) : (a == b) = decide (a = b) := by
  by_cases h : a = b
  · rw [decide_eq_true h]; exact (MapKept.bytes_beq a b).2 h
  · rw [decide_eq_false h]
    cases hb : a == b with
    | false => rfl
    | true => exact absurd ((MapKept.bytes_beq _ _).1 hb) h

theorem eq9 (d : Nat) (x y : ByteArray) (w : World) : (Op.equalIn (d + 1) 9 (.string x) (.string y)).run Try.prog w = .ok (decide (x = y)) w := by
  simp [Op.equalIn, run_underlying Try.underlying9, bytes_beq_decide]
theorem eq3 (d : Nat) (x y : Int) (w : World) : (Op.equalIn (d + 1) 3 (.int .i64 x) (.int .i64 y)).run Try.prog w = .ok (x == y) w := by
  simp [Op.equalIn, run_underlying Try.underlying3]
theorem ck9 (em : Bool) (d : Nat) (x : ByteArray) (w : World) : (Instr.checkKey em (d + 1) 9 (.string x)).run Try.prog w = .ok () w := by
  simp [Instr.checkKey, run_underlying Try.underlying9]
theorem ck3 (em : Bool) (d : Nat) (x : Int) (w : World) : (Instr.checkKey em (d + 1) 3 (.int .i64 x)).run Try.prog w = .ok () w := by
  simp [Instr.checkKey, run_underlying Try.underlying3]

theorem run_equal_kref (w : World) (a b : ByteArray × Int) : (Op.equal 45 (kref a) (kref b)).run Try.prog w = .ok (decide (b = a)) w := by
  have e1 : ∀ (x y : ByteArray), (Op.equalIn 9999 9 (.string x) (.string y)).run Try.prog w = .ok (decide (x = y)) w := fun x y => eq9 9998 x y w
  have e2 : ∀ (x y : Int), (Op.equalIn 9999 3 (.int .i64 x) (.int .i64 y)).run Try.prog w = .ok (x == y) w := fun x y => eq3 9998 x y w
  have p0 : ∀ q : ByteArray × Int, (part 9 #[.string q.1, .int .i64 q.2, .string ByteArray.empty] 0).run Try.prog w = .ok (.string q.1) w := fun q => run_part_plain w Try.plain9 rfl
  have p1 : ∀ q : ByteArray × Int, (part 3 #[.string q.1, .int .i64 q.2, .string ByteArray.empty] 1).run Try.prog w = .ok (.int .i64 q.2) w := fun q => run_part_plain w Try.plain3 rfl
  have p2 : ∀ q : ByteArray × Int, (part 9 #[.string q.1, .int .i64 q.2, .string ByteArray.empty] 2).run Try.prog w = .ok (.string ByteArray.empty) w := fun q => run_part_plain w Try.plain9 rfl
  show (Op.equalIn (9999 + 1) 45 (.agg _) (.agg _)).run Try.prog w = _
  rw [run_equalIn_struct w 9999 45 _ _ Try.struct45 Try.st45]
  simp only [Program.fieldsOf, Try.underlying45]
  simp [Op.eqFields, p0, p1, p2, e1, e2]
  obtain ⟨a1, a2⟩ := a
  obtain ⟨b1, b2⟩ := b
  by_cases h1 : a1 = b1
  · by_cases h2 : a2 = b2
    · subst h1; subst h2
      simp
    · have : ¬ b2 = a2 := fun e => h2 e.symm
      simp [h1, h2, this]
  · have : ¬ b1 = a1 := fun e => h1 e.symm
    simp [h1, this]

theorem keyOk_kref : KeyOk Try.prog 45 kref where
  check w em q := by
    have c1 : ∀ (x : ByteArray), (Instr.checkKey em 9999 9 (.string x)).run Try.prog w = .ok () w := fun x => ck9 em 9998 x w
    have c2 : ∀ (x : Int), (Instr.checkKey em 9999 3 (.int .i64 x)).run Try.prog w = .ok () w := fun x => ck3 em 9998 x w
    have p0 : (part 9 #[.string q.1, .int .i64 q.2, .string ByteArray.empty] 0).run Try.prog w = .ok (.string q.1) w := run_part_plain w Try.plain9 rfl
    have p1 : (part 3 #[.string q.1, .int .i64 q.2, .string ByteArray.empty] 1).run Try.prog w = .ok (.int .i64 q.2) w := run_part_plain w Try.plain3 rfl
    have p2 : (part 9 #[.string q.1, .int .i64 q.2, .string ByteArray.empty] 2).run Try.prog w = .ok (.string ByteArray.empty) w := run_part_plain w Try.plain9 rfl
    show (Instr.checkKey em (9999 + 1) 45 (kref q)).run Try.prog w = _
    unfold Instr.checkKey
    simp only [kref, Sem.run_bind, run_underlying Try.underlying45, Result.andThen_ok]
    rw [← Array.forIn_toList]
    simp [p0, p1, p2, c1, c2]
  find w k l := by
    rw [run_findKey_eq w (by kernel_rfl) (kref k)]
    have : ∀ (l : List ((ByteArray × Int) × Value × Nat)) (i : Nat), (Instr.findAsking 45 (kref k) (l.map (ent kref)) i).run Try.prog w = .ok ((fnd k l).map fun q => (q.1 + i, q.2)) w := by
      intro l
      induction l with
      | nil => intro i; simp [Instr.findAsking, fnd]
      | cons p l ih =>
        intro i
        simp only [List.map_cons, Instr.findAsking, Sem.run_bind, ent, run_equal_kref, Result.andThen_ok]
        by_cases hp : p.1 = k
        · simp [hp, fnd]
        · simp only [hp, decide_false, Bool.false_eq_true, if_false, fnd]
          rw [ih (i + 1)]
          cases fnd k l with
          | none => rfl
          | some q => simp; omega
    rw [this l 0]
    simp
  bits q := by
    simp [Instr.sameBits, kref, (MapKept.bytes_beq _ _).2 rfl]
end Go.Proofs.Qxb6605991a
