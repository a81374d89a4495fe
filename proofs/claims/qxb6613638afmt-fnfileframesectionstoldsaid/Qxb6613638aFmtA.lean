/-
  fmt.Sprintf, the stop that calls: at operands that are plain numbers and strings it hands back some string.
-/
import Derived.Test.Qxb6613638aFmtProg
import Derived.WalkKit
import Derived.WalkSpells
import Derived.Below
import Derived.Stop.CallBack
namespace Go.Proofs.Qxb6613638aFmt
open Go.RowKit Go.Extern

theorem hide {p : Prop} (h : p) : Hid p := h
theorem unhide {p : Prop} (h : Hid p) : p := h

theorem Tryf.call30 (args : Array Value) (w : World) : (callFunc 30 args).run Tryf.prog w = (FmtCalls.sprintf #[9, 72] #[9] args).run Tryf.prog w :=
  run_callFunc_next Tryf.func30 (by kernel_rfl) (by kernel_rfl) (by kernel_rfl) args w
theorem Tryf.guard (name : String) (w : World) : (FmtStop.guard name).run Tryf.prog w = .ok () w := by kernel_rfl
theorem Tryf.nextTurns : Extern.next FmtCalls.turnsRow = some (FmtCalls.begun #[] #[]) := by kernel_rfl

/-- An operand that is a number or a string of a type without methods. -/
def Plain (v : Value) : Prop := (∃ z : Int, v = .iface 3 (.int .i64 z)) ∨ (∃ z : Int, v = .iface 2 (.int .i64 z)) ∨ (∃ z : Int, v = .iface 93 (.int .u32 z)) ∨ ∃ s : ByteArray, v = .iface 9 (.string s)
theorem Plain.int (z : Int) : Plain (.iface 3 (.int .i64 z)) := .inl ⟨z, rfl⟩
theorem Plain.int64 (z : Int) : Plain (.iface 2 (.int .i64 z)) := .inr (.inl ⟨z, rfl⟩)
theorem Plain.uint32 (z : Int) : Plain (.iface 93 (.int .u32 z)) := .inr (.inr (.inl ⟨z, rfl⟩))
theorem Plain.string (s : ByteArray) : Plain (.iface 9 (.string s)) := .inr (.inr (.inr ⟨s, rfl⟩))

theorem plain_info (t : TypeId) (d : TypeDesc) (h : (Tryf.prog.info? t).map (fun i => (i.methods.size, i.desc)) = some (0, d)) : ∃ i, Tryf.prog.info? t = some i ∧ i.methods = #[] ∧ i.desc = d := by
  cases hi : Tryf.prog.info? t with
  | none => simp [hi] at h
  | some i =>
    simp [hi] at h
    exact ⟨i, rfl, h.1, h.2⟩

theorem act_plain (name : String) (wrap : Bool) (verb : UInt8) (sharp : Bool) {v : Value} (h : Plain v) (w : World) : (FmtCalls.act name wrap verb sharp v).run Tryf.prog w = .ok (.closed wrap) w := by
  have key : ∀ (t : TypeId) (x : Value) (d : TypeDesc), (Tryf.prog.info? t).map (fun i => (i.methods.size, i.desc)) = some (0, d) → (FmtCalls.act name wrap verb sharp (.iface t x)).run Tryf.prog w = .ok (.closed wrap) w := fun t x d hd => by
    obtain ⟨i, hi, hm, _⟩ := plain_info t d hd
    simp [FmtCalls.act, typeInfo, hi, hm]
  rcases h with ⟨z, rfl⟩ | ⟨z, rfl⟩ | ⟨z, rfl⟩ | ⟨s, rfl⟩
  · exact key _ _ (.int .i64) (by kernel_rfl)
  · exact key _ _ (.int .i64) (by kernel_rfl)
  · exact key _ _ (.int .u32) (by kernel_rfl)
  · exact key _ _ .string (by kernel_rfl)

theorem operand_plain (name : String) (wrap : Bool) (verb : UInt8) (sharp : Bool) {v : Value} (h : Plain v) (w : World) : ∃ r, (FmtStop.operand name wrap verb sharp v).run Tryf.prog w = .ok r w := by
  have key : ∀ (t : TypeId) (k : IntKind) (z : Int) (str : String), (Tryf.prog.info? t).map (fun i => (i.methods.size, i.desc)) = some (0, .int k) → Tryf.prog.underlying t = some (.int k) → (∀ w, (typeStr t).run Tryf.prog w = .ok str w) → ∃ r, (FmtStop.operand name wrap verb sharp (.iface t (.int k z))).run Tryf.prog w = .ok r w := fun t k z str hd hu hs => by
    obtain ⟨i, hi, hm, _⟩ := plain_info t _ hd
    have hbare : ∀ (ask : List String) (w : World), (FmtStop.bare ask t).run Tryf.prog w = .ok true w := fun ask w => by simp [FmtStop.bare, typeInfo, hi, hm]
    by_cases h84 : (verb == 84) = true
    · exact ⟨_, by simp [FmtStop.operand, hs, h84]; rfl⟩
    · exact ⟨_, by simp [FmtStop.operand, hs, h84, typeInfo, hi, hbare, run_underlying hu, FmtStop.shape, FmtStop.value, FmtStop.depth, Value.cells]; rfl⟩
  rcases h with ⟨z, rfl⟩ | ⟨z, rfl⟩ | ⟨z, rfl⟩ | ⟨s, rfl⟩
  · exact key _ _ _ "int" (by kernel_rfl) Tryf.underlying3 (fun w => by kernel_rfl)
  · exact key _ _ _ "int64" (by kernel_rfl) Tryf.underlying2 (fun w => by kernel_rfl)
  · exact key _ _ _ "uint32" (by kernel_rfl) Tryf.underlying93 (fun w => by kernel_rfl)
  · have hs : ∀ w, (typeStr 9).run Tryf.prog w = .ok "string" w := fun w => by kernel_rfl
    obtain ⟨i, hi, hm, _⟩ := plain_info 9 .string (by kernel_rfl)
    have hbare : ∀ (ask : List String) (w : World), (FmtStop.bare ask 9).run Tryf.prog w = .ok true w := fun ask w => by simp [FmtStop.bare, typeInfo, hi, hm]
    by_cases h84 : (verb == 84) = true
    · exact ⟨_, by simp [FmtStop.operand, hs, h84]; rfl⟩
    · exact ⟨_, by simp [FmtStop.operand, hs, h84, typeInfo, hi, hbare, run_underlying Tryf.underlying9, FmtStop.shape, FmtStop.value, FmtStop.depth, Value.cells]; rfl⟩
end Go.Proofs.Qxb6613638aFmt
