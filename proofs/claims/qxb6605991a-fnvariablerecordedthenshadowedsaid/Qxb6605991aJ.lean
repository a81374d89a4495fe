/-
  What the law's four questions stand on: the rows that are ready, the plain answers.
-/
import Derived.Test.Qxb6605991aI
namespace Go.Proofs.Qxb6605991a
open Go.RowKit

theorem hidT_other (f : Nat → ByteArray) (kl : Nat → Nat) (ks : Nat → Nat → ByteArray) (t k : ByteArray) : ∀ n, (∀ i, i < n → f i ≠ t) → hidT f kl ks n t k = false
  | 0, _ => rfl
  | n + 1, h => by
    have : ¬ t = f n := fun e => h n (by omega) e.symm
    simp only [hidT, this, if_false]
    exact hidT_other f kl ks t k n fun i hi => h i (by omega)
theorem hidA_other (h : ByteArray → ByteArray → Bool) (f : Nat → ByteArray) (t k : ByteArray) : ∀ n, (∀ i, i < n → f i ≠ t) → hidA h f n t k = h t k
  | 0, _ => rfl
  | n + 1, hn => by
    have : ¬ t = f n := fun e => hn n (by omega) e.symm
    simp only [hidA, this, if_false]
    exact hidA_other h f t k n fun i hi => hn i (by omega)
theorem ext_self {α : Type} (F : Nat → α) (n : Nat) (v : α) : ext F n v n = v := by simp [ext]
theorem ext_lt {α : Type} (F : Nat → α) {n k : Nat} (v : α) (h : k < n) : ext F n v k = F k := by
  unfold ext
  rw [if_neg (by omega)]
theorem hid_one (f : Nat → ByteArray) (kl : Nat → Nat) (ks : Nat → Nat → ByteArray) (n : Nat) (t k : ByteArray) : hidT (ext f n t) (ext kl n 1) (ext ks n fun _ => k) (n + 1) t k = true := by
  simp only [hidT, ext_self, if_true]
  exact decide_eq_true ⟨0, by omega, trivial⟩
theorem hid_none (f : Nat → ByteArray) (kl : Nat → Nat) (ks : Nat → Nat → ByteArray) (g : Nat → ByteArray) (n : Nat) (t k : ByteArray) : hidT (ext f n t) (ext kl n 0) (ext ks n g) (n + 1) t k = false := by
  simp only [hidT, ext_self, if_true]
  exact decide_eq_false fun ⟨j, hj, _⟩ => by omega
theorem hid_array (h : ByteArray → ByteArray → Bool) (f : Nat → ByteArray) (n : Nat) (t k : ByteArray) : hidA h (ext f n t) (n + 1) t k = true := by
  simp only [hidA, ext_self, if_true]
theorem vars_last (f : Nat → ByteArray) (p : Nat → Int) (x : Nat → ByteArray) (n : Nat) (s : ByteArray) (i : Int) (v : ByteArray) : varsOf (ext f n s) (ext p n i) (ext x n v) (n + 1) (s, i) = some v := by
  simp only [varsOf, ext_self, if_true]

theorem KeysAt.below {w w' : World} {a : Option Addr} {len : Nat} {ka : Nat → Option Addr} {kl kc : Nat → Nat} {ks : Nat → Nat → ByteArray} (h : KeysAt w a len ka kl kc ks) {B : Nat} (hb : Below B w w') (hB : w.heap.size ≤ B) : KeysAt w' a len ka kl kc ks :=
  ⟨h.row.below hb hB, fun k hk => (h.rows k hk).below hb hB⟩
theorem KeysAt.snoc {w w' : World} {a a' a1 : Option Addr} {len len1 cap1 : Nat} {ka : Nat → Option Addr} {kl kc : Nat → Nat} {ks : Nat → Nat → ByteArray} {g : Nat → ByteArray} (h : KeysAt w a len ka kl kc ks) (hb : Below w.heap.size w w')
    (hr : RowAt w' a' (len + 1) (ext (fun k => .slice (ka k) (kl k) (kc k)) len (.slice a1 len1 cap1))) (h1 : RowAt w' a1 len1 fun j => .string (g j)) :
    KeysAt w' a' (len + 1) (ext ka len a1) (ext kl len len1) (ext kc len cap1) (ext ks len g) := by
  refine ⟨hr.congr fun k _ => ?_, fun k hk => ?_⟩
  · unfold ext
    by_cases e : k = len <;> simp [e]
  · by_cases e : k = len
    · subst e
      rw [ext_self, ext_self, ext_self]
      exact h1
    · rw [ext_lt _ _ (by omega), ext_lt _ _ (by omega), ext_lt _ _ (by omega)]
      exact (h.rows k (by omega)).below hb (Nat.le_refl _)

/-- All that the four questions read. -/
structure Ready (W : World) (a1 a2 a3 a4 a5 a6 : Option Addr) (n na lv : Nat) (fq fa fv fx : Nat → ByteArray) (fp : Nat → Int) (ka : Nat → Option Addr) (kl kc : Nat → Nat) (ks : Nat → Nat → ByteArray) (m : Int) : Prop where
  r1 : RowAt W a1 n fun k => .string (fq k)
  r2 : KeysAt W a2 n ka kl kc ks
  r3 : RowAt W a3 na fun k => .string (fa k)
  r4 : RowAt W a4 lv fun k => .string (fv k)
  r5 : RowAt W a5 lv fun k => .int .i64 (fp k)
  r6 : RowAt W a6 lv fun k => .string (fx k)
  mx : W.cell? ⟨0, 0, none⟩ = some (.int .i64 m)

theorem Ready.below {W W' : World} {a1 a2 a3 a4 a5 a6 : Option Addr} {n na lv : Nat} {fq fa fv fx : Nat → ByteArray} {fp : Nat → Int} {ka : Nat → Option Addr} {kl kc : Nat → Nat} {ks : Nat → Nat → ByteArray} {m : Int}
    (h : Ready W a1 a2 a3 a4 a5 a6 n na lv fq fa fv fx fp ka kl kc ks m) (hb : Below W.heap.size W W') : Ready W' a1 a2 a3 a4 a5 a6 n na lv fq fa fv fx fp ka kl kc ks m :=
  ⟨h.r1.below hb (Nat.le_refl _), h.r2.below hb (Nat.le_refl _), h.r3.below hb (Nat.le_refl _), h.r4.below hb (Nat.le_refl _), h.r5.below hb (Nat.le_refl _), h.r6.below hb (Nat.le_refl _),
    (hb.cell (World.block_lt_of_cell? W _ h.mx)).trans h.mx⟩

/-- The Origin is made: what Variable then hands back. -/
theorem OriginDone.var {w w' : World} {path : ByteArray} {h : ByteArray → ByteArray → Bool} {V : ByteArray × Int → Option ByteArray} {e : Ending} (hd : OriginDone w path h V e w') (name : ByteArray) (place : Int) (hs : name.size ≤ 1048576) {m : Int} (hm : w.cell? ⟨0, 0, none⟩ = some (.int .i64 m)) :
    ∃ fb vb, e = .returned (.agg #[.string path, .map (some fb), .map (some vb)]) ∧ Below w.heap.size w w' ∧
      Calls Try.prog 13 #[.agg #[.string path, .map (some fb), .map (some vb)], .string name, .int .i64 place] w' (VarDone w' (if h (tableOf name) (keyOf' name) then none else V (name, place))) := by
  obtain ⟨fb, vb, he, hf, hv, hb⟩ := hd
  obtain ⟨L, hL, hsay⟩ := hf.says
  exact ⟨fb, vb, he, hb, f13_any path fb vb name place hs L V _ m w' ((hb.cell (World.block_lt_of_cell? w _ hm)).trans hm) hL hv (hsay _ _)⟩

theorem RowAt.of_owns {w : World} {base g n cap : Nat} {e : TypeId} {xs : List Value} {F : Nat → Value} (h : w.ownsRow base e 1 (.slice (some ⟨g, 0, none⟩) n cap) n xs) (hx : ∀ k, k < n → xs[k]? = some (F k)) : RowAt w (some ⟨g, 0, none⟩) n F := by
  obtain ⟨_, _, cur, hg, _, hs, ht⟩ := row_of_owns h
  refine RowAt.of_cells hg fun k hk => ?_
  have := hx k hk
  rw [← ht, List.getElem?_take, if_pos (by omega), Array.getElem?_toList] at this
  exact this
end Go.Proofs.Qxb6605991a
