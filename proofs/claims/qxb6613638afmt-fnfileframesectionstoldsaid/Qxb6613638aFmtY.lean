/-
  What the law compares.
-/
import Derived.Test.Qxb6613638aFmtN
import Derived.Test.Qxb6613638aFmtX
import Derived.Test.Qxb6613638aFmtT
namespace Go.Proofs.Qxb6613638aFmt
open Go.RowKit Go.Extern

theorem f20_of (fb : Nat) (w : World) (S : List ByteArray) (h : Calls Tryf.prog 28 #[.pointer (some ⟨fb, 0, none⟩)] w (Found w S)) : Calls Tryf.prog 20 #[.pointer (some ⟨fb, 0, none⟩)] w (Found w S) := by
  have H := hide h
  clear h
  go_enter Tryf.func20, Tryf.ntmps20
  go_wp2_with (go_at_call 28; refine (unhide H).mono ?_)
  rintro e w1 ⟨v, rfl, h1, h2⟩
  have H1 := hide h1
  have H2 := hide h2
  clear h1 h2
  go_wp2
  go_ret
  exact ⟨_, rfl, unhide H1, unhide H2⟩

theorem FindsL.slice {w : World} {B : Nat} {v : Value} {S : List ByteArray} (h : FindsL w B v S) : ∃ a c, v = .slice a S.length c := by
  obtain ⟨xs, ho, _⟩ := h
  rcases ho.2 with ⟨rfl, h0⟩ | ⟨g, cap, cur, rfl, _⟩
  · exact ⟨none, 0, by rw [h0]⟩
  · exact ⟨_, cap, rfl⟩

theorem FindsL.get {w : World} {B : Nat} {a : Option Addr} {n c : Nat} {S : List ByteArray} (h : FindsL w B (.slice a n c) S) : ∀ k : Nat, k < S.length → ∃ (r : Nat) (s : ByteArray), a = some ⟨r, 0, none⟩ ∧ S[k]? = some s ∧
    w.cell? ⟨r, k * 3, none⟩ = some (.string s) ∧ w.cell? ⟨r, k * 3 + 1, none⟩ = some (.bool false) := by
  intro k hk
  obtain ⟨xs, ho, hc⟩ := h
  rcases ho.2 with ⟨h1, h0⟩ | ⟨g, cap, cur, h1, _⟩
  · omega
  · cases h1
    obtain ⟨e1, e2⟩ := hc k _ (List.getElem?_eq_getElem hk)
    have f1 := ho.cells (g := g) rfl _ _ e1
    have f2 := ho.cells (g := g) rfl _ _ e2
    rw [Addr.add_lit, Nat.zero_add] at f1 f2
    exact ⟨g, _, rfl, List.getElem?_eq_getElem hk, f1, f2⟩

theorem WantL.slice {w : World} {B : Nat} {v : Value} {S : List ByteArray} (h : WantL w B v S) : ∃ a c, v = .slice a S.length c := by
  rcases h.2 with ⟨rfl, h0⟩ | ⟨g, cap, cur, rfl, _⟩
  · exact ⟨none, 0, by rw [h0]⟩
  · exact ⟨_, cap, rfl⟩

theorem WantL.get {w : World} {B : Nat} {a : Option Addr} {n c : Nat} {S : List ByteArray} (h : WantL w B (.slice a n c) S) : ∀ k : Nat, k < S.length → ∃ (r : Nat) (s : ByteArray), a = some ⟨r, 0, none⟩ ∧ S[k]? = some s ∧ w.cell? ⟨r, k, none⟩ = some (.string s) := by
  intro k hk
  rcases h.2 with ⟨h1, h0⟩ | ⟨g, cap, cur, h1, _⟩
  · omega
  · cases h1
    have f1 := World.ownsRow.cells h (g := g) rfl k (.string S[k]) (by rw [List.getElem?_map, List.getElem?_eq_getElem hk]; rfl)
    rw [Addr.add_lit, Nat.zero_add] at f1
    exact ⟨g, _, rfl, List.getElem?_eq_getElem hk, f1⟩

/-- A block's lists as they came in. -/
structure RawAt (w : World) (x : Nat → Option Addr) (l : Nat → Nat) (tf tg th nf f g : Nat → Int) : Prop where
  n2 : x 2 = none → l 2 = 0
  n4 : x 4 = none → l 4 = 0
  types : TypesAt w (x 2) (l 2) tf tg th
  nums : NumsAt w (x 0) (l 0) nf
  leaps : LeapsAt w (x 4) (l 4) f g

theorem Short7.at {l : Nat → Nat} (h : Short7 l) : ∀ k, k < 7 → l k ≤ 1048576 := by
  obtain ⟨h0, h1, h2, h3, h4, h5, h6⟩ := h
  intro k hk
  match k, hk with
  | 0, _ => exact h0
  | 1, _ => exact h1
  | 2, _ => exact h2
  | 3, _ => exact h3
  | 4, _ => exact h4
  | 5, _ => exact h5
  | 6, _ => exact h6

theorem RawAt.zat {w w' : World} {x : Nat → Option Addr} {l c : Nat → Nat} {tf tg th nf f g : Nat → Int} (h : RawAt w x l tf tg th nf f g) (hb : Below w.heap.size w w') {zb zo : Nat} (hc : ∀ k, k < 7 → w'.cell? ⟨zb, zo + k, none⟩ = some (.slice (x k) (l k) (c k))) (hs : Short7 l) : ZAt w' zb zo x l c tf tg th nf f g :=
  ⟨⟨hc, hs.at⟩, h.n2, h.n4, h.types.below hb rfl, h.nums.below hb rfl, h.leaps.below hb rfl⟩

theorem cells7 {w : World} {R : Nat} {x : Nat → Option Addr} {l c : Nat → Nat} (h : w.heap[R]? = some (.cells #[.slice (x 0) (l 0) (c 0), .slice (x 1) (l 1) (c 1), .slice (x 2) (l 2) (c 2), .slice (x 3) (l 3) (c 3), .slice (x 4) (l 4) (c 4), .slice (x 5) (l 5) (c 5), .slice (x 6) (l 6) (c 6)] 44 (0, 0))) :
    ∀ k, k < 7 → w.cell? ⟨R, 0 + k, none⟩ = some (.slice (x k) (l k) (c k)) := by
  intro k hk
  rw [Nat.zero_add, cell_of_row _ _ _ _ _ _ h]
  match k, hk with
  | 0, _ => rfl
  | 1, _ => rfl
  | 2, _ => rfl
  | 3, _ => rfl
  | 4, _ => rfl
  | 5, _ => rfl
  | 6, _ => rfl

theorem file_at {w : World} {R : Nat} {ver : Int} {x : Nat → Option Addr} {l c : Nat → Nat} {a2 a4 : Option Addr} {c2 c4 : Nat} {p : Option Addr} {ft : ByteArray}
    (h : w.heap[R]? = some (.cells #[.int .i64 ver, .slice (x 0) (l 0) (c 0), .slice (x 1) (l 1) (c 1), .slice a2 (l 2) c2, .slice (x 3) (l 3) (c 3), .slice a4 (l 4) c4, .slice (x 5) (l 5) (c 5), .slice (x 6) (l 6) (c 6), .pointer p, .string ft] 54 (0, 0))) (hs : Short7 l) :
    FileAt w R ver (upd x a2 a4) l (upd c c2 c4) p ft := by
  refine ⟨cell_of_row _ _ 0 _ _ _ h, ⟨fun k hk => ?_, hs.at⟩, cell_of_row _ _ 8 _ _ _ h, cell_of_row _ _ 9 _ _ _ h⟩
  rw [cell_of_row _ _ _ _ _ _ h]
  match k, hk with
  | 0, _ => rfl
  | 1, _ => rfl
  | 2, _ => rfl
  | 3, _ => rfl
  | 4, _ => rfl
  | 5, _ => rfl
  | 6, _ => rfl
end Go.Proofs.Qxb6613638aFmt
