/-
  The walk of the law.
-/
import Derived.Test.Qxb6605991aJ
import Derived.Test.Qxb6605991aD
import Derived.Maps.AppendAt
namespace Go.Proofs.Qxb6605991a
open Go.RowKit

def Law (w : World) (e : Ending) (w' : World) : Prop := e = .returned (.bool true) ∧ Below w.heap.size w w'

theorem of_not {b : Bool} (h : (!b) = false) : b = true := by cases b <;> simp_all

theorem str_eq (a b : ByteArray) : (a.toList == b.toList) = decide (a = b) := by rw [← beq_toListBytes, bytes_beq_decide]

/-- A slice of strings: where, how long, its capacity, what it holds. -/
structure KR where
  a : Option Addr
  l : Nat
  c : Nat
  f : Nat → ByteArray

/-- The names and keys that were taken over so far, in the call's own rows. -/
structure Quiet (w7 wr : World) (g2 cap : Nat) (t : ByteArray) (qn : List ByteArray) (qk : List KR) : Prop where
  len : qk.length = qn.length
  o1 : wr.ownsRow w7.heap.size 9 1 (.slice (some ⟨w7.heap.size, 0, none⟩) qn.length cap) qn.length (qn.map Value.string)
  o2 : wr.ownsRow w7.heap.size 22 1 (.slice (some ⟨g2, 0, none⟩) qn.length cap) qn.length (qk.map fun r => .slice r.a r.l r.c)
  ne : ∀ s ∈ qn, s ≠ t
  rows : ∀ r ∈ qk, RowAt w7 r.a r.l (fun j => .string (r.f j)) ∧ r.l ≤ 1048577
  below : Below w7.heap.size w7 wr
  lt : g2 < wr.heap.size
  gt : w7.heap.size < g2

/-- The arrays' names that were taken over so far. -/
structure QuietA (wq wr : World) (cap : Nat) (t : ByteArray) (qa : List ByteArray) : Prop where
  o : wr.ownsRow wq.heap.size 9 1 (.slice (some ⟨wq.heap.size, 0, none⟩) qa.length cap) qa.length (qa.map Value.string)
  ne : ∀ s ∈ qa, s ≠ t
  below : Below wq.heap.size wq wr
  lt : wq.heap.size < wr.heap.size

/-- The k-th of a list. -/
def nth (l : List ByteArray) (k : Nat) : ByteArray := l[k]?.getD ByteArray.empty
def nthK (l : List KR) (k : Nat) : KR := l[k]?.getD ⟨none, 0, 0, fun _ => ByteArray.empty⟩
theorem nth_mem (l : List ByteArray) (k : Nat) (h : k < l.length) : nth l k ∈ l := by
  unfold nth
  rw [List.getElem?_eq_getElem h]
  exact List.getElem_mem h
theorem nthK_mem (l : List KR) (k : Nat) (h : k < l.length) : nthK l k ∈ l := by
  unfold nthK
  rw [List.getElem?_eq_getElem h]
  exact List.getElem_mem h
theorem nth_map (l : List ByteArray) (k : Nat) (h : k < l.length) : (l.map Value.string)[k]? = some (.string (nth l k)) := by
  unfold nth
  rw [List.getElem?_map, List.getElem?_eq_getElem h]
  rfl
theorem nthK_map (l : List KR) (k : Nat) (h : k < l.length) : (l.map fun r => Value.slice r.a r.l r.c)[k]? = some (.slice (nthK l k).a (nthK l k).l (nthK l k).c) := by
  unfold nthK
  rw [List.getElem?_map, List.getElem?_eq_getElem h]
  rfl

/-- What was taken over, as rows. -/
theorem Quiet.names {w7 wr : World} {g2 cap : Nat} {t : ByteArray} {qn : List ByteArray} {qk : List KR} (h : Quiet w7 wr g2 cap t qn qk) : RowAt wr (some ⟨w7.heap.size, 0, none⟩) qn.length fun k => .string (nth qn k) :=
  RowAt.of_owns h.o1 fun k hk => nth_map qn k hk
theorem Quiet.keys {w7 wr : World} {g2 cap : Nat} {t : ByteArray} {qn : List ByteArray} {qk : List KR} (h : Quiet w7 wr g2 cap t qn qk) :
    KeysAt wr (some ⟨g2, 0, none⟩) qn.length (fun k => (nthK qk k).a) (fun k => (nthK qk k).l) (fun k => (nthK qk k).c) (fun k => (nthK qk k).f) :=
  ⟨RowAt.of_owns h.o2 fun k hk => nthK_map qk k (by rw [h.len]; exact hk), fun k hk => (h.rows _ (nthK_mem qk k (by rw [h.len]; exact hk))).1.below h.below (Nat.le_refl _)⟩

set_option maxRecDepth 20000 in
set_option maxHeartbeats 4000000 in
theorem f3_any (p : ByteArray) (hp : p.size ≤ 9223372036854775807) (a1 a2 a3 a4 a5 a6 : Option Addr) (l1 l2 l3 l4 l5 l6 c1 c2 c3 c4 c5 c6 : Nat) (f1 f3 f4 f6 : Nat → ByteArray) (f5 : Nat → Int) (ka : Nat → Option Addr) (kl kc : Nat → Nat) (ks : Nat → Nat → ByteArray) (nm vl : ByteArray) (pl : Int) (m : Int) (w : World)
    (h1 : RowAt w a1 l1 fun k => .string (f1 k)) (h2 : KeysAt w a2 l2 ka kl kc ks) (h3 : RowAt w a3 l3 fun k => .string (f3 k)) (h4 : RowAt w a4 l4 fun k => .string (f4 k)) (h5 : RowAt w a5 l5 fun k => .int .i64 (f5 k)) (h6 : RowAt w a6 l6 fun k => .string (f6 k))
    (hl1 : l1 ≤ 9223372036854775807) (hl2 : l2 ≤ 9223372036854775807) (hl3 : l3 ≤ 9223372036854775807) (hl4 : l4 ≤ 9223372036854775807) (hl5 : l5 ≤ 9223372036854775807) (hl6 : l6 ≤ 9223372036854775807) (hkl : ∀ k, kl k ≤ 9223372036854775807)
    (hs1 : ∀ k : Nat, (f1 k).size ≤ 9223372036854775807) (hs2 : ∀ k j : Nat, (ks k j).size ≤ 9223372036854775807) (hs3 : ∀ k : Nat, (f3 k).size ≤ 9223372036854775807) (hs4 : ∀ k : Nat, (f4 k).size ≤ 9223372036854775807) (hs6 : ∀ k : Nat, (f6 k).size ≤ 9223372036854775807)
    (hn : nm.size ≤ 9223372036854775807) (hv : vl.size ≤ 9223372036854775807) (hm : w.cell? ⟨0, 0, none⟩ = some (.int .i64 m)) :
    Calls Try.prog 3 #[.string p, .slice a1 l1 c1, .slice a2 l2 c2, .slice a3 l3 c3, .slice a4 l4 c4, .slice a5 l5 c5, .slice a6 l6 c6, .string nm, .int .i64 pl, .string vl] w (Law w) := by
  have HB := hide (f4_any p hp a1 a2 a3 a4 a5 a6 l1 l2 l3 l4 l5 l6 c1 c2 c3 c4 c5 c6 f1 f3 f4 f6 ka kl kc ks nm vl pl w h1 h2 h3 h4 h6 hl1 hl2 hl3 hl4 hl5 hl6 hkl hs1 hs2 hs3 hs4 hs6 hn hv)
  go_enter Try.func3, Try.ntmps3
  have HF5 := hide fun (hS : Small p l1 l2 kl l3 l4 l5 l6 nm vl) => f5_any ((nm.size : Int) + vl.size) (by omega) (by obtain ⟨_, _, _, _, _, _, _, _, q1, q2⟩ := hS; omega) p hS.1 a1 a2 a3 a4 a5 a6 l1 l2 l3 l4 l5 l6 c1 c2 c3 c4 c5 c6 f1 f3 f4 f6 ka kl kc ks w h1 h2 h3 h4 h6 hS.2.1 hS.2.2.1 hS.2.2.2.2.1 hS.2.2.2.2.2.1 hS.2.2.2.2.2.2.1 hS.2.2.2.2.2.2.2.1 hS.2.2.2.1 hs1 hs2 hs3 hs4 hs6
  have H1 := hide h1; have H2 := hide h2; have H3 := hide h3; have H4 := hide h4; have H5 := hide h5; have H6 := hide h6; have HM := hide hm
  clear h1 h2 h3 h4 h5 h6 hm hs1 hs2 hs3 hs4 hs6 hkl
  go_wp2_with (go_at_call 4; refine (unhide HB).mono ?_; rintro e w' ⟨⟨b, rfl, hb⟩, hw⟩; obtain rfl := hw.symm)
  all_goals try (go_ret; exact ⟨rfl, Below.refl _ _⟩)
  have hS := hb (of_not (by assumption))
  have H5' := hide (unhide HF5 hS)
  have HKL := hide hS.2.2.2.1
  obtain ⟨hp', hl1', hl2', _, hl3', hl4', hl5', hl6', hn', hv'⟩ := hS
  clear hb HF5 HB
  refine (unhide H5').mono ?_
  rintro e w' ⟨⟨b5, rfl, hb5⟩, hw⟩
  obtain rfl := hw.symm
  clear H5'
  cases b5 with
  | false =>
    go_wp2
    go_ret
    exact ⟨rfl, Below.refl _ _⟩
  | true =>
    obtain ⟨rfl, rfl, rfl⟩ := hb5 rfl
    clear hb5 hl1 hl2 hl3 hl4 hl5 hl6
    have HBW : Hid (Below w.heap.size w w) := Below.refl _ w
    have HC := hide (f6_any a1 l2 c1 _ w ((unhide H1).below (unhide HBW) (Nat.le_refl _)) (fun _ _ => rfl) (by omega))
    go_wp2_with (go_at_call 6; refine (unhide HC).mono ?_)
    rintro e w1 ⟨b1, d1, rfl, hr1, hb, _⟩
    clear HC H1
    have HR1 := hide hr1
    replace HBW := hide ((unhide HBW).trans (hb.mono (unhide HBW).size))
    clear hr1 hb
    have HC := hide (f7_any a2 l2 c2 ka kl kc ks w1 ((unhide H2).below (unhide HBW) (Nat.le_refl _)) (by omega) (unhide HKL))
    go_wp2_with (go_at_call 7; refine (unhide HC).mono ?_)
    rintro e w2 ⟨b2, d2, ka2, kc2, rfl, hr2, hb⟩
    clear HC H2
    replace HR1 := hide ((unhide HR1).below hb (Nat.le_refl _))
    have HR2 := hide hr2
    replace HBW := hide ((unhide HBW).trans (hb.mono (unhide HBW).size))
    clear hr2 hb
    have HC := hide (f6_any a3 l3 c3 _ w2 ((unhide H3).below (unhide HBW) (Nat.le_refl _)) (fun _ _ => rfl) (by omega))
    go_wp2_with (go_at_call 6; refine (unhide HC).mono ?_)
    rintro e w3 ⟨b3, d3, rfl, hr3, hb, _⟩
    clear HC H3
    replace HR1 := hide ((unhide HR1).below hb (Nat.le_refl _))
    replace HR2 := hide ((unhide HR2).below hb (Nat.le_refl _))
    have HR3 := hide hr3
    replace HBW := hide ((unhide HBW).trans (hb.mono (unhide HBW).size))
    clear hr3 hb
    have HC := hide (f6_any a4 l6 c4 _ w3 ((unhide H4).below (unhide HBW) (Nat.le_refl _)) (fun _ _ => rfl) (by omega))
    go_wp2_with (go_at_call 6; refine (unhide HC).mono ?_)
    rintro e w4 ⟨b4, d4, rfl, hr4, hb, _⟩
    clear HC H4
    replace HR1 := hide ((unhide HR1).below hb (Nat.le_refl _))
    replace HR2 := hide ((unhide HR2).below hb (Nat.le_refl _))
    replace HR3 := hide ((unhide HR3).below hb (Nat.le_refl _))
    have HR4 := hide hr4
    replace HBW := hide ((unhide HBW).trans (hb.mono (unhide HBW).size))
    clear hr4 hb
    have HC := hide (f8_any a5 l6 c5 _ w4 ((unhide H5).below (unhide HBW) (Nat.le_refl _)) (fun _ _ => rfl) (by omega))
    go_wp2_with (go_at_call 8; refine (unhide HC).mono ?_)
    rintro e w5 ⟨b5, d5, rfl, hr5, hb, _⟩
    clear HC H5
    replace HR1 := hide ((unhide HR1).below hb (Nat.le_refl _))
    replace HR2 := hide ((unhide HR2).below hb (Nat.le_refl _))
    replace HR3 := hide ((unhide HR3).below hb (Nat.le_refl _))
    replace HR4 := hide ((unhide HR4).below hb (Nat.le_refl _))
    have HR5 := hide hr5
    replace HBW := hide ((unhide HBW).trans (hb.mono (unhide HBW).size))
    clear hr5 hb
    have HC := hide (f6_any a6 l6 c6 _ w5 ((unhide H6).below (unhide HBW) (Nat.le_refl _)) (fun _ _ => rfl) (by omega))
    go_wp2_with (go_at_call 6; refine (unhide HC).mono ?_)
    rintro e w6 ⟨b6, d6, rfl, hr6, hb, _⟩
    clear HC H6
    replace HR1 := hide ((unhide HR1).below hb (Nat.le_refl _))
    replace HR2 := hide ((unhide HR2).below hb (Nat.le_refl _))
    replace HR3 := hide ((unhide HR3).below hb (Nat.le_refl _))
    replace HR4 := hide ((unhide HR4).below hb (Nat.le_refl _))
    replace HR5 := hide ((unhide HR5).below hb (Nat.le_refl _))
    have HR6 := hide hr6
    replace HBW := hide ((unhide HBW).trans (hb.mono (unhide HBW).size))
    clear hr6 hb
    have HC := hide (f9_any nm hn' w6)
    go_wp2_with (go_at_call 9; refine (unhide HC).mono ?_)
    rintro e w7 ⟨rfl, nd, hw7⟩
    have hb : Below w6.heap.size w6 w7 := by rw [hw7]; exact below_drewN (Below.refl _ _) nd
    clear HC hw7
    replace HR1 := hide ((unhide HR1).below hb (Nat.le_refl _))
    replace HR2 := hide ((unhide HR2).below hb (Nat.le_refl _))
    replace HR3 := hide ((unhide HR3).below hb (Nat.le_refl _))
    replace HR4 := hide ((unhide HR4).below hb (Nat.le_refl _))
    replace HR5 := hide ((unhide HR5).below hb (Nat.le_refl _))
    replace HR6 := hide ((unhide HR6).below hb (Nat.le_refl _))
    replace HBW := hide ((unhide HBW).trans (hb.mono (unhide HBW).size))
    clear hb nd
    obtain ⟨t, ht⟩ : ∃ t, tableOf nm = t := ⟨_, rfl⟩
    obtain ⟨q, hq⟩ : ∃ q, keyOf' nm = q := ⟨_, rfl⟩
    rw [ht, hq]
    have HT := hide ht; have HQ := hide hq
    clear ht hq
    obtain ⟨i9, hi9, hz9, hy9, hx9⟩ := info_parts Try.info9
    obtain ⟨i22, hi22, hz22, hy22, hx22⟩ := info_parts Try.info22
    go_wp2_with (at_make; refine wpList_make_own _ rfl _ _ 22 rfl w7.heap.size 9 i9 _ 1 Try.underlying22 hi9 hz9 hy9 _ _ _ l2 rfl rfl (by omega) (by rw [hx9]; omega) (by unfold maxLen; omega) (Nat.le_refl _) ?_)
    intro w8 ho1 hg8
    have hb8 : Below w7.heap.size w7 w8 := (Below.refl _ w7).grown hg8 (Nat.le_refl _) (fun k e => by cases e)
    have hlt8 : w7.heap.size < w8.heap.size := (ho1.lt _ rfl).2
    clear hg8
    go_wp2_with (at_make; refine wpList_make_own _ rfl _ _ 23 rfl w7.heap.size 22 i22 _ 1 Try.underlying23 hi22 hz22 hy22 _ _ _ l2 rfl rfl (by omega) (by rw [hx22]; omega) (by unfold maxLen; omega) (by omega) ?_)
    intro w9 ho2 hg9
    have ho1' := ho1.kept hg9 (by simp [Value.ownBlock])
    have hb9 : Below w7.heap.size w7 w9 := hb8.grown hg9 (by omega) (fun k e => by cases e)
    have hlt9 : w8.heap.size < w9.heap.size := (ho2.lt _ rfl).2
    clear hg9 hb8 ho1
    have hst : Hid (Quiet w7 w9 w8.heap.size l2 t [] []) := ⟨rfl, ho1', ho2, fun s hs => by simp at hs, fun r hr => by simp at hr, hb9, hlt9, hlt8⟩
    clear ho1' ho2 hb9 hlt9
    go_wp2
    go_loopw [23, 24, 25] (fun v23 v24 i wr => ∃ (k : Nat) (qn : List ByteArray) (qk : List KR), k ≤ l2 ∧ qn.length ≤ k ∧ i = .int .i64 k ∧ v23 = .slice (some ⟨w7.heap.size, 0, none⟩) qn.length l2 ∧ v24 = .slice (some ⟨w8.heap.size, 0, none⟩) qn.length l2 ∧ Hid (Quiet w7 wr w8.heap.size l2 t qn qk)) (fun _ _ i _ => l2 - (intOf i).toNat)
    case atStart => exact ⟨0, [], [], Nat.zero_le _, Nat.le_refl _, rfl, rfl, rfl, hst⟩
    case round =>
      obtain ⟨k, qn, qk, hk, hqk, rfl, rfl, rfl, HQU⟩ := hrel
      clear hst
      by_cases hlt : k < l2
      · rcases unhide HR1 with rfl | ⟨x1, o1, rfl, hc1⟩
        · omega
        rcases (unhide HR2).row with rfl | ⟨x2, o2, rfl, hc2⟩
        · omega
        have hin := (unhide HR2).rows k hlt
        have hn1 : wr.cell? ⟨x1, o1 + k, none⟩ = some (.string (f1 k)) := RowAt.cell hc1 (unhide HQU).below (Nat.le_refl _) k hlt
        have hn2 : wr.cell? ⟨x2, o2 + k, none⟩ = some (.slice (ka2 k) (kl k) (kc2 k)) := RowAt.cell hc2 (unhide HQU).below (Nat.le_refl _) k hlt
        have hklk := unhide HKL k hlt
        have HIN := hide hin
        have HX2 := hide (show x2 < w7.heap.size from World.block_lt_of_cell? w7 _ (hc2 k hlt))
        clear hc1 hc2 hin HR1 HR2 HR3 HR4 HR5 HR6 HKL HM HBW hz9 hx9 hz22 hx22
        by_cases hft : f1 k = t
        · have hbe : ((f1 k).toList == t.toList) = true := by rw [str_eq]; exact decide_eq_true hft
          clear hft hn2 HIN hklk
          go_wp2
          go_roundw
          case rel => exact ⟨k + 1, qn, qk, by omega, by omega, by go_num, rfl, rfl, HQU⟩
          case measure => simp [intOf]; omega
        · have hbe : ((f1 k).toList == t.toList) = false := by rw [str_eq]; exact decide_eq_false hft
          have HFT := hide hft
          clear hft
          have hlen := (unhide HQU).len
          have hoa := (unhide HQU).o1
          have hob := (unhide HQU).o2
          have hbr := (unhide HQU).below
          have hltr := (unhide HQU).lt
          have HNE := hide (unhide HQU).ne
          have HRW := hide (unhide HQU).rows
          have HLEN := hide hlen
          clear HQU hlen
          go_wp2_with (at_builtin; refine wpList_append_fits _ rfl _ _ 22 rfl w7.heap.size 9 i9 1 Try.underlying22 hi9 hy9 _ qn.length l2 _ rfl (hoa.alloc _) ⟨wr.heap.size, 0, none⟩ 1 1 [.string (f1 k)] rfl rfl (cell_one_new _ _ _) (by simp [Value.oneCell']) (by omega) ?_)
          intro wA hoA hgA
          have hob2 := (hob.alloc (.cells #[.string (f1 k)] 9)).kept hgA (by simp [Value.ownBlock]; omega)
          have hbA : Below w7.heap.size w7 wA := (hbr.alloc (by omega) _).grown hgA (by simp; omega) (fun _ e => by cases e; exact Nat.le_refl _)
          have hltA : w8.heap.size < wA.heap.size := by have := hgA.size; simp at this; omega
          have hn2' : wA.cell? ⟨x2, o2 + k, none⟩ = some (.slice (ka2 k) (kl k) (kc2 k)) := by
            rw [hbA.cell (p := ⟨x2, o2 + k, none⟩) (unhide HX2), ← hbr.cell (p := ⟨x2, o2 + k, none⟩) (unhide HX2)]
            exact hn2
          clear hoa hob hbr hltr hgA hn1 hn2
          go_wp2_with (at_builtin; refine wpList_append_fits _ rfl _ _ 23 rfl w7.heap.size 22 i22 1 Try.underlying23 hi22 hy22 _ qn.length l2 _ rfl (hob2.alloc _) ⟨wA.heap.size, 0, none⟩ 1 1 [.slice (ka2 k) (kl k) (kc2 k)] rfl rfl (cell_one_new _ _ _) (by simp [Value.oneCell']) (by omega) ?_)
          intro wB hoB hgB
          have hoA2 := (hoA.alloc (.cells #[.slice (ka2 k) (kl k) (kc2 k)] 22)).kept hgB (by simp [Value.ownBlock]; omega)
          have hbB : Below w7.heap.size w7 wB := (hbA.alloc (by omega) _).grown hgB (by simp; omega) (fun _ e => by cases e; omega)
          have hltB : w8.heap.size < wB.heap.size := by have := hgB.size; simp at this; omega
          have hst : Hid (Quiet w7 wB w8.heap.size l2 t (qn ++ [f1 k]) (qk ++ [⟨ka2 k, kl k, kc2 k, ks k⟩])) := by
            refine ⟨by simp [unhide HLEN], by simpa using hoA2, by simpa using hoB, fun s hs => ?_, fun r hr => ?_, hbB, hltB, hlt8⟩
            · rcases List.mem_append.1 hs with h | h
              · exact unhide HNE s h
              · simp at h; subst h; exact unhide HFT
            · rcases List.mem_append.1 hr with h | h
              · exact unhide HRW r h
              · simp at h; subst h; exact ⟨unhide HIN, show kl k ≤ 1048577 by omega⟩
          clear hoA2 hoB hbB hltB hgB hbA hltA hoA hob2 hn2' HNE HRW HLEN HFT HIN hbe
          go_wp2
          go_roundw
          case rel => exact ⟨k + 1, qn ++ [f1 k], _, by omega, by simp; omega, by go_num, by simp, by simp, hst⟩
          case measure => simp [intOf]; omega
      · obtain rfl : k = l2 := by omega
        obtain ⟨wq, hwq⟩ : ∃ x, x = wr := ⟨_, rfl⟩
        subst hwq
        have hqb := (unhide HQU).below
        replace HR3 := hide ((unhide HR3).below hqb (Nat.le_refl _))
        replace HR4 := hide ((unhide HR4).below hqb (Nat.le_refl _))
        replace HR5 := hide ((unhide HR5).below hqb (Nat.le_refl _))
        replace HR6 := hide ((unhide HR6).below hqb (Nat.le_refl _))
        replace HBW := hide ((unhide HBW).trans (hqb.mono (unhide HBW).size))
        have HNM := hide (unhide HQU).names
        have HKY := hide (unhide HQU).keys
        have HNE := hide fun i hi => (unhide HQU).ne _ (nth_mem qn i hi)
        have HKS : Hid (∀ i, i < qn.length → (nthK qk i).l ≤ 1048577) := fun i hi => ((unhide HQU).rows _ (nthK_mem qk i (by rw [(unhide HQU).len]; exact hi))).2
        clear HR1 HR2 HQU HKL hqb hlt8 hlt hk
        generalize nth qn = fq at *
        generalize nthK qk = kq at *
        obtain ⟨n, hqn⟩ : ∃ n, n = qn.length := ⟨_, rfl⟩
        rw [← hqn] at HNM HKY HNE HKS hqk ⊢
        clear hqn
        go_wp2_with (at_make; refine wpList_make_own _ rfl _ _ 22 rfl wq.heap.size 9 i9 _ 1 Try.underlying22 hi9 hz9 hy9 _ _ _ l3 rfl rfl (by omega) (by rw [hx9]; omega) (by unfold maxLen; omega) (Nat.le_refl _) ?_)
        intro w10 ho3 hg10
        have hst : Hid (QuietA wq w10 l3 t []) := ⟨ho3, fun s hs => by simp at hs, (Below.refl _ wq).grown hg10 (Nat.le_refl _) (fun k e => by cases e), (ho3.lt _ rfl).2⟩
        clear ho3 hg10
        go_wp2
        go_loopw [26, 27] (fun v26 i wr => ∃ (j : Nat) (qa : List ByteArray), j ≤ l3 ∧ qa.length ≤ j ∧ i = .int .i64 j ∧ v26 = .slice (some ⟨wq.heap.size, 0, none⟩) qa.length l3 ∧ Hid (QuietA wq wr l3 t qa)) (fun _ i _ => l3 - (intOf i).toNat)
        case atStart => exact ⟨0, [], Nat.zero_le _, Nat.le_refl _, rfl, rfl, hst⟩
        case round =>
          obtain ⟨j, qa, hj, hqa, rfl, rfl, HQA⟩ := hrel
          clear hst
          by_cases hltj : j < l3
          · rcases unhide HR3 with rfl | ⟨x3, o3, rfl, hc3⟩
            · omega
            have hn3 : wr.cell? ⟨x3, o3 + j, none⟩ = some (.string (f3 j)) := RowAt.cell hc3 (unhide HQA).below (Nat.le_refl _) j hltj
            clear hc3 HR3 HR4 HR5 HR6 HM HBW HNM HKY HNE HKS
            by_cases hft : f3 j = t
            · have hbe : ((f3 j).toList == t.toList) = true := by rw [str_eq]; exact decide_eq_true hft
              clear hft
              go_wp2
              go_roundw
              case rel => exact ⟨j + 1, qa, by omega, by omega, by go_num, rfl, HQA⟩
              case measure => simp [intOf]; omega
            · have hbe : ((f3 j).toList == t.toList) = false := by rw [str_eq]; exact decide_eq_false hft
              have HFT := hide hft
              clear hft
              have hoa := (unhide HQA).o
              have hbr := (unhide HQA).below
              have hltr := (unhide HQA).lt
              have HNE := hide (unhide HQA).ne
              clear HQA
              go_wp2_with (at_builtin; refine wpList_append_fits _ rfl _ _ 22 rfl wq.heap.size 9 i9 1 Try.underlying22 hi9 hy9 _ qa.length l3 _ rfl (hoa.alloc _) ⟨wr.heap.size, 0, none⟩ 1 1 [.string (f3 j)] rfl rfl (cell_one_new _ _ _) (by simp [Value.oneCell']) (by omega) ?_)
              intro wA hoA hgA
              have hst : Hid (QuietA wq wA l3 t (qa ++ [f3 j])) := by
                refine ⟨by simpa using hoA, fun s hs => ?_, (hbr.alloc (by omega) _).grown hgA (by simp; omega) (fun _ e => by cases e; exact Nat.le_refl _), by have := hgA.size; simp at this; omega⟩
                rcases List.mem_append.1 hs with h | h
                · exact unhide HNE s h
                · simp at h; subst h; exact unhide HFT
              clear hoa hbr hltr hgA hn3 hoA HNE HFT hbe
              go_wp2
              go_roundw
              case rel => exact ⟨j + 1, qa ++ [f3 j], by omega, by simp; omega, by go_num, by simp, hst⟩
              case measure => simp [intOf]; omega
          · obtain rfl : j = l3 := by omega
            obtain ⟨wa, hwa⟩ : ∃ x, x = wr := ⟨_, rfl⟩
            subst hwa
            have hab := (unhide HQA).below
            replace HR4 := hide ((unhide HR4).below hab (Nat.le_refl _))
            replace HR5 := hide ((unhide HR5).below hab (Nat.le_refl _))
            replace HR6 := hide ((unhide HR6).below hab (Nat.le_refl _))
            replace HBW := hide ((unhide HBW).trans (hab.mono (unhide HBW).size))
            replace HNM := hide ((unhide HNM).below hab (Nat.le_refl _))
            replace HKY := hide ((unhide HKY).below hab (Nat.le_refl _))
            have HAR := hide (show RowAt wa (some ⟨wq.heap.size, 0, none⟩) qa.length fun k => .string (nth qa k) from RowAt.of_owns (unhide HQA).o fun k hk => nth_map qa k hk)
            have HNA := hide fun i hi => (unhide HQA).ne _ (nth_mem qa i hi)
            clear HR3 HQA hab hltj hj
            generalize nth qa = fa at *
            obtain ⟨na, hna⟩ : ∃ n, n = qa.length := ⟨_, rfl⟩
            rw [← hna] at HAR HNA hqa ⊢
            clear hna
            have HC := hide (f10_any b4 l6 d4 _ nm wa (unhide HR4) (fun _ _ => rfl) (by omega))
            go_wp2_with (go_at_call 10; refine (unhide HC).mono ?_)
            rintro e wb ⟨v4, e4, rfl, hr4, hb, _⟩
            rw [ext_map] at hr4
            have HC := hide (f11_any b5 l6 d5 _ pl wb ((unhide HR5).below hb (Nat.le_refl _)) (fun _ _ => rfl) (by omega))
            go_wp2_with (go_at_call 11; refine (unhide HC).mono ?_)
            rintro e wc ⟨v5, e5, rfl, hr5, hb', _⟩
            rw [ext_map (Value.int .i64)] at hr5
            have hbc : Below wa.heap.size wa wc := hb.trans (hb'.mono hb.size)
            replace hr4 := hr4.below hb' (Nat.le_refl _)
            have HC := hide (f10_any b6 l6 d6 _ vl wc ((unhide HR6).below hbc (Nat.le_refl _)) (fun _ _ => rfl) (by omega))
            clear hb hb'
            go_wp2_with (go_at_call 10; refine (unhide HC).mono ?_)
            rintro e wd ⟨v6, e6, rfl, hr6, hb, _⟩
            rw [ext_map] at hr6
            have hbd : Below wa.heap.size wa wd := hbc.trans (hb.mono hbc.size)
            replace hr4 := hr4.below hb (Nat.le_refl _)
            replace hr5 := hr5.below hb (Nat.le_refl _)
            replace HBW := hide ((unhide HBW).trans (hbd.mono (unhide HBW).size))
            have HRD : Hid (Ready wd (some ⟨w7.heap.size, 0, none⟩) (some ⟨w8.heap.size, 0, none⟩) (some ⟨wq.heap.size, 0, none⟩) v4 v5 v6 n na (l6 + 1) fq fa (ext f4 l6 nm) (ext f6 l6 vl) (ext f5 l6 pl) (fun k => (kq k).a) (fun k => (kq k).l) (fun k => (kq k).c) (fun k => (kq k).f) m) :=
              ⟨(unhide HNM).below hbd (Nat.le_refl _), (unhide HKY).below hbd (Nat.le_refl _), (unhide HAR).below hbd (Nat.le_refl _), hr4, hr5, hr6, ((unhide HBW).cell (World.block_lt_of_cell? w _ (unhide HM))).trans (unhide HM)⟩
            clear hr4 hr5 hr6 hb hbc hbd HC HR4 HR5 HR6 HNM HKY HAR HM hi9 hz9 hy9 hx9 hi22 hz22 hy22 hx22
            have HC := hide (f12_any p (some ⟨w7.heap.size, 0, none⟩) (some ⟨w8.heap.size, 0, none⟩) (some ⟨wq.heap.size, 0, none⟩) v4 v5 v6 n n na (l6 + 1) (l6 + 1) (l6 + 1) k k j e4 e5 e6 fq fa (ext f4 l6 nm) (ext f6 l6 vl) (ext f5 l6 pl) (fun k => (kq k).a) (fun k => (kq k).l) (fun k => (kq k).c) (fun k => (kq k).f) wd (unhide HRD).r1 (unhide HRD).r2 (unhide HRD).r3 (unhide HRD).r4 (unhide HRD).r5 (unhide HRD).r6 (by omega) rfl (by omega) (by omega) rfl rfl (unhide HKS))
            go_wp2_with (go_at_call 12; refine (unhide HC).mono ?_)
            rintro e wx1 hd
            obtain ⟨fb1, vb1, rfl, hb, hcv⟩ := hd.var nm pl hn' (unhide HRD).mx
            have hres : (if hidA (hidT fq (fun k => (kq k).l) (fun k => (kq k).f) n) fa na (tableOf nm) (keyOf' nm) then none else varsOf (ext f4 l6 nm) (ext f5 l6 pl) (ext f6 l6 vl) (l6 + 1) (nm, pl)) = some vl := by
              rw [unhide HT, unhide HQ, hidA_other _ _ _ _ _ (unhide HNA), hidT_other _ _ _ _ _ _ (unhide HNE), vars_last]
              rfl
            rw [hres] at hcv
            clear hres hd HC
            have HCV := hide hcv
            clear hcv
            replace HRD := hide ((unhide HRD).below hb)
            replace HBW := hide ((unhide HBW).trans (hb.mono (unhide HBW).size))
            clear hb
            go_wp2_with (go_at_call 13; refine (unhide HCV).mono ?_)
            rintro e wy1 ⟨rfl, hb⟩
            clear HCV
            replace HRD := hide ((unhide HRD).below hb)
            replace HBW := hide ((unhide HBW).trans (hb.mono (unhide HBW).size))
            clear hb
            have HC := hide (f10_any (some ⟨w7.heap.size, 0, none⟩) n k _ t wy1 (unhide HRD).r1 (fun _ _ => rfl) (by omega))
            go_wp2_with (go_at_call 10; refine (unhide HC).mono ?_)
            rintro e wn2 ⟨y2, g2, rfl, hry, hb, _⟩
            rw [ext_map] at hry
            have HRY := hide hry
            clear hry HC
            replace HRD := hide ((unhide HRD).below hb)
            replace HBW := hide ((unhide HBW).trans (hb.mono (unhide HBW).size))
            clear hb
            obtain ⟨wl2, hwl⟩ : ∃ W, wn2.alloc (.cells #[.string q] 9) = W := ⟨_, rfl⟩
            have hbl : Below wn2.heap.size wn2 wl2 := by rw [← hwl]; exact (Below.refl _ wn2).alloc (Nat.le_refl _) _
            have hrl : RowAt wl2 (some ⟨wn2.heap.size, 0, none⟩) 1 (fun _ => .string q) := by
              rw [← hwl]
              exact RowAt.of_cells (heap_alloc_new wn2 (.cells #[.string q] 9)) (fun j hj => by
                obtain rfl : j = 0 := by omega
                rfl)
            have HRL := hide hrl
            clear hrl
            replace HRY := hide ((unhide HRY).below hbl (Nat.le_refl _))
            replace HRD := hide ((unhide HRD).below hbl)
            replace HBW := hide ((unhide HBW).trans (hbl.mono (unhide HBW).size))
            clear hbl
            have HC := hide (f14_any (some ⟨w8.heap.size, 0, none⟩) n k _ (some ⟨wn2.heap.size, 0, none⟩) 1 1 wl2 (unhide HRD).r2.row (fun _ _ => rfl) (by omega))
            go_wp2_with (go_at_call 14; refine (unhide HC).mono ?_)
            rintro e wk2 ⟨z2, s2, rfl, hrz, hb, _⟩
            have HKZ := hide ((unhide HRD).r2.snoc hb hrz ((unhide HRL).below hb (Nat.le_refl _)))
            replace HRY := hide ((unhide HRY).below hb (Nat.le_refl _))
            clear hrz HC HRL hwl
            replace HRD := hide ((unhide HRD).below hb)
            replace HBW := hide ((unhide HBW).trans (hb.mono (unhide HBW).size))
            clear hb
            have hkz : ∀ i, i < n + 1 → ext (fun k => (kq k).l) n 1 i ≤ 1048577 := fun i hi => by
              unfold ext
              split
              · omega
              · exact unhide HKS i (by omega)
            have HKZL := hide hkz
            clear hkz
            have HC := hide (f12_any p y2 z2 (some ⟨wq.heap.size, 0, none⟩) v4 v5 v6 (n + 1) (n + 1) na (l6 + 1) (l6 + 1) (l6 + 1) g2 s2 j e4 e5 e6 (ext fq n t) fa (ext f4 l6 nm) (ext f6 l6 vl) (ext f5 l6 pl) _ _ _ _ wk2 (unhide HRY) (unhide HKZ) (unhide HRD).r3 (unhide HRD).r4 (unhide HRD).r5 (unhide HRD).r6 (by omega) rfl (by omega) (by omega) rfl rfl (unhide HKZL))
            go_wp2_with (go_at_call 12; refine (unhide HC).mono ?_)
            rintro e wx2 hd
            obtain ⟨fb2, vb2, rfl, hb, hcv⟩ := hd.var nm pl hn' (unhide HRD).mx
            have hres : (if hidA (hidT (ext fq n t) (ext (fun k => (kq k).l) n 1) (ext (fun k => (kq k).f) n fun _ => q) (n + 1)) fa na (tableOf nm) (keyOf' nm) then none else varsOf (ext f4 l6 nm) (ext f5 l6 pl) (ext f6 l6 vl) (l6 + 1) (nm, pl)) = none := by
              rw [unhide HT, unhide HQ, hidA_other _ _ _ _ _ (unhide HNA), hid_one]
              rfl
            rw [hres] at hcv
            clear hres hd HC
            have HCV := hide hcv
            clear hcv
            replace HRD := hide ((unhide HRD).below hb)
            replace HBW := hide ((unhide HBW).trans (hb.mono (unhide HBW).size))
            clear hb
            go_wp2_with (go_at_call 13; refine (unhide HCV).mono ?_)
            rintro e wy2 ⟨rfl, hb⟩
            clear HCV
            replace HRD := hide ((unhide HRD).below hb)
            replace HBW := hide ((unhide HBW).trans (hb.mono (unhide HBW).size))
            clear hb
            clear HRY HKZ HKZL
            have HC := hide (f10_any (some ⟨w7.heap.size, 0, none⟩) n k _ t wy2 (unhide HRD).r1 (fun _ _ => rfl) (by omega))
            go_wp2_with (go_at_call 10; refine (unhide HC).mono ?_)
            rintro e wn3 ⟨y3, g3, rfl, hry, hb, _⟩
            rw [ext_map] at hry
            have HRY := hide hry
            clear hry HC
            replace HRD := hide ((unhide HRD).below hb)
            replace HBW := hide ((unhide HBW).trans (hb.mono (unhide HBW).size))
            clear hb
            obtain ⟨wl3, hwl⟩ : ∃ W, wn3.alloc (.cells #[] 9) = W := ⟨_, rfl⟩
            have hbl : Below wn3.heap.size wn3 wl3 := by rw [← hwl]; exact (Below.refl _ wn3).alloc (Nat.le_refl _) _
            have hrl : RowAt wl3 (some ⟨wn3.heap.size, 0, none⟩) 0 (fun _ => .string q) := .inl rfl
            have HRL := hide hrl
            clear hrl
            replace HRY := hide ((unhide HRY).below hbl (Nat.le_refl _))
            replace HRD := hide ((unhide HRD).below hbl)
            replace HBW := hide ((unhide HBW).trans (hbl.mono (unhide HBW).size))
            clear hbl
            have HC := hide (f14_any (some ⟨w8.heap.size, 0, none⟩) n k _ (some ⟨wn3.heap.size, 0, none⟩) 0 0 wl3 (unhide HRD).r2.row (fun _ _ => rfl) (by omega))
            go_wp2_with (go_at_call 14; refine (unhide HC).mono ?_)
            rintro e wk3 ⟨z3, s3, rfl, hrz, hb, _⟩
            have HKZ := hide ((unhide HRD).r2.snoc hb hrz ((unhide HRL).below hb (Nat.le_refl _)))
            replace HRY := hide ((unhide HRY).below hb (Nat.le_refl _))
            clear hrz HC HRL hwl
            replace HRD := hide ((unhide HRD).below hb)
            replace HBW := hide ((unhide HBW).trans (hb.mono (unhide HBW).size))
            clear hb
            have hkz : ∀ i, i < n + 1 → ext (fun k => (kq k).l) n 0 i ≤ 1048577 := fun i hi => by
              unfold ext
              split
              · omega
              · exact unhide HKS i (by omega)
            have HKZL := hide hkz
            clear hkz
            have HC := hide (f12_any p y3 z3 (some ⟨wq.heap.size, 0, none⟩) v4 v5 v6 (n + 1) (n + 1) na (l6 + 1) (l6 + 1) (l6 + 1) g3 s3 j e4 e5 e6 (ext fq n t) fa (ext f4 l6 nm) (ext f6 l6 vl) (ext f5 l6 pl) _ _ _ _ wk3 (unhide HRY) (unhide HKZ) (unhide HRD).r3 (unhide HRD).r4 (unhide HRD).r5 (unhide HRD).r6 (by omega) rfl (by omega) (by omega) rfl rfl (unhide HKZL))
            go_wp2_with (go_at_call 12; refine (unhide HC).mono ?_)
            rintro e wx3 hd
            obtain ⟨fb3, vb3, rfl, hb, hcv⟩ := hd.var nm pl hn' (unhide HRD).mx
            have hres : (if hidA (hidT (ext fq n t) (ext (fun k => (kq k).l) n 0) (ext (fun k => (kq k).f) n fun _ => q) (n + 1)) fa na (tableOf nm) (keyOf' nm) then none else varsOf (ext f4 l6 nm) (ext f5 l6 pl) (ext f6 l6 vl) (l6 + 1) (nm, pl)) = some vl := by
              rw [unhide HT, unhide HQ, hidA_other _ _ _ _ _ (unhide HNA), hid_none, vars_last]
              rfl
            rw [hres] at hcv
            clear hres hd HC
            have HCV := hide hcv
            clear hcv
            replace HRD := hide ((unhide HRD).below hb)
            replace HBW := hide ((unhide HBW).trans (hb.mono (unhide HBW).size))
            clear hb
            go_wp2_with (go_at_call 13; refine (unhide HCV).mono ?_)
            rintro e wy3 ⟨rfl, hb⟩
            clear HCV
            replace HRD := hide ((unhide HRD).below hb)
            replace HBW := hide ((unhide HBW).trans (hb.mono (unhide HBW).size))
            clear hb
            clear HRY HKZ HKZL
            have HC := hide (f10_any (some ⟨wq.heap.size, 0, none⟩) na j _ t wy3 (unhide HRD).r3 (fun _ _ => rfl) (by omega))
            go_wp2_with (go_at_call 10; refine (unhide HC).mono ?_)
            rintro e wn4 ⟨y4, g4, rfl, hry, hb, _⟩
            rw [ext_map] at hry
            have HRY := hide hry
            clear hry HC
            replace HRD := hide ((unhide HRD).below hb)
            replace HBW := hide ((unhide HBW).trans (hb.mono (unhide HBW).size))
            clear hb
            have HC := hide (f12_any p (some ⟨w7.heap.size, 0, none⟩) (some ⟨w8.heap.size, 0, none⟩) y4 v4 v5 v6 n n (na + 1) (l6 + 1) (l6 + 1) (l6 + 1) k k g4 e4 e5 e6 fq (ext fa na t) (ext f4 l6 nm) (ext f6 l6 vl) (ext f5 l6 pl) (fun k => (kq k).a) (fun k => (kq k).l) (fun k => (kq k).c) (fun k => (kq k).f) wn4 (unhide HRD).r1 (unhide HRD).r2 (unhide HRY) (unhide HRD).r4 (unhide HRD).r5 (unhide HRD).r6 (by omega) rfl (by omega) (by omega) rfl rfl (unhide HKS))
            go_wp2_with (go_at_call 12; refine (unhide HC).mono ?_)
            rintro e wx4 hd
            obtain ⟨fb4, vb4, rfl, hb, hcv⟩ := hd.var nm pl hn' (unhide HRD).mx
            have hres : (if hidA (hidT fq (fun k => (kq k).l) (fun k => (kq k).f) n) (ext fa na t) (na + 1) (tableOf nm) (keyOf' nm) then none else varsOf (ext f4 l6 nm) (ext f5 l6 pl) (ext f6 l6 vl) (l6 + 1) (nm, pl)) = none := by
              rw [unhide HT, unhide HQ, hid_array]
              rfl
            rw [hres] at hcv
            clear hres hd HC
            have HCV := hide hcv
            clear hcv
            replace HRD := hide ((unhide HRD).below hb)
            replace HBW := hide ((unhide HBW).trans (hb.mono (unhide HBW).size))
            clear hb
            go_wp2_with (go_at_call 13; refine (unhide HCV).mono ?_)
            rintro e wy4 ⟨rfl, hb⟩
            clear HCV
            replace HRD := hide ((unhide HRD).below hb)
            replace HBW := hide ((unhide HBW).trans (hb.mono (unhide HBW).size))
            clear hb
            have hvv : (vl.toList == vl.toList) = true := by simp
            go_wp2
            go_ret
            exact ⟨rfl, unhide HBW⟩
end Go.Proofs.Qxb6605991a
