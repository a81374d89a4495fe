/-
  ZZascending at the four values of the law; NewInt, NewDict; that keys of which the first comes again at the end do not ascend.
-/
import Derived.Test.Qxb6605951aDoorP
import Derived.Test.Qxb6605951aDoorRows
import Derived.Lib.SlBytesConst
import Derived.Lib.ItoaLen
namespace Go.Proofs.Qxb6605951aDoor
open Go.RowKit Go.Shelf

/-! ### bytes.Compare's order -/
theorem cmp_self : ∀ a : List UInt8, Lib.compareBytes a a = 0
  | [] => rfl
  | x :: a => by
    have : ¬ x < x := UInt8.lt_irrefl x
    simp [Lib.compareBytes, this, cmp_self a]

theorem cmp_trans : ∀ a b c : List UInt8, Lib.compareBytes a b < 0 → Lib.compareBytes b c < 0 → Lib.compareBytes a c < 0
  | [], [], _, h, _ => by simp [Lib.compareBytes] at h
  | _ :: _, [], _, h, _ => by simp [Lib.compareBytes] at h
  | _, _ :: _, [], _, h => by simp [Lib.compareBytes] at h
  | [], _ :: _, _ :: _, _, _ => by simp [Lib.compareBytes]
  | x :: a, y :: b, z :: c, h1, h2 => by
    unfold Lib.compareBytes at h1 h2 ⊢
    by_cases hxy : x < y
    · by_cases hyz : y < z
      · have : x < z := UInt8.lt_trans hxy hyz
        simp [this]
      · by_cases hzy : z < y
        · simp [hyz, hzy] at h2
        · have : y = z := UInt8.le_antisymm (UInt8.not_lt.1 hzy) (UInt8.not_lt.1 hyz)
          subst this
          simp [hxy]
    · by_cases hyx : y < x
      · simp [hxy, hyx] at h1
      · have : x = y := UInt8.le_antisymm (UInt8.not_lt.1 hyx) (UInt8.not_lt.1 hxy)
        subst this
        simp only [hxy, if_false] at h1
        by_cases hxz : x < z
        · simp [hxz]
        · by_cases hzx : z < x
          · simp [hxz, hzx] at h2
          · simp only [hxz, hzx, if_false] at h2 ⊢
            exact cmp_trans a b c h1 h2

theorem asc_last : ∀ (l : List (List Int)) (a b : List Int), Asc (a :: (l ++ [b])) → Lib.compareBytes (Lib.bytesOf a) (Lib.bytesOf b) < 0
  | [], _, _, h => h.1
  | x :: l, _, b, h => cmp_trans _ _ _ h.1 (asc_last l x b h.2)

/-- The first key again at the end: not ascending. -/
theorem not_asc (f : Nat → ByteArray) (n : Nat) (h : f (n + 1) = f 0) : ¬ Asc ((List.range (n + 2)).map fun t => sb (f t)) := by
  intro ha
  rw [List.range_succ, List.map_append, List.range_succ_eq_map, List.map_cons, List.map_cons, List.map_nil, h] at ha
  have := asc_last _ _ _ ha
  rw [cmp_self] at this
  omega

/-! ### ZZascending -/
def Says (b : Bool) (w : World) (e : Ending) (W' : World) : Prop := e = .returned (.bool b) ∧ Below w.heap.size w W'

theorem f9_of (b : Bool) (k : Int) (vr vn : Value) (h1 : ∃ a n c, vr = .slice a n c) (h2 : ∃ a n c, vn = .slice a n c) (w : World)
    (h : Calls Tryd.prog 14 #[.agg #[.int .u8 k, vr, vn, .nilIface]] (w.alloc (.cells #[.int .u8 k, vr, vn, .nilIface] 32)) (Says b (w.alloc (.cells #[.int .u8 k, vr, vn, .nilIface] 32)))) :
    Calls Tryd.prog 9 #[.agg #[.int .u8 k, vr, vn, .nilIface]] w (Says b w) := by
  obtain ⟨a1, n1, c1, rfl⟩ := h1
  obtain ⟨a2, n2, c2, rfl⟩ := h2
  have H := hide h
  clear h
  go_enter Tryd.func9, Tryd.ntmps9
  go_wp2_with (go_at_call 14; refine (unhide H).mono ?_; rintro e w' ⟨rfl, hb⟩)
  go_ret
  exact ⟨rfl, ((Below.refl _ w).alloc (Nat.le_refl _) _).trans (hb.mono (by simp))⟩

theorem f9_other (k : Int) (hk : (k == 4) = false) (vr vn : Value) (h1 : ∃ a n c, vr = .slice a n c) (h2 : ∃ a n c, vn = .slice a n c) (w : World) :
    Calls Tryd.prog 9 #[.agg #[.int .u8 k, vr, vn, .nilIface]] w (Says true w) :=
  f9_of true k vr vn h1 h2 w ((f14_of k vr vn h1 h2 _ _ _ (entries_other k hk vr vn _)).mono (by
    rintro e W' ⟨⟨rfl, _⟩ | ⟨_, _, h, _⟩, hb⟩
    · exact ⟨rfl, hb⟩
    · exact h.elim))

theorem f9_empty (vr : Value) (h1 : ∃ a n c, vr = .slice a n c) (an : Option Addr) (cn : Nat) (w : World) :
    Calls Tryd.prog 9 #[.agg #[.int .u8 4, vr, .slice an 0 cn, .nilIface]] w (Says true w) :=
  f9_of true 4 vr _ h1 ⟨_, _, _, rfl⟩ w ((f14_of 4 vr _ h1 ⟨_, _, _, rfl⟩ _ _ _ (entries_empty vr h1 an cn _)).mono (by
    rintro e W' ⟨⟨rfl, _⟩ | ⟨_, _, h, _⟩, hb⟩
    · exact ⟨rfl, hb⟩
    · exact h.elim))

theorem f9_dict (g rl rc N k : Nat) (ls : List (List Int)) (f : Nat → ByteArray) (w : World) (D : DictData w g rl rc N k ls f) (hk : k ≤ 70000) (hk0 : 0 < k) (hgw : g < w.heap.size) (hna : ¬ Asc ((List.range k).map fun t => sb (f t))) :
    Calls Tryd.prog 9 #[.agg #[.int .u8 4, .slice (some ⟨g, 0, none⟩) rl rc, .slice (some ⟨N, 0, none⟩) (2 * k) (2 * k), .nilIface]] w (Says false w) :=
  f9_of false 4 _ _ ⟨_, _, _, rfl⟩ ⟨_, _, _, rfl⟩ w ((f14_of 4 _ _ ⟨_, _, _, rfl⟩ ⟨_, _, _, rfl⟩ _ _ _ (entries_dict g rl rc N k ls f _ (D.later ((Below.refl _ w).alloc (Nat.le_refl _) _)) hk hk0 (by simp; omega))).mono (by
    rintro e W' ⟨⟨_, xs, hS, ha⟩ | ⟨rfl, _⟩, hb⟩
    · exact absurd (by rw [hS] at ha; exact ha) hna
    · exact ⟨rfl, hb⟩))

/-! ### NewInt, NewDict -/
def ValMade (k : Int) (w : World) (e : Ending) (w' : World) : Prop := ∃ a n c, e = .returned (.agg #[.int .u8 k, .slice a n c, .slice none 0 0, .nilIface]) ∧ Below w.heap.size w w'

set_option maxHeartbeats 400000 in
theorem f11_any (w : World) : Calls Tryd.prog 11 #[] w (ValMade 4 w) := by
  have kc : (convert 27 27 (.slice (some ⟨w.heap.size + 1, 0, none⟩) 2 2)).run Tryd.prog ((w.alloc (.cells #[.int .u8 0, .slice none 0 0, .slice none 0 0, .nilIface] 32)).alloc (.cells #[.int .u8 100, .int .u8 101] 5)) =
      .ok (.slice (some ⟨w.heap.size + 1, 0, none⟩) 2 2) ((w.alloc (.cells #[.int .u8 0, .slice none 0 0, .slice none 0 0, .nilIface] 32)).alloc (.cells #[.int .u8 100, .int .u8 101] 5 (2, 3))) := by
    have h := Lib.run_convert_bytes_const (P := Tryd.prog) (w.alloc (.cells #[.int .u8 0, .slice none 0 0, .slice none 0 0, .nilIface] 32)) 27 5 #[.int .u8 100, .int .u8 101] 2 2 Tryd.underlying27 Tryd.underlying5
    rw [World.size_alloc] at h
    exact h
  go_enter Tryd.func11, Tryd.ntmps11
  go_wp2
  refine bodyPost_ret (v := .agg #[.int .u8 4, .slice (some ⟨w.heap.size + 1, 0, none⟩) 2 2, .slice none 0 0, .nilIface]) (by simp [results, Tryd.results11, go_sem]) rfl ⟨_, _, _, rfl, ?_⟩
  repeat (first | exact (Below.refl _ w) | refine Below.alloc ?_ (by simp) _)

/-- The name of the library's table of powers of ten, as the row lists it. -/
def powName : String := ((Rows.fnAscendingOtherKindsAndRepeatsRow.laid.map (·.1))[2]?).getD ""

theorem appendInt_10 (B n : Nat) (i : Int) (h0 : -9223372036854775808 ≤ i) (h1 : i ≤ 9223372036854775807) (sv : Value) (xs : List Value) (w : World) (hown : w.ownsRow B 5 1 sv n xs) (hBw : B ≤ w.heap.size) (hlim : n + 21 ≤ 140737488355328) (htab : Lib.TabBelow Tryd.prog B w powName .u64 Lib.pow10Tab) :
    Calls Tryd.prog 19 #[sv, .int .i64 i, .int .i64 10] w fun e w' => ∃ v', e = .returned v' ∧ w'.ownsRow B 5 1 v' (n + (Lib.itoa i).length) (xs ++ Lib.byteCells (Lib.itoa i)) ∧ Below B w w' ∧ Lib.OthersKept 5 none w w' :=
  Any.strconv_AppendInt_10 Tryd.laysM176 B n i h0 h1 sv xs w hown hBw hlim htab

def IntMade (w : World) (e : Ending) (w' : World) : Prop := ∃ a n c, e = .returned (.slice a n c) ∧ Below w.heap.size w w'

set_option maxHeartbeats 400000 in
theorem f15_any (n : Int) (h0 : -9223372036854775808 ≤ n) (h1 : n ≤ 9223372036854775807) (w : World) (htab : Lib.TabBelow Tryd.prog w.heap.size w powName .u64 Lib.pow10Tab) :
    Calls Tryd.prog 15 #[.slice none 0 0, .int .i64 n] w (IntMade w) := by
  obtain ⟨i0, hi, hz0, hz1, hz2⟩ := info_parts Tryd.info5
  have HT := hide htab
  clear htab
  go_enter Tryd.func15, Tryd.ntmps15
  go_wp2_with (at_builtin; refine wpList_append_own _ rfl _ _ 27 rfl w.heap.size 5 i0 (.int .u8 0) 1 1 Tryd.underlying27 hi hz0 hz1 hz2 rfl (by decide) _ _ _ rfl (World.ownsRow_nil _ _ _ _) ⟨w.heap.size, 0, none⟩ 1 1 [.int .u8 105] rfl rfl (cell_one_new _ _ _) (by simp [Value.oneCell']) (by unfold maxLen; omega) (by omega) (by simp) ?_)
  intro v1 w1 hown1 hg1 _
  have hb1 : Below w.heap.size w w1 := ((Below.refl _ w).alloc (Nat.le_refl _) _).grown hg1 (by simp) (fun r e => by simp [Value.ownBlock] at e)
  go_wp2_with (go_at_call 19; refine (appendInt_10 w.heap.size _ n h0 h1 _ _ w1 hown1 hb1.size (by omega) ((unhide HT).on hb1)).mono ?_)
  rintro e w2 ⟨v2, rfl, hown2, hb2, _⟩
  have hlen := Lib.itoa_length_le n h0 h1
  have hbw2 : Below w.heap.size w w2 := hb1.trans hb2
  have hz2' := hbw2.size
  generalize hL : (Lib.itoa n).length = L at hown2 hlen
  clear hL
  go_wp2_with (at_builtin; refine wpList_append_own _ rfl _ _ 27 rfl w.heap.size 5 i0 (.int .u8 0) 1 1 Tryd.underlying27 hi hz0 hz1 hz2 rfl (by decide) _ _ _ rfl (hown2.alloc _) ⟨w2.heap.size, 0, none⟩ 1 1 [.int .u8 101] rfl rfl (cell_one_new _ _ _) (by simp [Value.oneCell']) (by unfold maxLen; omega) (by omega) (by simp; omega) ?_)
  intro v3 w3 hown3 hg3 _
  have hb3 : Below w.heap.size w w3 := (hbw2.alloc hz2' _).grown hg3 (by simp; omega) (fun r e => (hown2.lt r e).1)
  have hform : ∃ a n c, v3 = .slice a n c := by
    rcases hown3.2 with ⟨h, _⟩ | ⟨_, _, _, h, _⟩ <;> exact ⟨_, _, _, h⟩
  clear hown1 hg1 hown2 hb2 hb1 hown3 hg3
  go_wp2
  go_ret
  obtain ⟨a, m, c, rfl⟩ := hform
  exact ⟨a, m, c, rfl, hb3⟩

set_option maxHeartbeats 400000 in
theorem f10_any (n : Int) (h0 : -9223372036854775808 ≤ n) (h1 : n ≤ 9223372036854775807) (w : World) (htab : Lib.TabBelow Tryd.prog w.heap.size w powName .u64 Lib.pow10Tab) :
    Calls Tryd.prog 10 #[.int .i64 n] w (ValMade 1 w) := by
  have hb : Below w.heap.size w (w.alloc (.cells #[.int .u8 0, .slice none 0 0, .slice none 0 0, .nilIface] 32)) := (Below.refl _ w).alloc (Nat.le_refl _) _
  have hT : Lib.TabBelow Tryd.prog (w.alloc (.cells #[.int .u8 0, .slice none 0 0, .slice none 0 0, .nilIface] 32)).heap.size (w.alloc (.cells #[.int .u8 0, .slice none 0 0, .slice none 0 0, .nilIface] 32)) powName .u64 Lib.pow10Tab :=
    fun w' hw' => htab w' (hb.trans (hw'.mono hb.size))
  have H := hide (f15_any n h0 h1 _ hT)
  clear hT htab
  go_enter Tryd.func10, Tryd.ntmps10
  go_wp2_with (go_at_call 15; refine (unhide H).mono ?_)
  rintro e w1 ⟨a, m, c, rfl, hb1⟩
  have hres := (resAt_new w).kept (below_grownBy hb1 none) (by simp)
  obtain ⟨⟨r0, q0⟩, ⟨r1, q1⟩, ⟨r2, q2⟩, ⟨r3, q3⟩, z0, z1, z2, z3⟩ := hres
  have hbw : Below w.heap.size w w1 := hb.trans (hb1.mono hb.size)
  clear H hb1 hb
  go_wp2
  refine bodyPost_ret (v := .agg #[.int .u8 1, .slice a m c, .slice none 0 0, .nilIface]) (by simp [results, Tryd.results10, go_sem, q0, q1, q2, q3]) rfl ⟨_, _, _, rfl, ?_⟩
  exact below_set4 hbw (Nat.le_refl _) _ _ _ _
end Go.Proofs.Qxb6605951aDoor
