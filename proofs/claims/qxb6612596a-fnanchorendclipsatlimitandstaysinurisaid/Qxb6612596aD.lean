/-
  The walk of the law.
-/
import Derived.Test.Qxb6612596aC
namespace Go.Proofs.Qxb6612596a
open Go.RowKit

theorem Try.info5 : (Try.prog.info? 5).map (fun i => (i.zero, i.size, i.bytes)) = some (some (.int .u8 0), 1, 1) := by kernel_rfl
theorem Try.size5 : (Try.prog.info? 5).map (·.size) = some 1 := by kernel_rfl

theorem row_of_owns {w : World} {base : Nat} {e : TypeId} {size n : Nat} {xs : List Value} {g n' cap : Nat} (h : w.ownsRow base e size (.slice (some ⟨g, 0, none⟩) n' cap) n xs) :
    n' = n ∧ base ≤ g ∧ ∃ cur : Array Value, w.heap[g]? = some (.cells cur e (0, 0)) ∧ n ≤ cap ∧ cur.size = cap * size ∧ cur.toList.take (n * size) = xs := by
  rcases h.2 with ⟨h1, _⟩ | ⟨g', cap', cur, h1, h2, h3, h4, _, h6, h7⟩
  · cases h1
  · cases h1
    exact ⟨rfl, h2, cur, h3, h4, h6, h7⟩

/-- The whole of a row of bytes, copied to the head of another. -/
theorem copy_bytes (w : World) (g n cap cap' : Nat) (a : Option Addr) (cur : Array Value) (f : Nat → Int)
    (hg : w.heap[g]? = some (.cells cur 5 (0, 0))) (hm : n ≤ cur.size) (h : BytesAt w a n f) (ty : TypeId) :
    ∃ w', (Builtin.copy_ #[22, 22] ty #[.slice (some ⟨g, 0, none⟩) n cap', .slice a n cap]).run Try.prog w = .ok (.int .i64 n) w' ∧
      BytesAt w' (some ⟨g, 0, none⟩) n f ∧ w.grownBy w' (some g) := by
  rcases h with rfl | ⟨b, off, rfl, hc⟩
  · exact ⟨w, run_copy_none w 22 22 ty 5 _ _ 0 cap' 0 cap Try.underlying22 Try.size5 (by simp), .inl rfl, World.grownBy.refl w _⟩
  · have hr := run_copy_row (P := Try.prog) w 22 22 ty 5 g 0 n cap' ⟨b, off, none⟩ n cap cur 5 ((List.range n).map fun k => .int .u8 (f k)) Try.underlying22 Try.size5 hg (by simp) ?_ (by simp; omega) ?_
    · simp only [List.length_map, List.length_range] at hr
      refine ⟨_, hr, .inr ⟨g, 0, rfl, fun k hk => ?_⟩, ⟨rfl, rfl, rfl, by simp, fun k _ hk => setRow_other w g k _ (fun e => hk (by rw [e]))⟩⟩
      rw [show (⟨g, 0 + k, none⟩ : Addr) = ⟨g, k, none⟩ by rw [Nat.zero_add], cell_of_row _ g k _ 5 (0, 0) (setRow_heap w g cur _ 5 _ hg)]
      simp only [List.take_zero, List.nil_append, Nat.zero_add, List.getElem?_toArray]
      rw [List.getElem?_append_left (by simpa using hk)]
      simp [hk]
    · intro j v hv
      have hj : j < n := by have := (List.getElem?_eq_some_iff.1 hv).1; simpa using this
      rw [Addr.add_lit, hc j hj]
      simp [hj] at hv
      rw [hv]
    · intro v hv
      obtain ⟨k, _, rfl⟩ := List.mem_map.1 hv
      rfl

def Law (w : World) (e : Ending) (w' : World) : Prop := e = .returned (.bool true) ∧ Below w.heap.size w w'

set_option maxHeartbeats 1000000 in
theorem f4_any (a : Option Addr) (len cap : Nat) (f : Nat → Int) (i l : Int) (hi0 : -9223372036854775808 ≤ i) (hi1 : i ≤ 9223372036854775807) (hl0 : -9223372036854775808 ≤ l) (hl1 : l ≤ 9223372036854775807) (hlen : len ≤ 9223372036854775807) (w : World) (h : BytesAt w a len f) :
    Calls Try.prog 4 #[.slice a len cap, .int .i64 i, .int .i64 l] w (Law w) := by
  have H8 := hide (f8_any a len cap i l hlen w)
  have H := hide h
  clear h
  by_cases hbig : len ≤ 1048576
  · have hd : decide (len ≤ 1048576) = true := decide_eq_true hbig
    rw [hd] at H8
    clear hd
    by_cases hn1 : i < 0
    · go_enter Try.func4, Try.ntmps4
      go_wp2_with (go_at_call 8; refine (unhide H8).mono ?_; rintro e w' ⟨rfl, hw⟩; obtain rfl := hw.symm)
      go_ret
      exact ⟨rfl, Below.refl _ _⟩
    by_cases hn2 : l < i
    · go_enter Try.func4, Try.ntmps4
      go_wp2_with (go_at_call 8; refine (unhide H8).mono ?_; rintro e w' ⟨rfl, hw⟩; obtain rfl := hw.symm)
      go_ret
      exact ⟨rfl, Below.refl _ _⟩
    by_cases hn3 : (len : Int) < l
    · go_enter Try.func4, Try.ntmps4
      go_wp2_with (go_at_call 8; refine (unhide H8).mono ?_; rintro e w' ⟨rfl, hw⟩; obtain rfl := hw.symm)
      go_ret
      exact ⟨rfl, Below.refl _ _⟩
    obtain ⟨ii, rfl⟩ : ∃ n : Nat, i = n := ⟨i.toNat, by omega⟩
    obtain ⟨ll, rfl⟩ : ∃ n : Nat, l = n := ⟨l.toNat, by omega⟩
    have h1 : ii ≤ ll := by omega
    have h2 : ll ≤ len := by omega
    clear hn1 hn2 hn3 hi0 hi1 hl0 hl1 hlen
    have hq := fun w => run_neq_slice_nil_any (P := Try.prog) w 22 5 a len cap 0 0 Try.underlying22
    have HBW : Hid (Below w.heap.size w w) := Below.refl _ w
    cases a with
    | none =>
      have HD := H
      clear H
      go_enter Try.func4, Try.ntmps4
      go_wp2_with (go_at_call 8; refine (unhide H8).mono ?_; rintro e w' ⟨rfl, hw⟩; obtain rfl := hw.symm)
      have HC := hide (f6_any none len cap f ii len (by omega) (Nat.le_refl _) hbig w (unhide HD))
      refine (unhide HC).mono ?_
      rintro e w1 ⟨⟨j, rfl, hj⟩, hb1⟩
      replace HD := hide ((unhide HD).below hb1)
      replace HBW := hide ((unhide HBW).trans (hb1.mono (unhide HBW).size))
      have HJ := hide hj
      clear hj hb1 HC
      have HC := hide (f6_any none len cap f ii ll h1 h2 hbig w1 (unhide HD))
      go_wp2_with (go_at_call 6; refine (unhide HC).mono ?_)
      rintro e w2 ⟨⟨k, rfl, hk⟩, hb1⟩
      replace HD := hide ((unhide HD).below hb1)
      replace HBW := hide ((unhide HBW).trans (hb1.mono (unhide HBW).size))
      have HK := hide hk
      clear hk hb1 HC
      have HC := hide (f9_any none len cap f ii (by omega) hbig w2 (unhide HD))
      go_wp2_with (go_at_call 9; refine (unhide HC).mono ?_)
      rintro e w3 ⟨⟨u, rfl, hu⟩, hb1⟩
      replace HD := hide ((unhide HD).below hb1)
      replace HBW := hide ((unhide HBW).trans (hb1.mono (unhide HBW).size))
      have hju : j ≤ u := ends_le uri_of_anc (unhide HJ) hu
      have hkm := ends_min h2 (unhide HJ) (unhide HK)
      have hij : ii ≤ j := (unhide HJ).1
      have hjn : j ≤ len := (unhide HJ).2.1
      have hend := (unhide HJ).2.2.2
      clear hu hb1 HC HJ HK
      have hmin : ((k : Int) == min (j : Int) (ll : Int)) = true := by simp; omega
      have HKM := hide hkm
      clear hkm
      by_cases hjl : j = len
      · clear hend HD
        subst hjl
        go_wp2
        go_ret
        exact ⟨rfl, unhide HBW⟩
      · have hanc : anc (f j) = false := hend.resolve_left hjl
        rcases unhide HD with h0 | ⟨b, off, hab, hc⟩
        · omega
        cases hab
    | some a =>
      obtain ⟨i0, hi, hz0, hz1, hz2⟩ := info_parts Try.info5
      go_enter Try.func4, Try.ntmps4
      go_wp2_with (first | (go_at_call 8; refine (unhide H8).mono ?_; rintro e w' ⟨rfl, hw⟩; obtain rfl := hw.symm) | (at_make; refine wpList_make_full _ rfl _ _ 22 rfl w.heap.size 5 i0 _ 1 Try.underlying22 hi hz0 hz1 _ _ _ _ len rfl rfl rfl rfl (by rw [hz2]; omega) (by unfold maxLen; omega) (Nat.le_refl _) ?_))
      intro wm hown hgrow
      obtain ⟨_, _, cur, hg, _, hcs, _⟩ := row_of_owns hown
      have hbm : Below w.heap.size w wm := (Below.refl _ w).grown hgrow (Nat.le_refl _) (fun k e => by cases e)
      obtain ⟨wc, hcp, hbc, hgc⟩ := copy_bytes wm w.heap.size len cap len (some a) cur f hg (by omega) ((unhide H).below hbm) 3
      have HD := hide hbc
      replace HBW := hide (hbm.grown hgc hbm.size (fun k e => by cases e; exact Nat.le_refl _))
      clear hown hgrow hg hcs hbm hbc hgc H hi hz0 hz1 hz2 H8
      have HC := hide (f6_any (some ⟨w.heap.size, 0, none⟩) len len f ii len (by omega) (Nat.le_refl _) hbig wc (unhide HD))
      go_wp2_with (go_at_call 6; refine (unhide HC).mono ?_)
      rintro e w1 ⟨⟨j, rfl, hj⟩, hb1⟩
      replace HD := hide ((unhide HD).below hb1)
      replace HBW := hide ((unhide HBW).trans (hb1.mono (unhide HBW).size))
      have HJ := hide hj
      clear hj hb1 HC
      have HC := hide (f6_any (some ⟨w.heap.size, 0, none⟩) len len f ii ll h1 h2 hbig w1 (unhide HD))
      go_wp2_with (go_at_call 6; refine (unhide HC).mono ?_)
      rintro e w2 ⟨⟨k, rfl, hk⟩, hb1⟩
      replace HD := hide ((unhide HD).below hb1)
      replace HBW := hide ((unhide HBW).trans (hb1.mono (unhide HBW).size))
      have HK := hide hk
      clear hk hb1 HC
      have HC := hide (f9_any (some ⟨w.heap.size, 0, none⟩) len len f ii (by omega) hbig w2 (unhide HD))
      go_wp2_with (go_at_call 9; refine (unhide HC).mono ?_)
      rintro e w3 ⟨⟨u, rfl, hu⟩, hb1⟩
      replace HD := hide ((unhide HD).below hb1)
      replace HBW := hide ((unhide HBW).trans (hb1.mono (unhide HBW).size))
      have hju : j ≤ u := ends_le uri_of_anc (unhide HJ) hu
      have hkm := ends_min h2 (unhide HJ) (unhide HK)
      have hij : ii ≤ j := (unhide HJ).1
      have hjn : j ≤ len := (unhide HJ).2.1
      have hend := (unhide HJ).2.2.2
      clear hu hb1 HC HJ HK
      have hmin : ((k : Int) == min (j : Int) (ll : Int)) = true := by simp; omega
      have HKM := hide hkm
      clear hkm
      by_cases hjl : j = len
      · clear hend HD
        subst hjl
        go_wp2
        go_ret
        exact ⟨rfl, unhide HBW⟩
      · have hanc : anc (f j) = false := hend.resolve_left hjl
        rcases unhide HD with h0 | ⟨b, off, hab, hc⟩
        · omega
        cases hab
        have hcj : w3.cell? ⟨w.heap.size, j, none⟩ = some (.int .u8 (f j)) := by simpa using hc j (by omega)
        have hjlt : j < len := by omega
        have H7 := hide (f7_any (f j) w3)
        rw [hanc] at H7
        generalize f j = c at hcj H7
        have hjl' : ((j : Int) == (len : Int)) = false := by simp; omega
        clear hc HD hend hanc hjl
        go_wp2_with (go_at_call 7; refine (unhide H7).mono ?_; rintro e w' ⟨rfl, hw⟩; obtain rfl := hw.symm)
        go_ret
        exact ⟨rfl, unhide HBW⟩
  · have hd : decide (len ≤ 1048576) = false := decide_eq_false hbig
    rw [hd] at H8
    go_enter Try.func4, Try.ntmps4
    go_wp2_with (go_at_call 8; refine (unhide H8).mono ?_; rintro e w' ⟨rfl, rfl⟩)
    go_ret
    exact ⟨rfl, Below.refl _ _⟩
end Go.Proofs.Qxb6612596a
