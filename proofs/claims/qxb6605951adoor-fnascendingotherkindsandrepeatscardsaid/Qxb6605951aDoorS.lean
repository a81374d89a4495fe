/-
  The law's own walk.
-/
import Derived.Test.Qxb6605951aDoorR
namespace Go.Proofs.Qxb6605951aDoor
open Go.RowKit Go.Shelf

theorem total_le (f : Nat → ByteArray) : ∀ (n k : Nat), k < n → (f k).size ≤ total f n
  | 0, k, h => by omega
  | n + 1, k, h => by
    unfold total
    by_cases hk : k < n
    · have := total_le f n k hk; omega
    · obtain rfl : k = n := by omega
      omega

set_option maxHeartbeats 400000 in
/-- zzCloneStrings at a slice that is not nil, wherever it lies. -/
theorem f6_at (x : Addr) (len cap : Nat) (f : Nat → ByteArray) (w : World) (h : ∀ k, k < len → w.cell? (x.add k) = some (.string (f k))) (hl : len ≤ 65536) :
    Calls Tryd.prog 6 #[.slice (some x) len cap] w (Cloned w len f) := by
  have hq := fun w => Lib.run_eql_slice_nil (P := Tryd.prog) w 22 9 (some x) len cap 0 0 Tryd.underlying22
  obtain ⟨i0, hi, hz0, hz1, hz2⟩ := info_parts Tryd.info9
  go_enter Tryd.func6, Tryd.ntmps6
  go_wp2_with (at_make; refine wpList_make_full _ rfl _ _ 22 rfl w.heap.size 9 i0 _ 1 Tryd.underlying22 hi hz0 hz1 _ _ _ _ len rfl rfl rfl rfl (by rw [hz2]; omega) (by unfold maxLen; omega) (Nat.le_refl _) ?_)
  intro w1 hown hgrow
  obtain ⟨_, _, cur, hg, _, hcs, _⟩ := row_of_owns hown
  have hb1 : Below w.heap.size w w1 := (Below.refl _ w).grown hgrow (Nat.le_refl _) (fun k e => by cases e)
  obtain ⟨w2, hcp2, hcell, hg2⟩ := copy_strs w1 w.heap.size len cap len x cur f hg (by simpa using hcs) (fun k hk => hgrow.cell (h k hk) (by simp)) 3
  have hb2 : Below w.heap.size w w2 := hb1.grown hg2 hb1.size (fun k e => by cases e; exact Nat.le_refl _)
  clear hg hcs hown hgrow hb1 hg2 h hi hz0 hz1 hz2
  have H2 := hide hcell
  clear hcell
  go_wp2
  go_ret
  exact ⟨_, _, rfl, .inr ⟨w.heap.size, 0, rfl, fun k hk => by simpa using unhide H2 k hk⟩, hb2⟩

theorem f6_any (a : Option Addr) (len cap : Nat) (f : Nat → ByteArray) (w : World) (h : StrsAt w a len f) (hnil : a = none → len = 0 ∧ cap = 0) (hl : len ≤ 65536) :
    Calls Tryd.prog 6 #[.slice a len cap] w (Cloned w len f) := by
  cases a with
  | none => obtain ⟨rfl, rfl⟩ := hnil rfl; exact f6_nil w f
  | some x =>
    refine f6_at x len cap f w (fun k hk => ?_) hl
    rcases h with rfl | ⟨b, off, hx, hc⟩
    · omega
    · cases hx; rw [Addr.add_lit]; exact hc k hk

theorem StrsAt.later {w W : World} {a : Option Addr} {len : Nat} {f : Nat → ByteArray} (h : StrsAt w a len f) (hb : Below w.heap.size w W) : StrsAt W a len f := by
  rcases h with h | ⟨b, off, h1, h2⟩
  · exact .inl h
  · exact .inr ⟨b, off, h1, fun k hk => (hb.cell (World.block_lt_of_cell? w _ (h2 k hk))).trans (h2 k hk)⟩

/-- zzContainer over zzKeyItems' items. -/
theorem f7_items (o kind : Int) (w0 : World) (len G cap : Nat) (f : Nat → ByteArray) (vs : List Value) (ls : List (List Int)) (w : World) (hl : len ≤ 65537) (ht : total f len ≤ 3000000)
    (hown : w.ownsRow w0.heap.size 27 1 (.slice (some ⟨G, 0, none⟩) (2 * len) cap) (2 * len) vs) (hit : ItemsAt w w0.heap.size vs ls) (hki : KeyItems f len ls) :
    Calls Tryd.prog 7 #[.int .u8 o, .int .u8 kind, .slice (some ⟨G, 0, none⟩) (2 * len) cap] w (ContainerMade w o kind (2 * len) ls) :=
  f7_any o kind w0.heap.size G (2 * len) cap vs ls w (by omega) hown hit (keyItems_pos len ls f hki) (by have := keyItems_total len ls f hki; omega)

def RepF (f : Nat → ByteArray) (len : Nat) (k : Nat) : ByteArray := if k < len then f k else f 0
theorem total_congr (f g : Nat → ByteArray) : ∀ n, (∀ k, k < n → f k = g k) → total f n = total g n
  | 0, _ => rfl
  | n + 1, h => by simp only [total]; rw [total_congr f g n (fun k hk => h k (by omega)), h n (by omega)]
theorem rep_total (f : Nat → ByteArray) (len : Nat) : total (RepF f len) (len + 1) = total f len + (f 0).size := by
  simp only [total]
  rw [total_congr (RepF f len) f len (fun k hk => by simp [RepF, hk])]
  simp [RepF]

set_option maxHeartbeats 2000000 in
theorem f3_any (a : Option Addr) (len cap : Nat) (f : Nat → ByteArray) (n : Int) (w : World) (h : StrsAt w a len f) (hnil : a = none → len = 0 ∧ cap = 0)
    (hl : len ≤ 9223372036854775807) (hs : ∀ k : Nat, (f k).size ≤ 9223372036854775807) (h0 : -9223372036854775808 ≤ n) (h1 : n ≤ 9223372036854775807)
    (htab : Lib.TabBelow Tryd.prog w.heap.size w powName .u64 Lib.pow10Tab) :
    Calls Tryd.prog 3 #[.slice a len cap, .int .i64 n] w fun e w' => e = .returned (.bool true) ∧ Below w.heap.size w w' := by
  have H4 := hide (f4_any a len cap f n w h hl hs)
  go_enter Tryd.func3, Tryd.ntmps3
  go_wp2_with (go_at_call 4; refine (unhide H4).mono ?_)
  rintro e w' ⟨⟨b, rfl, hall⟩, rfl⟩
  cases b with
  | false =>
    clear hall
    go_wp2
    go_ret
    exact ⟨rfl, Below.refl _ _⟩
  | true =>
    by_cases hbig : (65536 : Int) < (len : Int)
    · clear hall
      go_wp2
      go_ret
      exact ⟨rfl, Below.refl _ _⟩
    have H5 := hide (f5_any a len cap f w' h (by omega) (hall rfl))
    clear hall
    go_wp2_with (go_at_call 5; refine (unhide H5).mono ?_)
    rintro e w1 ⟨⟨z, rfl, hz⟩, rfl⟩
    by_cases hz2 : (1048576 : Int) < z
    · clear hz
      go_wp2
      go_ret
      exact ⟨rfl, Below.refl _ _⟩
    have hz3 : 16 * len + total f len ≤ 1048576 := hz (by omega)
    have hsz : ∀ k, k < len → (f k).size ≤ 1048576 := fun k hk => by have := total_le f len k hk; omega
    have H6 := hide (f6_any a len cap f w1 h hnil (by omega))
    have HS := hide hsz
    have HT := hide htab
    clear hz hs hsz htab H4 H5
    go_wp2_with (go_at_call 6; refine (unhide H6).mono ?_)
    rintro e w2 ⟨a2, cap2, rfl, hst2, hb2⟩
    clear H6 h hnil
    have H8 := hide (f8_any a2 len cap2 f w2 hst2 (by omega) (unhide HS))
    go_wp2_with (go_at_call 8; refine (unhide H8).mono ?_)
    rintro e w3 ⟨G, cap3, vs, ls, rfl, hown3, hit3, hki3, hb3⟩
    have H7 := hide (f7_items 108 3 w2 len G cap3 f vs ls w3 (by omega) (by omega) hown3 hit3 hki3)
    clear H8 hown3 hit3 hki3
    go_wp2_with (go_at_call 7; refine (unhide H7).mono ?_)
    rintro e w4 ⟨g4, rl4, rc4, N4, rfl, _, _, _, hb4⟩
    clear H7
    have hbw4 : Below w1.heap.size w1 w4 := (hb2.trans (hb3.mono hb2.size)).trans (hb4.mono (Nat.le_trans hb2.size hb3.size))
    have hst4 : StrsAt w4 a2 len f := (hst2.later hb3).later hb4
    clear hst2 hb2 hb3 hb4
    go_wp2_with (go_at_call 9; refine (f9_other 3 (by decide) (.slice (some ⟨g4, 0, none⟩) rl4 rc4) (.slice (some ⟨N4, 0, none⟩) (2 * len) (2 * len)) ⟨_, _, _, rfl⟩ ⟨_, _, _, rfl⟩ _).mono ?_)
    rintro e w5 ⟨rfl, hb5⟩
    have hba : Below w4.heap.size w4 (w4.alloc (.cells #[.int .u8 3, .slice (some ⟨g4, 0, none⟩) rl4 rc4, .slice (some ⟨N4, 0, none⟩) (2 * len) (2 * len), .nilIface] 32)) := (Below.refl _ _).alloc (Nat.le_refl _) _
    have hb45 : Below w4.heap.size w4 w5 := hba.trans (hb5.mono hba.size)
    have hbw5 : Below w1.heap.size w1 w5 := hbw4.trans (hb45.mono hbw4.size)
    have hst5 : StrsAt w5 a2 len f := hst4.later hb45
    have H10 := hide (f10_any n h0 h1 w5 (fun w' hw' => (unhide HT) w' (hbw5.trans (hw'.mono hbw5.size))))
    clear hba hb5 hb45 hbw4 hst4 HT
    go_wp2_with (go_at_call 10; refine (unhide H10).mono ?_)
    rintro e w6 ⟨a6, n6, c6, rfl, hb6⟩
    have hbw6 : Below w1.heap.size w1 w6 := hbw5.trans (hb6.mono hbw5.size)
    have hst6 : StrsAt w6 a2 len f := hst5.later hb6
    clear H10 hb6 hbw5 hst5
    go_wp2_with (go_at_call 9; refine (f9_other 1 (by decide) (.slice a6 n6 c6) (.slice none 0 0) ⟨_, _, _, rfl⟩ ⟨_, _, _, rfl⟩ w6).mono ?_)
    rintro e w7 ⟨rfl, hb7⟩
    have hbw7 : Below w1.heap.size w1 w7 := hbw6.trans (hb7.mono hbw6.size)
    have hst7 : StrsAt w7 a2 len f := hst6.later hb7
    clear hb7 hbw6 hst6
    go_wp2_with (go_at_call 11; refine (f11_any w7).mono ?_)
    rintro e w8 ⟨a8, n8, c8, rfl, hb8⟩
    have hbw8 : Below w1.heap.size w1 w8 := hbw7.trans (hb8.mono hbw7.size)
    have hst8 : StrsAt w8 a2 len f := hst7.later hb8
    clear hb8 hbw7 hst7
    go_wp2_with (go_at_call 9; refine (f9_empty (.slice a8 n8 c8) ⟨_, _, _, rfl⟩ none 0 w8).mono ?_)
    rintro e w9 ⟨rfl, hb9⟩
    have hbw9 : Below w1.heap.size w1 w9 := hbw8.trans (hb9.mono hbw8.size)
    have hst9 : StrsAt w9 a2 len f := hst8.later hb9
    clear hb9 hbw8 hst8
    by_cases hlen : len = 0
    · subst hlen
      go_wp2
      go_ret
      exact ⟨rfl, hbw9⟩
    have hle : ((len : Int) == 0) = false := by simp; omega
    rcases hst9 with hst9 | ⟨b, off, rfl, hc9⟩
    · omega
    obtain ⟨i0, hi, hz0, hz1, hz2'⟩ := info_parts Tryd.info9
    have hc0 : w9.cell? ⟨b, off, none⟩ = some (.string (f 0)) := hc9 0 (by omega)
    have HC9 := hide hc9
    clear hc9
    go_wp2_with (at_make; refine wpList_make_own _ rfl _ _ 22 rfl w9.heap.size 9 i0 _ 1 Tryd.underlying22 hi hz0 hz1 _ _ _ (len + 1) rfl rfl (by omega) (by rw [hz2']; omega) (by unfold maxLen; omega) (Nat.le_refl _) ?_)
    intro w10 hown10 hg10
    have hb10 : Below w9.heap.size w9 w10 := (Below.refl _ w9).grown hg10 (Nat.le_refl _) (fun _ e => by cases e)
    have hnews : ∀ (j : Nat) (u : Value), ((List.range len).map fun k => Value.string (f k))[j]? = some u → w10.cell? ((⟨b, off, none⟩ : Addr).add j) = some u := by
      intro j u hu
      have hj : j < len := by have := (List.getElem?_eq_some_iff.1 hu).1; simpa using this
      rw [Addr.add_lit, hb10.cell (p := ⟨b, off + j, none⟩) (World.block_lt_of_cell? w9 _ (unhide HC9 j hj)), unhide HC9 j hj]
      simp [hj] at hu
      rw [hu]
    have hnl : ((List.range len).map fun k => Value.string (f k)).length = len := by simp
    have hone : ∀ u ∈ (List.range len).map (fun k => Value.string (f k)), u.oneCell' = true := by
      intro u hu; obtain ⟨k, _, rfl⟩ := List.mem_map.1 hu; rfl
    obtain ⟨ks, hks⟩ : ∃ ks, ((List.range len).map fun k => Value.string (f k)) = ks := ⟨_, rfl⟩
    rw [hks] at hnews hnl hone
    have HKS := hide hks
    clear hks
    go_wp2_with (at_builtin; refine wpList_append_fits _ rfl _ _ 22 rfl w9.heap.size 9 i0 1 Tryd.underlying22 hi hz1 _ 0 (len + 1) [] rfl hown10 ⟨b, off, none⟩ len cap2 ks rfl (by simp [hnl]) hnews hone (by omega) ?_)
    intro w11 hown11 hg11
    have hb11 : Below w9.heap.size w9 w11 := hb10.grown hg11 hb10.size (fun _ e => by cases e; exact Nat.le_refl _)
    have hc11 : w11.cell? ⟨b, off, none⟩ = some (.string (f 0)) := (hb11.cell (p := ⟨b, off, none⟩) (World.block_lt_of_cell? w9 _ hc0)).trans hc0
    have hl0 : (0 : Int) < (len : Int) := by omega
    clear hown10 hg10 hb10 hnews hg11 hc0
    go_wp2_with (at_builtin; refine wpList_append_fits _ rfl _ _ 22 rfl w9.heap.size 9 i0 1 Tryd.underlying22 hi hz1 _ len (len + 1) _ rfl (hown11.alloc _) ⟨w11.heap.size, 0, none⟩ 1 1 [.string (f 0)] rfl rfl (cell_one_new _ _ _) (by simp [Value.oneCell']) (by omega) ?_)
    intro w12 hown12 hg12
    have hb12 : Below w9.heap.size w9 w12 := (hb11.alloc hb11.size _).grown hg12 (by have := hb11.size; simp; omega) (fun _ e => by cases e; exact Nat.le_refl _)
    have hbw12 : Below w1.heap.size w1 w12 := hbw9.trans (hb12.mono hbw9.size)
    have hst12 : StrsAt w12 (some ⟨w9.heap.size, 0, none⟩) (len + 1) (RepF f len) := by
      refine .inr ⟨w9.heap.size, 0, rfl, fun k hk => ?_⟩
      rw [Nat.zero_add]
      refine ownsRow_cell hown12 k _ ?_
      rw [← unhide HKS]
      by_cases hkl : k < len
      · rw [List.getElem?_append_left (by simpa using hkl)]; simp [hkl, RepF]
      · obtain rfl : k = len := by omega
        rw [List.getElem?_append_right (by simp)]; simp [RepF]
    have hrs : ∀ k, k < len + 1 → (RepF f len k).size ≤ 1048576 := fun k hk => by
      unfold RepF; split
      · exact unhide HS k (by omega)
      · exact unhide HS 0 (by omega)
    have H8 := hide (f8_any (some ⟨w9.heap.size, 0, none⟩) (len + 1) (len + 1) (RepF f len) w12 hst12 (by omega) hrs)
    have hf0 := unhide HS 0 (by omega)
    clear hown11 hb11 hc11 hown12 hg12 hb12 hst12 hrs HKS HC9 hnl hone hi hz0 hz1 hz2'
    go_wp2_with (go_at_call 8; refine (unhide H8).mono ?_)
    rintro e w13 ⟨G13, cap13, vs13, ls13, rfl, hown13, hit13, hki13, hb13⟩
    have ht13 : total (RepF f len) (len + 1) ≤ 3000000 := by rw [rep_total]; omega
    have hfl : ls13.flatten.length ≤ 9000000 := by have := keyItems_total _ _ _ hki13; omega
    have H7 := hide (f7_items 100 4 w12 (len + 1) G13 cap13 (RepF f len) vs13 ls13 w13 (by omega) ht13 hown13 hit13 hki13)
    have HKI := hide hki13
    clear H8 hown13 hit13 hki13 ht13
    go_wp2_with (go_at_call 7; refine (unhide H7).mono ?_)
    rintro e w14 ⟨g14, rl14, rc14, N14, rfl, ho14, hN14, hnest14, hb14⟩
    have D := dictData w14 w13.heap.size g14 rl14 rc14 N14 (len + 1) ls13 (RepF f len) (unhide HKI) ho14 hnest14 hfl
    have hg14 : g14 < w14.heap.size := (ho14.lt _ rfl).2
    have hba : Below w14.heap.size w14 (w14.alloc (.cells #[.int .u8 4, .slice (some ⟨g14, 0, none⟩) rl14 rc14, .slice (some ⟨N14, 0, none⟩) (2 * (len + 1)) (2 * (len + 1)), .nilIface] 32)) := (Below.refl _ _).alloc (Nat.le_refl _) _
    have hna : ¬ Asc ((List.range (len + 1)).map fun t => sb (RepF f len t)) := by
      have := not_asc (RepF f len) (len - 1) (by simp [RepF, show len - 1 + 1 = len by omega, show 0 < len by omega])
      rwa [show len - 1 + 2 = len + 1 by omega] at this
    have H9 := hide (f9_dict g14 rl14 rc14 N14 (len + 1) ls13 (RepF f len) _ (D.later hba) (by omega) (by omega) (Nat.lt_of_lt_of_le hg14 hba.size) hna)
    have hbw14 : Below w1.heap.size w1 w14 := (hbw12.trans (hb13.mono hbw12.size)).trans (hb14.mono (Nat.le_trans hbw12.size hb13.size))
    have hbwa := hbw14.trans (hba.mono hbw14.size)
    clear D hna H7 HKI ho14 hN14 hnest14 hb14 hb13 hfl hba hbw14
    go_wp2_with (go_at_call 9; refine (unhide H9).mono ?_)
    rintro e w15 ⟨rfl, hb15⟩
    have hbw15 : Below w1.heap.size w1 w15 := hbwa.trans (hb15.mono hbwa.size)
    clear H9 hb15 hbwa
    go_wp2
    go_ret
    exact ⟨rfl, hbw15⟩
end Go.Proofs.Qxb6605951aDoor
