/-
  The walk of FnFileFrameSections.
-/
import Derived.Test.Qxb6613638aFmtY
namespace Go.Proofs.Qxb6613638aFmt
open Go.RowKit Go.Extern

def Right (w : World) (e : Ending) (w' : World) : Prop := e = .returned (.bool true) ∧ Below w.heap.size w w'

set_option maxRecDepth 20000 in
set_option maxHeartbeats 2000000 in
theorem f4_none (ver : Int) (x : Nat → Option Addr) (l c : Nat → Nat) (tf tg th nf f g : Nat → Int) (ft : ByteArray) (w : World) (h : RawAt w x l tf tg th nf f g) :
    Calls Tryf.prog 4 #[.int .i64 ver, .agg #[.slice (x 0) (l 0) (c 0), .slice (x 1) (l 1) (c 1), .slice (x 2) (l 2) (c 2), .slice (x 3) (l 3) (c 3), .slice (x 4) (l 4) (c 4), .slice (x 5) (l 5) (c 5), .slice (x 6) (l 6) (c 6)], .pointer none, .string ft] w (Right w) := by
  have H := hide h
  obtain ⟨S, hS⟩ : ∃ S : List ByteArray, verSecs ver false ++ blockSecs l true nf f ++ (if ft.toList.isEmpty = true then [] else [{ data := #[51] }]) = S := ⟨_, rfl⟩
  have hlS : S.length ≤ 100 := by rw [← hS]; simp only [List.length_append]; have h1 := blockSecs_len l true nf f; have h2 : (verSecs ver false).length ≤ 1 := (by unfold verSecs; split <;> simp; split <;> simp); have h3 : (if ft.toList.isEmpty = true then [] else [({ data := #[51] } : ByteArray)]).length ≤ 1 := (by split <;> simp); omega
  have HSS := hide hS
  clear hS
  obtain ⟨W1, hW1⟩ : ∃ W, w.alloc (.cells #[.slice (x 0) (l 0) (c 0), .slice (x 1) (l 1) (c 1), .slice (x 2) (l 2) (c 2), .slice (x 3) (l 3) (c 3), .slice (x 4) (l 4) (c 4), .slice (x 5) (l 5) (c 5), .slice (x 6) (l 6) (c 6)] 44) = W := ⟨_, rfl⟩
  have hb1 : Below w.heap.size w W1 := by rw [← hW1]; exact (Below.refl _ w).alloc (Nat.le_refl _) _
  have hg1 : W1.heap[w.heap.size]? = some (.cells #[.slice (x 0) (l 0) (c 0), .slice (x 1) (l 1) (c 1), .slice (x 2) (l 2) (c 2), .slice (x 3) (l 3) (c 3), .slice (x 4) (l 4) (c 4), .slice (x 5) (l 5) (c 5), .slice (x 6) (l 6) (c 6)] 44 (0, 0)) := by rw [← hW1]; exact heap_alloc_new w _
  have hs1 : W1.heap.size = w.heap.size + 1 := by rw [← hW1]; simp
  have HB1 := hide hb1
  have HG : Hid (∀ wx, Below W1.heap.size W1 wx → wx.heap[w.heap.size]? = some (.cells #[.slice (x 0) (l 0) (c 0), .slice (x 1) (l 1) (c 1), .slice (x 2) (l 2) (c 2), .slice (x 3) (l 3) (c 3), .slice (x 4) (l 4) (c 4), .slice (x 5) (l 5) (c 5), .slice (x 6) (l 6) (c 6)] 44 (0, 0))) := fun wx hb => (hb.block _ (by rw [hs1]; omega)).trans hg1
  have hc17 := hide (f17_none ver x l c ft W1)
  have q0 : W1.cell? ⟨w.heap.size, 0, none⟩ = some (.slice (x 0) (l 0) (c 0)) := cell_of_row _ _ 0 _ _ _ hg1
  have q1 : W1.cell? ⟨w.heap.size, 1, none⟩ = some (.slice (x 1) (l 1) (c 1)) := cell_of_row _ _ 1 _ _ _ hg1
  have q2 : W1.cell? ⟨w.heap.size, 2, none⟩ = some (.slice (x 2) (l 2) (c 2)) := cell_of_row _ _ 2 _ _ _ hg1
  have q3 : W1.cell? ⟨w.heap.size, 3, none⟩ = some (.slice (x 3) (l 3) (c 3)) := cell_of_row _ _ 3 _ _ _ hg1
  have q4 : W1.cell? ⟨w.heap.size, 4, none⟩ = some (.slice (x 4) (l 4) (c 4)) := cell_of_row _ _ 4 _ _ _ hg1
  have q5 : W1.cell? ⟨w.heap.size, 5, none⟩ = some (.slice (x 5) (l 5) (c 5)) := cell_of_row _ _ 5 _ _ _ hg1
  have q6 : W1.cell? ⟨w.heap.size, 6, none⟩ = some (.slice (x 6) (l 6) (c 6)) := cell_of_row _ _ 6 _ _ _ hg1
  clear hb1 hg1 hs1 h
  go_enter Tryf.func4, Tryf.ntmps4
  go_wp2_with (go_at_call 17; refine (unhide hc17).mono ?_)
  rintro e w2 ⟨b, rfl, hs, hb2⟩
  have HB2 := hide hb2
  clear hb2 hW1 hc17 q0 q1 q2 q3 q4 q5 q6
  cases b with
  | false =>
    go_wp2
    go_ret
    exact ⟨rfl, (unhide HB1).trans ((unhide HB2).mono (unhide HB1).size)⟩
  | true =>
    have HS := hide (hs rfl).1
    have HW2 : Hid (Below w.heap.size w w2) := (unhide HB1).trans ((unhide HB2).mono (unhide HB1).size)
    have HZ : Hid (∀ wx, Below W1.heap.size W1 wx → ZAt wx w.heap.size 0 x l c tf tg th nf f g) := fun wx hb =>
      (unhide H).zat ((unhide HB1).trans (hb.mono (unhide HB1).size)) (cells7 (unhide HG wx hb)) (unhide HS)
    have hc18 := hide (f18_any (some ⟨w.heap.size, 0, none⟩) none ft w2 (fun wx hb => f26_some w.heap.size 0 x l c wx (unhide HZ wx ((unhide HB2).trans (hb.mono (unhide HB2).size))).blk) (fun wx _ => f26_none wx))
    clear hs
    go_wp2_with (go_at_call 18; refine (unhide hc18).mono ?_)
    rintro e w3 ⟨b3, rfl, hb3⟩
    have HB3 := hide ((unhide HB2).trans (hb3.mono (unhide HB2).size))
    have HW3 : Hid (Below w.heap.size w w3) := (unhide HB1).trans ((unhide HB3).mono (unhide HB1).size)
    clear hb3 hc18
    cases b3 with
    | true =>
      go_wp2
      go_ret
      exact ⟨rfl, unhide HW3⟩
    | false =>
      have hc19 := hide (f19_none ver w.heap.size 0 x l c tf tg th nf f g ft w3 (unhide HZ w3 (unhide HB3)))
      go_wp2_with (go_at_call 19; refine (unhide hc19).mono ?_)
      rintro e w4 ⟨a2, c2, a4, c4, rfl, hlp, hb4⟩
      have HLP := hide hlp
      have HB4 := hide ((unhide HB3).trans (hb4.mono (unhide HB3).size))
      clear hlp hb4 hc19
      go_upto_region 6 with fail
      obtain ⟨W5, hW5⟩ : ∃ W, w4.alloc (.cells #[.int .i64 ver, .slice (x 0) (l 0) (c 0), .slice (x 1) (l 1) (c 1), .slice a2 (l 2) c2, .slice (x 3) (l 3) (c 3), .slice a4 (l 4) c4, .slice (x 5) (l 5) (c 5), .slice (x 6) (l 6) (c 6), .pointer none, .string ft] 54) = W := ⟨_, rfl⟩
      have hb5 : Below w4.heap.size w4 W5 := by rw [← hW5]; exact (Below.refl _ w4).alloc (Nat.le_refl _) _
      have hg5 : W5.heap[w4.heap.size]? = some (.cells #[.int .i64 ver, .slice (x 0) (l 0) (c 0), .slice (x 1) (l 1) (c 1), .slice a2 (l 2) c2, .slice (x 3) (l 3) (c 3), .slice a4 (l 4) c4, .slice (x 5) (l 5) (c 5), .slice (x 6) (l 6) (c 6), .pointer none, .string ft] 54 (0, 0)) := by rw [← hW5]; exact heap_alloc_new w4 _
      have HB5 := hide ((unhide HB4).trans (hb5.mono (unhide HB4).size))
      have HW5 : Hid (Below w.heap.size w W5) := (unhide HB1).trans ((unhide HB5).mono (unhide HB1).size)
      have hc20 : Hid (Calls Tryf.prog 20 #[.pointer (some ⟨w4.heap.size, 0, none⟩)] W5 (Found W5 S)) := by rw [← unhide HSS]; exact f20_of w4.heap.size W5 _ (f28_none w4.heap.size ver (upd x a2 a4) l (upd c c2 c4) ft nf f g W5 (file_at hg5 (unhide HS)) ((unhide H).nums.below (unhide HW5) rfl) ((unhide HLP).below hb5 rfl))
      rw [hW5]
      clear hW5 hb5 hg5 HLP
      go_wp2_with (go_at_call 20; refine (unhide hc20).mono ?_)
      rintro e w6 ⟨v10, rfl, hf6, hb6⟩
      have HF6 := hide hf6
      have HB6 := hide ((unhide HB5).trans (hb6.mono (unhide HB5).size))
      have HW6 : Hid (Below w.heap.size w w6) := (unhide HB1).trans ((unhide HB6).mono (unhide HB1).size)
      have hc21 : Hid (Calls Tryf.prog 21 #[.int .i64 ver, .pointer (some ⟨w.heap.size, 0, none⟩), .pointer none, .string ft] w6 (Wanted w6 S)) := by rw [← unhide HSS]; exact f21_none ver w.heap.size 0 x l c tf tg th nf f g ft w6 (unhide HZ w6 (unhide HB6))
      clear hf6 hb6 hc20
      go_wp2_with (go_at_call 21; refine (unhide hc21).mono ?_)
      rintro e w7 ⟨v11, rfl, hw7⟩
      have hf7 := (unhide HF6).below (unhide hw7).2
      have HW7 : Hid (Below w.heap.size w w7) := (unhide HW6).trans ((unhide hw7).2.mono (unhide HW6).size)
      obtain ⟨fa, fc, rfl⟩ := hf7.slice
      obtain ⟨wa, wd, rfl⟩ := (unhide hw7).1.slice
      have HFG := hide hf7.get
      have HWG := hide (unhide hw7).1.get
      clear hf7 hw7 hc21 HF6 HB6 HB5 HB4 HB3 HB2 HB1 HZ HG HW2 HW3 HW5 HW6 HS H HSS 
      go_wp2
      go_loopw [12] (fun v12 wr => ∃ (k : Nat), k ≤ S.length ∧ v12 = .int .i64 k ∧ Hid (Below w7.heap.size w7 wr)) (fun v12 _ => S.length - (intOf v12).toNat)
      case atStart => exact ⟨0, Nat.zero_le _, rfl, Below.refl _ _⟩
      case round =>
        obtain ⟨k, hk, rfl, HA⟩ := hrel
        by_cases hkl : k < S.length
        · obtain ⟨r1, s1, rfl, hs1, c0, c1⟩ := unhide HFG k hkl
          obtain ⟨r2, s2, rfl, hs2, c2⟩ := unhide HWG k hkl
          rw [hs1] at hs2
          cases hs2
          have d0 : wr.cell? ⟨r1, k * 3, none⟩ = some (.string s1) := ((unhide HA).cell (p := ⟨r1, k * 3, none⟩) (World.block_lt_of_cell? w7 _ c0)).trans c0
          have d1 : wr.cell? ⟨r1, k * 3 + 1, none⟩ = some (.bool false) := ((unhide HA).cell (p := ⟨r1, k * 3 + 1, none⟩) (World.block_lt_of_cell? w7 _ c1)).trans c1
          have d2 : wr.cell? ⟨r2, k, none⟩ = some (.string s1) := ((unhide HA).cell (p := ⟨r2, k, none⟩) (World.block_lt_of_cell? w7 _ c2)).trans c2
          clear c0 c1 c2 HFG HWG hs1
          go_upto_region 13 with fail
          go_quiet (fail)
          have HA2 : Hid (Below w7.heap.size w7 (wr.drewN nq)) := (unhide HA).trans ((below_drewN (Below.refl _ wr) nq).mono (unhide HA).size)
          go_wp2
          go_roundw
          case rel => exact ⟨k + 1, by omega, by go_num, HA2⟩
          case measure => simp [intOf]; omega
        · obtain rfl : k = S.length := by omega
          clear HFG HWG
          go_wp2
          go_ret
          exact ⟨rfl, (unhide HW7).trans ((unhide HA).mono (unhide HW7).size)⟩

set_option maxRecDepth 20000 in
set_option maxHeartbeats 2000000 in
theorem f4_some (ver : Int) (x : Nat → Option Addr) (l c : Nat → Nat) (tf tg th nf f g : Nat → Int) (zb2 zo2 : Nat) (y : Nat → Option Addr) (m d : Nat → Nat) (tf' tg' th' nf' f' g' : Nat → Int) (ft : ByteArray) (w : World) (h : RawAt w x l tf tg th nf f g) (h' : RawAt w y m tf' tg' th' nf' f' g') (hz : ∀ k, k < 7 → w.cell? ⟨zb2, zo2 + k, none⟩ = some (.slice (y k) (m k) (d k))) :
    Calls Tryf.prog 4 #[.int .i64 ver, .agg #[.slice (x 0) (l 0) (c 0), .slice (x 1) (l 1) (c 1), .slice (x 2) (l 2) (c 2), .slice (x 3) (l 3) (c 3), .slice (x 4) (l 4) (c 4), .slice (x 5) (l 5) (c 5), .slice (x 6) (l 6) (c 6)], .pointer (some ⟨zb2, zo2, none⟩), .string ft] w (Right w) := by
  have H := hide h
  obtain ⟨S, hS⟩ : ∃ S : List ByteArray, verSecs ver true ++ blockSecs l true nf f ++ (blockSecs m false nf' f' ++ (if (holds ft 0 || holds ft 10) = true then [{ data := #[51, 46, 51] }] else [])) = S := ⟨_, rfl⟩
  have hlS : S.length ≤ 100 := by rw [← hS]; simp only [List.length_append]; have h1 := blockSecs_len l true nf f; have h4 := blockSecs_len m false nf' f'; have h2 : (verSecs ver true).length ≤ 1 := (by unfold verSecs; split <;> simp; split <;> simp); have h3 : (if (holds ft 0 || holds ft 10) = true then [({ data := #[51, 46, 51] } : ByteArray)] else []).length ≤ 1 := (by split <;> simp); omega
  have HSS := hide hS
  clear hS
  have H' := hide h'
  have hlt2 : zb2 < w.heap.size := World.block_lt_of_cell? w _ (hz 0 (by omega))
  have HZC : Hid (∀ wx, Below w.heap.size w wx → ∀ k, k < 7 → wx.cell? ⟨zb2, zo2 + k, none⟩ = some (.slice (y k) (m k) (d k))) := fun wx hb k hk => (hb.cell (p := ⟨zb2, zo2 + k, none⟩) hlt2).trans (hz k hk)
  obtain ⟨W1, hW1⟩ : ∃ W, w.alloc (.cells #[.slice (x 0) (l 0) (c 0), .slice (x 1) (l 1) (c 1), .slice (x 2) (l 2) (c 2), .slice (x 3) (l 3) (c 3), .slice (x 4) (l 4) (c 4), .slice (x 5) (l 5) (c 5), .slice (x 6) (l 6) (c 6)] 44) = W := ⟨_, rfl⟩
  have hb1 : Below w.heap.size w W1 := by rw [← hW1]; exact (Below.refl _ w).alloc (Nat.le_refl _) _
  have hg1 : W1.heap[w.heap.size]? = some (.cells #[.slice (x 0) (l 0) (c 0), .slice (x 1) (l 1) (c 1), .slice (x 2) (l 2) (c 2), .slice (x 3) (l 3) (c 3), .slice (x 4) (l 4) (c 4), .slice (x 5) (l 5) (c 5), .slice (x 6) (l 6) (c 6)] 44 (0, 0)) := by rw [← hW1]; exact heap_alloc_new w _
  have hs1 : W1.heap.size = w.heap.size + 1 := by rw [← hW1]; simp
  have HB1 := hide hb1
  have HG : Hid (∀ wx, Below W1.heap.size W1 wx → wx.heap[w.heap.size]? = some (.cells #[.slice (x 0) (l 0) (c 0), .slice (x 1) (l 1) (c 1), .slice (x 2) (l 2) (c 2), .slice (x 3) (l 3) (c 3), .slice (x 4) (l 4) (c 4), .slice (x 5) (l 5) (c 5), .slice (x 6) (l 6) (c 6)] 44 (0, 0))) := fun wx hb => (hb.block _ (by rw [hs1]; omega)).trans hg1
  have hc17 := hide (f17_some ver x l c zb2 zo2 y m d ft W1 (unhide HZC W1 hb1))
  have q0 : W1.cell? ⟨w.heap.size, 0, none⟩ = some (.slice (x 0) (l 0) (c 0)) := cell_of_row _ _ 0 _ _ _ hg1
  have q1 : W1.cell? ⟨w.heap.size, 1, none⟩ = some (.slice (x 1) (l 1) (c 1)) := cell_of_row _ _ 1 _ _ _ hg1
  have q2 : W1.cell? ⟨w.heap.size, 2, none⟩ = some (.slice (x 2) (l 2) (c 2)) := cell_of_row _ _ 2 _ _ _ hg1
  have q3 : W1.cell? ⟨w.heap.size, 3, none⟩ = some (.slice (x 3) (l 3) (c 3)) := cell_of_row _ _ 3 _ _ _ hg1
  have q4 : W1.cell? ⟨w.heap.size, 4, none⟩ = some (.slice (x 4) (l 4) (c 4)) := cell_of_row _ _ 4 _ _ _ hg1
  have q5 : W1.cell? ⟨w.heap.size, 5, none⟩ = some (.slice (x 5) (l 5) (c 5)) := cell_of_row _ _ 5 _ _ _ hg1
  have q6 : W1.cell? ⟨w.heap.size, 6, none⟩ = some (.slice (x 6) (l 6) (c 6)) := cell_of_row _ _ 6 _ _ _ hg1
  clear hb1 hg1 hs1 h h' hz hlt2
  go_enter Tryf.func4, Tryf.ntmps4
  go_wp2_with (go_at_call 17; refine (unhide hc17).mono ?_)
  rintro e w2 ⟨b, rfl, hs, hb2⟩
  have HB2 := hide hb2
  clear hb2 hW1 hc17 q0 q1 q2 q3 q4 q5 q6
  cases b with
  | false =>
    go_wp2
    go_ret
    exact ⟨rfl, (unhide HB1).trans ((unhide HB2).mono (unhide HB1).size)⟩
  | true =>
    obtain ⟨hsa, hsb, hsf⟩ := hs rfl
    have HS := hide hsa
    have HS2 := hide hsb
    have HFT := hide hsf
    clear hsa hsb hsf
    have HW2 : Hid (Below w.heap.size w w2) := (unhide HB1).trans ((unhide HB2).mono (unhide HB1).size)
    have HZ : Hid (∀ wx, Below W1.heap.size W1 wx → ZAt wx w.heap.size 0 x l c tf tg th nf f g) := fun wx hb =>
      (unhide H).zat ((unhide HB1).trans (hb.mono (unhide HB1).size)) (cells7 (unhide HG wx hb)) (unhide HS)
    have HZ2 : Hid (∀ wx, Below w.heap.size w wx → ZAt wx zb2 zo2 y m d tf' tg' th' nf' f' g') := fun wx hb => (unhide H').zat hb (unhide HZC wx hb) (unhide HS2)
    have hc18 := hide (f18_any (some ⟨w.heap.size, 0, none⟩) (some ⟨zb2, zo2, none⟩) ft w2 (fun wx hb => f26_some w.heap.size 0 x l c wx (unhide HZ wx ((unhide HB2).trans (hb.mono (unhide HB2).size))).blk) (fun wx hb => f26_some zb2 zo2 y m d wx (unhide HZ2 wx ((unhide HW2).trans (hb.mono (unhide HW2).size))).blk))
    clear hs
    go_wp2_with (go_at_call 18; refine (unhide hc18).mono ?_)
    rintro e w3 ⟨b3, rfl, hb3⟩
    have HB3 := hide ((unhide HB2).trans (hb3.mono (unhide HB2).size))
    have HW3 : Hid (Below w.heap.size w w3) := (unhide HB1).trans ((unhide HB3).mono (unhide HB1).size)
    clear hb3 hc18
    cases b3 with
    | true =>
      go_wp2
      go_ret
      exact ⟨rfl, unhide HW3⟩
    | false =>
      have hc19 := hide (f19_some ver w.heap.size 0 zb2 zo2 x l c tf tg th nf f g y m d tf' tg' th' nf' f' g' ft w3 (unhide HZ w3 (unhide HB3)) (unhide HZ2 w3 (unhide HW3)))
      go_wp2_with (go_at_call 19; refine (unhide hc19).mono ?_)
      rintro e w4 ⟨a2, c2, a4, c4, vb, b2, d2, b4, d4, rfl, hlp, hbk, hlq, hb4⟩
      have HLP := hide hlp
      have HBK := hide hbk
      have HLQ := hide hlq
      have HB4 := hide ((unhide HB3).trans (hb4.mono (unhide HB3).size))
      clear hlp hb4 hc19 hbk hlq
      go_upto_region 6 with fail
      obtain ⟨W5, hW5⟩ : ∃ W, w4.alloc (.cells #[.int .i64 ver, .slice (x 0) (l 0) (c 0), .slice (x 1) (l 1) (c 1), .slice a2 (l 2) c2, .slice (x 3) (l 3) (c 3), .slice a4 (l 4) c4, .slice (x 5) (l 5) (c 5), .slice (x 6) (l 6) (c 6), .pointer (some ⟨vb, 0, none⟩), .string ft] 54) = W := ⟨_, rfl⟩
      have hb5 : Below w4.heap.size w4 W5 := by rw [← hW5]; exact (Below.refl _ w4).alloc (Nat.le_refl _) _
      have hg5 : W5.heap[w4.heap.size]? = some (.cells #[.int .i64 ver, .slice (x 0) (l 0) (c 0), .slice (x 1) (l 1) (c 1), .slice a2 (l 2) c2, .slice (x 3) (l 3) (c 3), .slice a4 (l 4) c4, .slice (x 5) (l 5) (c 5), .slice (x 6) (l 6) (c 6), .pointer (some ⟨vb, 0, none⟩), .string ft] 54 (0, 0)) := by rw [← hW5]; exact heap_alloc_new w4 _
      have HB5 := hide ((unhide HB4).trans (hb5.mono (unhide HB4).size))
      have HW5 : Hid (Below w.heap.size w W5) := (unhide HB1).trans ((unhide HB5).mono (unhide HB1).size)
      have hc20 : Hid (Calls Tryf.prog 20 #[.pointer (some ⟨w4.heap.size, 0, none⟩)] W5 (Found W5 S)) := by rw [← unhide HSS]; exact f20_of w4.heap.size W5 _ (f28_some w4.heap.size vb ver (upd x a2 a4) (upd y b2 b4) l (upd c c2 c4) m (upd d d2 d4) ft nf f g nf' f' g' W5 (file_at hg5 (unhide HS)) ((unhide H).nums.below (unhide HW5) rfl) ((unhide HLP).below hb5 rfl) ((unhide HBK).below hb5 rfl) ((unhide H').nums.below (unhide HW5) rfl) ((unhide HLQ).below hb5 rfl))
      rw [hW5]
      clear hW5 hb5 hg5 HLP HBK HLQ
      go_wp2_with (go_at_call 20; refine (unhide hc20).mono ?_)
      rintro e w6 ⟨v10, rfl, hf6, hb6⟩
      have HF6 := hide hf6
      have HB6 := hide ((unhide HB5).trans (hb6.mono (unhide HB5).size))
      have HW6 : Hid (Below w.heap.size w w6) := (unhide HB1).trans ((unhide HB6).mono (unhide HB1).size)
      have hc21 : Hid (Calls Tryf.prog 21 #[.int .i64 ver, .pointer (some ⟨w.heap.size, 0, none⟩), .pointer (some ⟨zb2, zo2, none⟩), .string ft] w6 (Wanted w6 S)) := by rw [← unhide HSS]; exact f21_some ver w.heap.size 0 zb2 zo2 x l c tf tg th nf f g y m d tf' tg' th' nf' f' g' ft (unhide HFT) w6 (unhide HZ w6 (unhide HB6)) (unhide HZ2 w6 (unhide HW6))
      clear hf6 hb6 hc20
      go_wp2_with (go_at_call 21; refine (unhide hc21).mono ?_)
      rintro e w7 ⟨v11, rfl, hw7⟩
      have hf7 := (unhide HF6).below (unhide hw7).2
      have HW7 : Hid (Below w.heap.size w w7) := (unhide HW6).trans ((unhide hw7).2.mono (unhide HW6).size)
      obtain ⟨fa, fc, rfl⟩ := hf7.slice
      obtain ⟨wa, wd, rfl⟩ := (unhide hw7).1.slice
      have HFG := hide hf7.get
      have HWG := hide (unhide hw7).1.get
      clear hf7 hw7 hc21 HF6 HB6 HB5 HB4 HB3 HB2 HB1 HZ HG HW2 HW3 HW5 HW6 HS H HSS HZ2 H' HZC HS2 HFT
      go_wp2
      go_loopw [12] (fun v12 wr => ∃ (k : Nat), k ≤ S.length ∧ v12 = .int .i64 k ∧ Hid (Below w7.heap.size w7 wr)) (fun v12 _ => S.length - (intOf v12).toNat)
      case atStart => exact ⟨0, Nat.zero_le _, rfl, Below.refl _ _⟩
      case round =>
        obtain ⟨k, hk, rfl, HA⟩ := hrel
        by_cases hkl : k < S.length
        · obtain ⟨r1, s1, rfl, hs1, c0, c1⟩ := unhide HFG k hkl
          obtain ⟨r2, s2, rfl, hs2, c2⟩ := unhide HWG k hkl
          rw [hs1] at hs2
          cases hs2
          have d0 : wr.cell? ⟨r1, k * 3, none⟩ = some (.string s1) := ((unhide HA).cell (p := ⟨r1, k * 3, none⟩) (World.block_lt_of_cell? w7 _ c0)).trans c0
          have d1 : wr.cell? ⟨r1, k * 3 + 1, none⟩ = some (.bool false) := ((unhide HA).cell (p := ⟨r1, k * 3 + 1, none⟩) (World.block_lt_of_cell? w7 _ c1)).trans c1
          have d2 : wr.cell? ⟨r2, k, none⟩ = some (.string s1) := ((unhide HA).cell (p := ⟨r2, k, none⟩) (World.block_lt_of_cell? w7 _ c2)).trans c2
          clear c0 c1 c2 HFG HWG hs1
          go_upto_region 13 with fail
          go_quiet (fail)
          have HA2 : Hid (Below w7.heap.size w7 (wr.drewN nq)) := (unhide HA).trans ((below_drewN (Below.refl _ wr) nq).mono (unhide HA).size)
          go_wp2
          go_roundw
          case rel => exact ⟨k + 1, by omega, by go_num, HA2⟩
          case measure => simp [intOf]; omega
        · obtain rfl : k = S.length := by omega
          clear HFG HWG
          go_wp2
          go_ret
          exact ⟨rfl, (unhide HW7).trans ((unhide HA).mono (unhide HW7).size)⟩

end Go.Proofs.Qxb6613638aFmt
