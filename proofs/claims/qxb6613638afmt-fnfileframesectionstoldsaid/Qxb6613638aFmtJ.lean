/-
  The walk of framed.
-/
import Derived.Test.Qxb6613638aFmtI2
import Derived.Test.Qxb6613638aFmtD
import Derived.Test.Qxb6613638aFmtE
import Derived.Test.Qxb6613638aFmtG
import Derived.Deep.DeepCutAuto
import Derived.BigQuiet
import Derived.BigRegion
import Derived.Deep.RegionWith
import Derived.WalkSmall
import Derived.Laws.EntriesVeiled
namespace Go.Proofs.Qxb6613638aFmt
open Go.RowKit Go.Extern

/-- Does one of the first n numbers not fit? -/
def misfit (f : Nat → Int) (n : Nat) : Bool := (List.range n).any fun k => !fits (f k)

theorem FirstBad.cases {f : Nat → Int} {n : Nat} {z : Int} (h : FirstBad f n z) : (z = -1 ∧ misfit f n = false) ∨ ∃ j : Nat, z = j ∧ j < n ∧ misfit f n = true := by
  rcases h with ⟨rfl, h⟩ | ⟨j, rfl, hj, h⟩
  · refine .inl ⟨rfl, ?_⟩
    unfold misfit
    rw [List.any_eq_false]
    intro k hk
    simp [h k (List.mem_range.1 hk)]
  · refine .inr ⟨j, rfl, hj, ?_⟩
    unfold misfit
    rw [List.any_eq_true]
    exact ⟨j, List.mem_range.2 hj, by simp [h]⟩

/-- The sections of what keeps a block from being written. -/
def blockSecs (l : Nat → Nat) (short : Bool) (f g : Nat → Int) : List ByteArray :=
  (if l 1 = l 0 then [] else [{ data := #[51, 46, 49] }]) ++ (if (bad (l 6) (l 2) || bad (l 5) (l 2)) = true then [{ data := #[51, 46, 49] }] else []) ++
    (if short = true then (if misfit f (l 0) = true then [{ data := #[51, 46, 50] }] else []) ++ (if misfit g (l 4) = true then [{ data := #[51, 46, 50] }] else []) else [])

/-- It hands back the errors of these sections, in a row of its own. -/
def Framed (w : World) (secs : List ByteArray) (e : Ending) (w' : World) : Prop := ∃ v xs, e = .returned v ∧ Hid (ErrsL w' w.heap.size v xs secs ∧ Below w.heap.size w w')

theorem NumsAt.below {w w' : World} {a : Option Addr} {n : Nat} {f : Nat → Int} (h : NumsAt w a n f) {B : Nat} (hb : Below B w w') (hB : B = w.heap.size) : NumsAt w' a n f := by
  subst hB
  refine ⟨?_, h.2⟩
  rcases h.1 with h0 | ⟨b, off, ha, hc⟩
  · exact .inl h0
  · exact .inr ⟨b, off, ha, fun k hk => (hb.cell (p := ⟨b, off + k, none⟩) (World.block_lt_of_cell? w _ (hc k hk))).trans (hc k hk)⟩

theorem LeapsAt.below {w w' : World} {a : Option Addr} {n : Nat} {f g : Nat → Int} (h : LeapsAt w a n f g) {B : Nat} (hb : Below B w w') (hB : B = w.heap.size) : LeapsAt w' a n f g := by
  subst hB
  refine ⟨?_, h.2⟩
  rcases h.1 with h0 | ⟨b, off, ha, hc⟩
  · exact .inl h0
  · exact .inr ⟨b, off, ha, fun k hk => ⟨(hb.cell (p := ⟨b, off + k * 2, none⟩) (World.block_lt_of_cell? w _ (hc k hk).1)).trans (hc k hk).1, (hb.cell (p := ⟨b, off + k * 2 + 1, none⟩) (World.block_lt_of_cell? w _ (hc k hk).2)).trans (hc k hk).2⟩⟩

theorem e12 (nm : ByteArray) (z t : Int) (wx : World) : Calls Tryf.prog 33 #[.string { data := #[51, 46, 50] }, .string { data := #[116, 104, 101, 32, 37, 115, 39, 115, 32, 116, 114, 97, 110, 115, 105, 116, 105, 111, 110, 32, 37, 100, 32, 97, 116, 32, 37, 100, 32, 100, 111, 101, 115, 32, 110, 111, 116, 32, 102, 105, 116, 32, 105, 110, 32, 51, 50, 32, 98, 105, 116, 115] }, .slice (some ⟨wx.heap.size, 0, none⟩) 3 3]
    (wx.alloc (.cells #[.iface 9 (.string nm), .iface 3 (.int .i64 z), .iface 2 (.int .i64 t)] 20)) (Erred wx { data := #[51, 46, 50] }) :=
  f33_new _ _ #[.iface 9 (.string nm), .iface 3 (.int .i64 z), .iface 2 (.int .i64 t)] 3 rfl 20 [(0, 115, false), (1, 100, false), (2, 100, false)] (by kernel_rfl) (by decide) (by
    intro v hv
    simp at hv
    rcases hv with rfl | rfl | rfl
    · exact .string _
    · exact .int _
    · exact .int64 _) wx

theorem e15 (nm : ByteArray) (z t : Int) (wx : World) : Calls Tryf.prog 33 #[.string { data := #[51, 46, 50] }, .string { data := #[116, 104, 101, 32, 37, 115, 39, 115, 32, 108, 101, 97, 112, 45, 115, 101, 99, 111, 110, 100, 32, 114, 101, 99, 111, 114, 100, 32, 37, 100, 44, 32, 111, 99, 99, 117, 114, 114, 101, 110, 99, 101, 32, 37, 100, 44, 32, 100, 111, 101, 115, 32, 110, 111, 116, 32, 102, 105, 116, 32, 105, 110, 32, 51, 50, 32, 98, 105, 116, 115] }, .slice (some ⟨wx.heap.size, 0, none⟩) 3 3]
    (wx.alloc (.cells #[.iface 9 (.string nm), .iface 3 (.int .i64 z), .iface 2 (.int .i64 t)] 20)) (Erred wx { data := #[51, 46, 50] }) :=
  f33_new _ _ #[.iface 9 (.string nm), .iface 3 (.int .i64 z), .iface 2 (.int .i64 t)] 3 rfl 20 [(0, 115, false), (1, 100, false), (2, 100, false)] (by kernel_rfl) (by decide) (by
    intro v hv
    simp at hv
    rcases hv with rfl | rfl | rfl
    · exact .string _
    · exact .int _
    · exact .int64 _) wx

/-- Whether such an error is nil. -/
theorem MayErr.neq {w w' : World} {b : Bool} {sec : ByteArray} {e : Ending} (h : MayErr w b sec e w') : ∃ v, e = .returned v ∧ (∀ wx, (binOp .neq 79 v .nilIface).run Tryf.prog wx = .ok (.bool b) wx) ∧
    (∀ k wx, (eqGuard .neq 79 (.tmp k) (.const .nilIface) v .nilIface).run Tryf.prog wx = .ok () wx) ∧ MayErr w b sec (.returned v) w' := by
  have hif : Tryf.prog.isIface 79 = true := by kernel_rfl
  rcases h with ⟨rfl, b, g, msg, rfl, hrest⟩ | ⟨rfl, rfl, hb⟩
  · exact ⟨_, rfl, fun wx => run_neq_iface_nil wx 79 hif _ _, fun k wx => by simp [go_sem, eqGuard], .inl ⟨rfl, b, g, msg, rfl, hrest⟩⟩
  · exact ⟨_, rfl, fun wx => run_neq_nil_nil_at wx 79 hif, fun k wx => by simp [go_sem, eqGuard], .inr ⟨rfl, rfl, hb⟩⟩

set_option maxRecDepth 20000 in
set_option maxHeartbeats 2000000 in
theorem f34_any (bb o : Nat) (x : Nat → Option Addr) (l c : Nat → Nat) (nm hn : ByteArray) (ts : Int) (short : Bool) (hts : (ts == 4) = short) (f g g' : Nat → Int) (w : World) (h : BlkAt w bb o x l c) (hN : NumsAt w (x 0) (l 0) f) (hL : LeapsAt w (x 4) (l 4) g g') :
    Calls Tryf.prog 34 #[.pointer (some ⟨bb, o, none⟩), .string nm, .string hn, .int .i64 ts] w (Framed w (blockSecs l short f g)) := by
  have HN := hide hN
  have HL := hide hL
  clear hN hL
  have q0 : w.cell? ⟨bb, o, none⟩ = some (.slice (x 0) (l 0) (c 0)) := h.cell 0 (by omega)
  have q1 := h.cell 1 (by omega)
  have s0 := h.small 0 (by omega)
  have s1 := h.small 1 (by omega)
  obtain ⟨S1, hS1⟩ : ∃ S : List ByteArray, (if l 1 = l 0 then [] else [{ data := #[51, 46, 49] }]) = S := ⟨_, rfl⟩
  have hSl : S1.length ≤ 1 := by rw [← hS1]; split <;> simp
  have HS1 := hide hS1
  clear hS1
  obtain ⟨S, hS⟩ : ∃ S, blockSecs l short f g = S := ⟨_, rfl⟩
  rw [hS]
  have HSS := hide hS
  clear hS
  go_enter Tryf.func34, Tryf.ntmps34
  go_upto_region 2 with fail
  go_quiet (fail)
  obtain ⟨W1, hW1⟩ : ∃ W, w.drewN nq = W := ⟨_, rfl⟩
  have hb1 : Below w.heap.size w W1 := by rw [← hW1]; exact below_drewN (Below.refl _ _) nq
  have h1 : BlkAt W1 bb o x l c := by rw [← hW1]; exact ⟨h.cell, h.small⟩
  rw [hW1]
  clear hW1
  go_upto_if 25 with fail
  go_cut [9] (fun v wx => ∃ xs, Hid (ErrsL wx w.heap.size v xs S1 ∧ Below w.heap.size w wx))
  case first =>
    have HE : Hid (∀ wx, Calls Tryf.prog 33 #[.string { data := #[51, 46, 49] }, .string { data := #[116, 104, 101, 32, 37, 115, 32, 104, 111, 108, 100, 115, 32, 37, 100, 32, 116, 114, 97, 110, 115, 105, 116, 105, 111, 110, 32, 116, 121, 112, 101, 115, 32, 102, 111, 114, 32, 37, 100, 32, 116, 114, 97, 110, 115, 105, 116, 105, 111, 110, 32, 116, 105, 109, 101, 115, 59, 32, 116, 105, 109, 101, 99, 110, 116, 32, 99, 111, 117, 110, 116, 115, 32, 98, 111, 116, 104] }, .slice (some ⟨wx.heap.size, 0, none⟩) 3 3] (wx.alloc (.cells #[.iface 9 (.string nm), .iface 3 (.int .i64 (l 1)), .iface 3 (.int .i64 (l 0))] 20)) (Erred wx { data := #[51, 46, 49] })) := fun wx =>
      f33_new { data := #[51, 46, 49] } { data := #[116, 104, 101, 32, 37, 115, 32, 104, 111, 108, 100, 115, 32, 37, 100, 32, 116, 114, 97, 110, 115, 105, 116, 105, 111, 110, 32, 116, 121, 112, 101, 115, 32, 102, 111, 114, 32, 37, 100, 32, 116, 114, 97, 110, 115, 105, 116, 105, 111, 110, 32, 116, 105, 109, 101, 115, 59, 32, 116, 105, 109, 101, 99, 110, 116, 32, 99, 111, 117, 110, 116, 115, 32, 98, 111, 116, 104] } #[.iface 9 (.string nm), .iface 3 (.int .i64 (l 1)), .iface 3 (.int .i64 (l 0))] 3 rfl 20 [(0, 115, false), (1, 100, false), (2, 100, false)] (by kernel_rfl) (by decide) (by
        intro v hv
        simp at hv
        rcases hv with rfl | rfl | rfl
        · exact .string _
        · exact .int _
        · exact .int _) wx
    have HE2 : Hid (∀ wx : World, Calls Tryf.prog 33 #[.string { data := #[51, 46, 49] }, .string { data := #[116, 104, 101, 32, 37, 115, 32, 104, 111, 108, 100, 115, 32, 37, 100, 32, 116, 114, 97, 110, 115, 105, 116, 105, 111, 110, 32, 116, 121, 112, 101, 115, 32, 102, 111, 114, 32, 37, 100, 32, 116, 114, 97, 110, 115, 105, 116, 105, 111, 110, 32, 116, 105, 109, 101, 115, 59, 32, 116, 105, 109, 101, 99, 110, 116, 32, 99, 111, 117, 110, 116, 115, 32, 98, 111, 116, 104] }, .slice (some ⟨wx.heap.size, 0, none⟩) 3 3] ((wx.alloc (.cells #[.iface 9 (.string nm), .iface 3 (.int .i64 (l 1)), .iface 3 (.int .i64 (l 0))] 20)).drew) (Erred wx.drew { data := #[51, 46, 49] })) := fun wx => unhide HE wx.drew
    by_cases hne : l 1 = l 0
    · have hbne : ((l 1 : Int) != (l 0 : Int)) = false := by simp [hne]
      have HQ := hide hne
      clear hne HE
      go_wp2
      go_meet
      exact ⟨[], (by rw [← unhide HS1, if_pos (unhide HQ)]; exact ⟨errs_nil _ _, hb1⟩ : Hid (ErrsL W1 w.heap.size (.slice none 0 0) [] S1 ∧ Below w.heap.size w W1))⟩
    · have hbne : ((l 1 : Int) != (l 0 : Int)) = true := by simp; omega
      have HQ := hide hne
      clear hne
      have r0 : W1.cell? ⟨bb, o, none⟩ = some (.slice (x 0) (l 0) (c 0)) := h1.cell 0 (by omega)
      have r1 := h1.cell 1 (by omega)
      go_wp2
      go_region_with (go_at_call 33; refine (unhide HE2 _).mono ?_; rintro e w' ⟨b, g, msg, rfl, hrest⟩; have HH := hide hrest; clear hrest)
      all_goals (
        have he : Erred W1.drew { data := #[51, 46, 49] } (.returned (.iface 85 (.pointer (some ⟨b, 0, none⟩)))) w' := ⟨b, g, msg, rfl, unhide HH⟩
        have HF := hide (errs_first (hb1.drew) he (w'.tape w'.drawn (Question.appendCap 1 0 79) % 9223372036854775807) (by unfold maxLen; omega))
        clear HH he HE HE2
        go_wp2_with fail
        go_meet
        refine ⟨[.iface 85 (.pointer (some ⟨b, 0, none⟩))], ?_⟩
        rw [← unhide HS1, if_neg (unhide HQ)]
        exact HF)
  case rest =>
    obtain ⟨xs, HC⟩ := hcut
    have hlt : bb < w.heap.size := World.block_lt_of_cell? w _ q0
    have hwc : BlkAt wc bb o x l c := ⟨fun k hk => ((unhide HC).2.cell (p := ⟨bb, o + k, none⟩) hlt).trans (h.cell k hk), h.small⟩
    go_upto_region 5 with (go_at_call 37; refine (f37_any bb o x l c 0 wc hwc).mono ?_; rintro e w3 ⟨rfl, hb3⟩)
    obtain ⟨W3, hW3⟩ : ∃ W, w3.alloc (.cells #[.int .u8 0, .int .u32 (l 6), .int .u32 (l 5), .int .u32 (l 4), .int .u32 (l 0), .int .u32 (l 2), .int .u32 (l 3)] 95) = W := ⟨_, rfl⟩
    have hd3 : HdrAt W3 w3.heap.size (l 6) (l 5) (l 2) := by
      rw [← hW3]
      exact ⟨cell_of_row _ _ 1 _ _ _ (heap_alloc_new w3 _), cell_of_row _ _ 2 _ _ _ (heap_alloc_new w3 _), cell_of_row _ _ 5 _ _ _ (heap_alloc_new w3 _)⟩
    have hbc3 : Below wc.heap.size wc W3 := by rw [← hW3]; exact hb3.alloc hb3.size _
    have hE3 : Hid (ErrsL W3 w.heap.size u9 xs S1) := (unhide HC).1.below hbc3
    have hB3 : Hid (Below w.heap.size w W3) := (unhide HC).2.trans (hbc3.mono (unhide HC).2.size)
    have hxs : xs.length ≤ 1 := by rw [(unhide HC).1.2.1]; exact hSl
    rw [hW3]
    clear hW3 hb3 hbc3 HC hwc
    obtain ⟨bd, hbd⟩ : ∃ bd, (bad (l 6) (l 2) || bad (l 5) (l 2)) = bd := ⟨_, rfl⟩
    go_wp2_with (go_at_call 38; refine (f38_any _ hn (l 6) (l 5) (l 2) W3 hd3).mono ?_)
    intro e w4 he
    rw [hbd] at he
    obtain ⟨v11, rfl, hneq, hgd, hm⟩ := he.neq
    have HM := hide hm
    clear hm he
    go_upto_if 50 with fail
    go_cut [9] (fun v wx => ∃ xs, Hid (ErrsL wx w.heap.size v xs (S1 ++ (if bd = true then [{ data := #[51, 46, 49] }] else [])) ∧ Below w.heap.size w wx))
    case first =>
      rcases unhide HM with ⟨rfl, b, g, msg, hv, hrest⟩ | ⟨rfl, _, hb4⟩
      · cases hv
        have HR : Hid (Erred W3 { data := #[51, 46, 49] } (.returned (.iface 85 (.pointer (some ⟨b, 0, none⟩)))) w4) := ⟨b, g, msg, rfl, hrest⟩
        clear hrest HM hneq hgd
        go_wp2_with (at_builtin; refine errs_push rfl _ _ rfl rfl rfl (unhide hE3) (unhide hB3) rfl (unhide HR) (by omega) ?_)
        intro v5 w5 h5 _
        go_wp2
        go_meet
        exact ⟨_, (by rw [if_pos rfl]; exact h5 : Hid (ErrsL w5 w.heap.size v5 (xs ++ [.iface 85 (.pointer (some ⟨b, 0, none⟩))]) (S1 ++ (if true = true then [{ data := #[51, 46, 49] }] else [])) ∧ Below w.heap.size w w5))⟩
      · have HB4 := hide ((unhide hE3).below hb4)
        have HB5 := hide ((unhide hB3).trans (hb4.mono (unhide hB3).size))
        clear hb4
        go_wp2
        go_meet
        exact ⟨_, (by rw [if_neg (by simp), List.append_nil]; exact ⟨unhide HB4, unhide HB5⟩ : Hid (ErrsL w4 w.heap.size u9 xs (S1 ++ (if false = true then [{ data := #[51, 46, 49] }] else [])) ∧ Below w.heap.size w w4))⟩
    case rest =>
      obtain ⟨S2, hS2⟩ : ∃ S : List ByteArray, S1 ++ (if bd = true then [{ data := #[51, 46, 49] }] else []) = S := ⟨_, rfl⟩
      rw [hS2] at hcut
      have hSl2 : S2.length ≤ 2 := by rw [← hS2, List.length_append]; split <;> simp <;> omega
      have HS2 := hide hS2
      obtain ⟨ys, HC⟩ := hcut
      clear hE3 hB3 hd3 HM hneq hgd hS2
      have hS := unhide HSS
      have hS' : S2 ++ (if short = true then (if misfit f (l 0) = true then [{ data := #[51, 46, 50] }] else []) ++ (if misfit g (l 4) = true then [{ data := #[51, 46, 50] }] else []) else []) = S := by
        rw [← hS]
        unfold blockSecs
        rw [hbd, unhide HS1, unhide HS2]
      have HS := hide hS'
      clear hS hS' HSS
      cases short with
      | true =>
        have hb5 := (unhide HC).2
        have p0 : wc.cell? ⟨bb, o, none⟩ = some (.slice (x 0) (l 0) (c 0)) := (hb5.cell (p := ⟨bb, o, none⟩) hlt).trans (h.cell 0 (by omega))
        have E12 := hide (e12 nm)
        have hys : ys.length ≤ 2 := by rw [(unhide HC).1.2.1]; exact hSl2
        go_upto_region 10 with fail
        obtain ⟨W5, hW5⟩ : ∃ W, wc.alloc (.cells #[.func (.func 39) #[] #[]] 86) = W := ⟨_, rfl⟩
        have hbc5 : Below wc.heap.size wc W5 := by rw [← hW5]; exact (Below.refl _ wc).alloc (Nat.le_refl _) _
        have hfn : W5.cell? ⟨wc.heap.size, 0, none⟩ = some (.func (.func 39) #[] #[]) := by rw [← hW5]; exact cell_of_row _ _ 0 _ _ _ (heap_alloc_new wc _)
        have HFL : Hid (some wc.heap.size ≠ u9.ownBlock) := fun e => by have := ((unhide HC).1.1.lt _ e.symm).2; omega
        have hB5 : Hid (Below w.heap.size w W5) := hb5.trans (hbc5.mono hb5.size)
        have hE5 : Hid (ErrsL W5 w.heap.size u9 ys S2) := (unhide HC).1.below hbc5
        have r0 : W5.cell? ⟨bb, o, none⟩ = some (.slice (x 0) (l 0) (c 0)) := ((unhide hB5).cell (p := ⟨bb, o, none⟩) hlt).trans (h.cell 0 (by omega))
        have hN5 : Hid (NumsAt W5 (x 0) (l 0) f) := (unhide HN).below (unhide hB5) rfl
        have HF := hide hfn
        rw [hW5]
        clear hW5 hbc5 p0 hb5 HC hfn
        obtain ⟨wf, hwf⟩ : ∃ n, wc.heap.size = n := ⟨_, rfl⟩
        rw [hwf] at HF HFL ⊢
        clear hwf
        go_wp2_with (go_at_call 40; refine (f40_any (x 0) (l 0) (c 0) f s0 wf W5 (unhide hN5) (unhide HF)).mono ?_)
        rintro e ⟨z, rfl, hz⟩
        have HZ := hide hz
        clear hz
        go_upto_if 64 with fail
        go_cut [9] (fun v wx => ∃ xs, Hid (ErrsL wx w.heap.size v xs (S2 ++ (if misfit f (l 0) = true then [{ data := #[51, 46, 50] }] else [])) ∧ Below w.heap.size w wx ∧ wx.cell? ⟨wf, 0, none⟩ = some (.func (.func 39) #[] #[])))
        case first =>
          rcases (unhide HZ).cases with ⟨rfl, hm⟩ | ⟨j, rfl, hj, hm⟩
          · have HM := hide hm
            clear hm
            go_wp2
            go_meet
            exact ⟨ys, (by rw [if_neg (by rw [unhide HM]; simp), List.append_nil]; exact ⟨unhide hE5, unhide hB5, unhide HF⟩ : Hid (ErrsL W5 w.heap.size u9 ys (S2 ++ (if misfit f (l 0) = true then [{ data := #[51, 46, 50] }] else [])) ∧ Below w.heap.size w W5 ∧ W5.cell? ⟨wf, 0, none⟩ = some (.func (.func 39) #[] #[])))⟩
          · rcases (unhide hN5).1 with h0 | ⟨nb, no, hx0, hc⟩
            · omega
            · have pj := hc j hj
              rw [hx0] at r0
              have HM := hide hm
              clear hm hc hx0
              go_wp2_with (go_at_call 33; refine (unhide E12 _ _ _).mono ?_)
              rintro e w7 ⟨b, g, msg, rfl, hrest⟩
              have HR : Hid (Erred W5 { data := #[51, 46, 50] } (.returned (.iface 85 (.pointer (some ⟨b, 0, none⟩)))) w7) := ⟨b, g, msg, rfl, hrest⟩
              clear hrest
              go_wp2_with (at_builtin; refine errs_push rfl _ _ rfl rfl rfl (unhide hE5) (unhide hB5) rfl (unhide HR) (by omega) ?_)
              intro v8 w8 h8 k8
              have HF8 := hide (unhide k8 _ _ (unhide HF) (unhide HFL))
              clear k8
              go_wp2
              go_meet
              exact ⟨_, (by rw [if_pos (unhide HM)]; exact ⟨(unhide h8).1, (unhide h8).2, unhide HF8⟩ : Hid (ErrsL w8 w.heap.size v8 (ys ++ [.iface 85 (.pointer (some ⟨b, 0, none⟩))]) (S2 ++ (if misfit f (l 0) = true then [{ data := #[51, 46, 50] }] else [])) ∧ Below w.heap.size w w8 ∧ w8.cell? ⟨wf, 0, none⟩ = some (.func (.func 39) #[] #[])))⟩
        case rest =>
          obtain ⟨S3, hS3⟩ : ∃ S : List ByteArray, S2 ++ (if misfit f (l 0) = true then [{ data := #[51, 46, 50] }] else []) = S := ⟨_, rfl⟩
          rw [hS3] at hcut
          have hSl3 : S3.length ≤ 3 := by rw [← hS3, List.length_append]; split <;> simp <;> omega
          have HS3 : Hid (S3 ++ (if misfit g (l 4) = true then [{ data := #[51, 46, 50] }] else []) = S) := by
            have e := unhide HS
            rw [if_pos trivial, ← List.append_assoc, hS3] at e
            exact e
          obtain ⟨zs, HC⟩ := hcut
          have hzs : zs.length ≤ 3 := by rw [(unhide HC).1.2.1]; exact hSl3
          clear hE5 hB5 hS3 HF HFL hN5 HZ E12
          have r4 : wc.cell? ⟨bb, o + 4, none⟩ = some (.slice (x 4) (l 4) (c 4)) := ((unhide HC).2.1.cell (p := ⟨bb, o + 4, none⟩) hlt).trans (h.cell 4 (by omega))
          have hL6 : Hid (LeapsAt wc (x 4) (l 4) g g') := (unhide HL).below (unhide HC).2.1 rfl
          have s4 := h.small 4 (by omega)
          go_wp2_with (go_at_call 42; refine (f42_any (x 4) (l 4) (c 4) g g' s4 wf wc (unhide hL6) (unhide HC).2.2).mono ?_)
          rintro e w9 ⟨⟨z, rfl, hz⟩, hb9⟩
          have hB9 : Hid (Below w.heap.size w w9) := (unhide HC).2.1.trans (hb9.mono (unhide HC).2.1.size)
          have hE9 : Hid (ErrsL w9 w.heap.size u9 zs S3) := (unhide HC).1.below hb9
          have r4 : w9.cell? ⟨bb, o + 4, none⟩ = some (.slice (x 4) (l 4) (c 4)) := ((unhide hB9).cell (p := ⟨bb, o + 4, none⟩) hlt).trans (h.cell 4 (by omega))
          have hL9 : Hid (LeapsAt w9 (x 4) (l 4) g g') := (unhide HL).below (unhide hB9) rfl
          have HZ := hide hz
          have E15 := hide (e15 nm)
          clear hz hb9 HC hL6
          go_upto_if 89 with fail
          go_cut [9] (fun v wx => ∃ xs, Hid (ErrsL wx w.heap.size v xs S ∧ Below w.heap.size w wx))
          case first =>
            rcases (unhide HZ).cases with ⟨rfl, hm⟩ | ⟨j, rfl, hj, hm⟩
            · have HM := hide hm
              clear hm
              go_wp2
              go_meet
              exact ⟨zs, (by rw [← unhide HS3, if_neg (by rw [unhide HM]; simp), List.append_nil]; exact ⟨unhide hE9, unhide hB9⟩ : Hid (ErrsL w9 w.heap.size u9 zs S ∧ Below w.heap.size w w9))⟩
            · rcases (unhide hL9).1 with h0 | ⟨nb, no, hx0, hc⟩
              · omega
              · have pj := (hc j hj).1
                rw [hx0] at r4
                have HM := hide hm
                clear hm hc hx0
                go_wp2_with (go_at_call 33; refine (unhide E15 _ _ _).mono ?_)
                rintro e w7 ⟨b, gg, msg, rfl, hrest⟩
                have HR : Hid (Erred w9 { data := #[51, 46, 50] } (.returned (.iface 85 (.pointer (some ⟨b, 0, none⟩)))) w7) := ⟨b, gg, msg, rfl, hrest⟩
                clear hrest
                go_wp2_with (at_builtin; refine errs_push rfl _ _ rfl rfl rfl (unhide hE9) (unhide hB9) rfl (unhide HR) (by omega) ?_)
                intro v8 w8 h8 _
                go_wp2
                go_meet
                exact ⟨_, (by rw [← unhide HS3, if_pos (unhide HM)]; exact h8 : Hid (ErrsL w8 w.heap.size v8 (zs ++ [.iface 85 (.pointer (some ⟨b, 0, none⟩))]) S ∧ Below w.heap.size w w8))⟩
          case rest =>
            obtain ⟨vs, HC⟩ := hcut
            go_wp2
            go_ret
            exact ⟨_, vs, rfl, HC⟩
      | false =>
        go_wp2
        go_ret
        refine ⟨_, ys, rfl, ?_⟩
        rw [← unhide HS, if_neg (by simp), List.append_nil]
        exact HC
end Go.Proofs.Qxb6613638aFmt
