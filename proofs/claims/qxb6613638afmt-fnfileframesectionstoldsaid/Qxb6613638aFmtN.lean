/-
  The walk of frame, with a second block.
-/
import Derived.Test.Qxb6613638aFmtM
namespace Go.Proofs.Qxb6613638aFmt
open Go.RowKit Go.Extern

set_option maxRecDepth 20000 in
set_option maxHeartbeats 2000000 in
theorem f28_some (fb vb : Nat) (ver : Int) (x x2 : Nat → Option Addr) (l c l2 c2 : Nat → Nat) (ft : ByteArray) (f g g' f2 k2 k2' : Nat → Int) (w : World) (h : FileAt w fb ver x l c (some ⟨vb, 0, none⟩) ft) (hN : NumsAt w (x 0) (l 0) f) (hL : LeapsAt w (x 4) (l 4) g g')
    (h2 : BlkAt w vb 0 x2 l2 c2) (hN2 : NumsAt w (x2 0) (l2 0) f2) (hL2 : LeapsAt w (x2 4) (l2 4) k2 k2') :
    Calls Tryf.prog 28 #[.pointer (some ⟨fb, 0, none⟩)] w (Found w (verSecs ver true ++ blockSecs l true f g ++ (blockSecs l2 false f2 k2 ++ (if (holds ft 0 || holds ft 10) = true then [{ data := #[51, 46, 51] }] else [])))) := by
  have H := hide h
  have HN := hide hN
  have HL := hide hL
  have H2 := hide h2
  have HN2 := hide hN2
  have HL2 := hide hL2
  have q0 := h.ver
  have q8 := h.v2
  have q9 := h.foot
  have hlt : fb < w.heap.size := World.block_lt_of_cell? w _ q0
  obtain ⟨Sv, hSv⟩ : ∃ S, verSecs ver true = S := ⟨_, rfl⟩
  obtain ⟨Sb, hSb⟩ : ∃ S, blockSecs l true f g = S := ⟨_, rfl⟩
  obtain ⟨Sg, hSg⟩ : ∃ S, blockSecs l2 false f2 k2 = S := ⟨_, rfl⟩
  obtain ⟨Sf, hSf⟩ : ∃ S : List ByteArray, (if (holds ft 0 || holds ft 10) = true then [{ data := #[51, 46, 51] }] else []) = S := ⟨_, rfl⟩
  obtain ⟨S, hSS⟩ : ∃ S, Sv ++ Sb ++ (Sg ++ Sf) = S := ⟨_, rfl⟩
  rw [hSv, hSb, hSg, hSf, hSS]
  have hlv : Sv.length ≤ 1 := by rw [← hSv]; unfold verSecs; split <;> simp; split <;> simp
  have hlb : Sb.length ≤ 4 := by rw [← hSb]; exact blockSecs_len _ _ _ _
  have hlg : Sg.length ≤ 4 := by rw [← hSg]; exact blockSecs_len _ _ _ _
  have hlf : Sf.length ≤ 1 := by rw [← hSf]; split <;> simp
  have hlS : S.length ≤ 10 := by rw [← hSS, List.length_append, List.length_append, List.length_append]; omega
  have HSS := hide hSS
  have HSv := hide hSv
  have HSb := hide hSb
  have HSg := hide hSg
  have HSf := hide hSf
  clear hSv hSb hSg hSf hSS h hN hL h2 hN2 hL2
  have G3 := hide g3
  have G5 := hide g5
  go_enter Tryf.func28, Tryf.ntmps28
  go_upto_block 0 with fail
  go_cut [3] (fun v wx => ∃ xs, Hid (ErrsL wx w.heap.size v xs Sv ∧ NilOr xs v ∧ Below w.heap.size w wx))
  case first =>
    go_upto_region 2 with fail
    go_cut [8] (fun v wx => wx = w ∧ v = .bool (decide (ver < 1 ∨ 4 < ver)))
    case first =>
      by_cases h1 : ver < 1
      · have d1 : decide (ver < 1) = true := by simp [h1]
        go_wp2
        go_meet
        exact ⟨rfl, by simp [h1]⟩
      · have d1 : decide (ver < 1) = false := by simp [h1]
        go_wp2
        go_meet
        exact ⟨rfl, congrArg Value.bool (decide_eq_decide.2 (by constructor <;> omega))⟩
    case rest =>
      obtain ⟨hw, rfl⟩ := hcut
      obtain rfl := hw.symm
      by_cases hv : ver < 1 ∨ 4 < ver
      · have hS : [({ data := #[51, 46, 49] } : ByteArray)] = Sv := by rw [← unhide HSv]; unfold verSecs; rw [if_pos hv]
        have HS := hide hS
        rw [decide_eq_true hv]
        clear hS hv
        go_wp2_with (go_at_call 33; refine (unhide G3 _ _).mono ?_)
        rintro e w7 ⟨b, gg, msg, rfl, hrest⟩
        have HR : Hid (Erred w { data := #[51, 46, 49] } (.returned (.iface 85 (.pointer (some ⟨b, 0, none⟩)))) w7) := ⟨b, gg, msg, rfl, hrest⟩
        clear hrest
        go_wp2_with (at_builtin; refine errs_push rfl _ _ rfl rfl rfl (errs_nil w w.heap.size) (Below.refl _ w) rfl (unhide HR) (by simp) ?_)
        intro v8 w8 h8 _
        go_wp2
        go_meet
        exact ⟨_, (by rw [← unhide HS]; exact ⟨(unhide h8).1, fun h => absurd h (by simp), (unhide h8).2⟩ : Hid (ErrsL w8 w.heap.size v8 [.iface 85 (.pointer (some ⟨b, 0, none⟩))] Sv ∧ NilOr [.iface 85 (.pointer (some ⟨b, 0, none⟩))] v8 ∧ Below w.heap.size w w8))⟩
      · rw [decide_eq_false hv]
        by_cases h1 : ver = 1
        · have hS : [({ data := #[51] } : ByteArray)] = Sv := by rw [← unhide HSv]; unfold verSecs; rw [if_neg hv, if_pos (by simp [h1])]
          have HS := hide hS
          clear hS hv
          subst h1
          go_wp2_with (go_at_call 33; refine (unhide G5 _).mono ?_)
          rintro e w7 ⟨b, gg, msg, rfl, hrest⟩
          have HR : Hid (Erred w { data := #[51] } (.returned (.iface 85 (.pointer (some ⟨b, 0, none⟩)))) w7) := ⟨b, gg, msg, rfl, hrest⟩
          clear hrest
          go_wp2_with (at_builtin; refine errs_push rfl _ _ rfl rfl rfl (errs_nil w w.heap.size) (Below.refl _ w) rfl (unhide HR) (by simp) ?_)
          intro v8 w8 h8 _
          go_wp2
          go_meet
          exact ⟨_, (by rw [← unhide HS]; exact ⟨(unhide h8).1, fun h => absurd h (by simp), (unhide h8).2⟩ : Hid (ErrsL w8 w.heap.size v8 [.iface 85 (.pointer (some ⟨b, 0, none⟩))] Sv ∧ NilOr [.iface 85 (.pointer (some ⟨b, 0, none⟩))] v8 ∧ Below w.heap.size w w8))⟩
        · have hS : ([] : List ByteArray) = Sv := by rw [← unhide HSv]; unfold verSecs; rw [if_neg hv, if_neg (by simp [h1])]
          have HS := hide hS
          have d1 : (ver == 1) = false := by simp [h1]
          have d2 : decide (1 < ver) = true := decide_eq_true (by omega)
          clear hS hv h1
          go_wp2
          go_meet
          exact ⟨[], (by rw [← unhide HS]; exact ⟨errs_nil _ _, fun _ => rfl, Below.refl _ _⟩ : Hid (ErrsL w w.heap.size (.slice none 0 0) [] Sv ∧ NilOr [] (.slice none 0 0) ∧ Below w.heap.size w w))⟩
  case rest =>
    obtain ⟨xs, HC⟩ := hcut
    have hxs : xs.length ≤ 1 := by rw [(unhide HC).1.2.1]; exact hlv
    have hbw := (unhide HC).2.2
    have hV1 : Hid (BlkAt wc fb 1 x l c) := ⟨fun k hk => (hbw.cell (p := ⟨fb, 1 + k, none⟩) hlt).trans ((unhide H).v1.cell k hk), (unhide H).v1.small⟩
    have hN1 : Hid (NumsAt wc (x 0) (l 0) f) := (unhide HN).below hbw rfl
    have hL1 : Hid (LeapsAt wc (x 4) (l 4) g g') := (unhide HL).below hbw rfl
    clear hbw
    go_wp2_with (go_at_call 34; refine (f34_any fb 1 x l c _ _ 4 true rfl f g g' wc (unhide hV1) (unhide hN1) (unhide hL1)).mono ?_)
    rintro e w1 ⟨v', ys, rfl, hF⟩
    rw [unhide HSb] at hF
    have hys : ys.length ≤ 4 := by rw [(unhide hF).1.2.1]; exact hlb
    clear hV1 hN1 hL1
    go_wp2_with (at_builtin; refine errs_joined rfl _ _ rfl rfl rfl (unhide HC).1 (unhide HC).2.1 (unhide HC).2.2 rfl (unhide hF).1 (unhide hF).2 (by omega) (by omega) ?_)
    intro v2 w2 h2
    obtain ⟨zs, hzs⟩ : ∃ zs, xs ++ ys = zs := ⟨_, rfl⟩
    obtain ⟨Sx, hSx⟩ : ∃ S, Sv ++ Sb = S := ⟨_, rfl⟩
    rw [hzs, hSx] at h2
    have hzl : zs.length ≤ 5 := by rw [← hzs, List.length_append]; omega
    have HSx := hide hSx
    have q8 : w2.cell? ⟨fb, 8, none⟩ = some (.pointer (some ⟨vb, 0, none⟩)) := ((unhide h2).2.2.cell (p := ⟨fb, 8, none⟩) hlt).trans (unhide H).v2
    have q9 : w2.cell? ⟨fb, 9, none⟩ = some (.string ft) := ((unhide h2).2.2.cell (p := ⟨fb, 9, none⟩) hlt).trans (unhide H).foot
    clear hzs hSx HC hF G3 G5
    go_upto_if 84 with fail
    go_cut [3] (fun v wx => ∃ xs, Hid (ErrsL wx w.heap.size v xs (Sx ++ (Sg ++ Sf)) ∧ Below w.heap.size w wx))
    case first =>
      have hbw := (unhide h2).2.2
      have hlt2 : vb < w.heap.size := World.block_lt_of_cell? w _ ((unhide H2).cell 0 (by omega))
      have hV2 : Hid (BlkAt w2 vb 0 x2 l2 c2) := ⟨fun k hk => (hbw.cell (p := ⟨vb, 0 + k, none⟩) hlt2).trans ((unhide H2).cell k hk), (unhide H2).small⟩
      have hN2 : Hid (NumsAt w2 (x2 0) (l2 0) f2) := (unhide HN2).below hbw rfl
      have hL2 : Hid (LeapsAt w2 (x2 4) (l2 4) k2 k2') := (unhide HL2).below hbw rfl
      clear hbw
      go_wp2_with (go_at_call 34; refine (f34_any vb 0 x2 l2 c2 _ _ 8 false rfl f2 k2 k2' w2 (unhide hV2) (unhide hN2) (unhide hL2)).mono ?_)
      rintro e w3 ⟨v', ys, rfl, hF⟩
      rw [unhide HSg] at hF
      have hys : ys.length ≤ 4 := by rw [(unhide hF).1.2.1]; exact hlg
      clear hV2 hN2 hL2
      go_wp2_with (at_builtin; refine errs_joined rfl _ _ rfl rfl rfl (unhide h2).1 (unhide h2).2.1 (unhide h2).2.2 rfl (unhide hF).1 (unhide hF).2 (by omega) (by omega) ?_)
      intro v4 w4 h4
      obtain ⟨ts, hts⟩ : ∃ ts, zs ++ ys = ts := ⟨_, rfl⟩
      rw [hts] at h4
      have htl : ts.length ≤ 9 := by rw [← hts, List.length_append]; omega
      have q9 : w4.cell? ⟨fb, 9, none⟩ = some (.string ft) := ((unhide h4).2.2.cell (p := ⟨fb, 9, none⟩) hlt).trans (unhide H).foot
      obtain ⟨bd, hbd⟩ : ∃ bd, (holds ft 0 || holds ft 10) = bd := ⟨_, rfl⟩
      clear hts hF h2
      go_wp2_with (go_at_call 35; refine (f35_any ft w4).mono ?_)
      intro e w5 he
      rw [hbd] at he
      obtain ⟨v11, rfl, hneq, hgd, hm⟩ := he.neq
      rcases hm with ⟨rfl, b, gg, msg, hv, hrest⟩ | ⟨rfl, _, hb5⟩
      · cases hv
        have hS : [({ data := #[51, 46, 51] } : ByteArray)] = Sf := by rw [← unhide HSf, if_pos hbd]
        have HS := hide hS
        have HR : Hid (Erred w4 { data := #[51, 46, 51] } (.returned (.iface 85 (.pointer (some ⟨b, 0, none⟩)))) w5) := ⟨b, gg, msg, rfl, hrest⟩
        clear hrest hS he hneq hgd
        go_wp2_with (at_builtin; refine errs_push rfl _ _ rfl rfl rfl (unhide h4).1 (unhide h4).2.2 rfl (unhide HR) (by omega) ?_)
        intro v8 w8 h8 _
        go_wp2
        go_meet
        exact ⟨_, (by rw [← unhide HS]; exact h8 : Hid (ErrsL w8 w.heap.size v8 (ts ++ [.iface 85 (.pointer (some ⟨b, 0, none⟩))]) (Sx ++ (Sg ++ Sf)) ∧ Below w.heap.size w w8))⟩
      · have hS : ([] : List ByteArray) = Sf := by rw [← unhide HSf, if_neg (by rw [hbd]; simp)]
        have HS := hide hS
        have HB4 := hide ((unhide h4).1.below hb5)
        have HB5 := hide ((unhide h4).2.2.trans (hb5.mono (unhide h4).2.2.size))
        clear hS he hb5
        go_wp2
        go_meet
        exact ⟨ts, (by rw [← unhide HS, ← List.append_assoc, List.append_nil]; exact ⟨unhide HB4, unhide HB5⟩ : Hid (ErrsL w5 w.heap.size v4 ts (Sx ++ (Sg ++ Sf)) ∧ Below w.heap.size w w5))⟩
    case rest =>
      obtain ⟨vs, HC⟩ := hcut
      have e : Sx ++ (Sg ++ Sf) = S := by rw [← unhide HSx]; exact unhide HSS
      rw [e] at HC
      obtain ⟨va, vc, rfl⟩ := (unhide HC).1.slice
      have HE := hide (unhide HC).1.get
      have HB := hide (unhide HC).2
      clear HSS HSx e HC q0 q8 q9 H HN HL HSv HSb HSf HSg H2 HN2 HL2
      go_wp2
      go_loopw [5, 121] (fun v5 v121 wr => ∃ (k : Nat), k ≤ S.length ∧ v121 = .int .i64 k ∧ Hid (FindsL wr wc.heap.size v5 (S.take k) ∧ Below wc.heap.size wc wr)) (fun _ v121 _ => S.length - (intOf v121).toNat)
      case atStart => exact ⟨0, Nat.zero_le _, rfl, by rw [List.take_zero]; exact finds_nil _ _, Below.refl _ _⟩
      case round =>
        obtain ⟨k, hk, rfl, HA⟩ := hrel
        by_cases hkl : k < S.length
        · obtain ⟨r, b, gg, s, m, rfl, hs, c0, c1, c2, c3, c4⟩ := unhide HE k hkl
          have hA := (unhide HA).2
          have d0 : wr.cell? ⟨r, k, none⟩ = some (.iface 85 (.pointer (some ⟨b, 0, none⟩))) := (hA.cell (p := ⟨r, k, none⟩) (World.block_lt_of_cell? wc _ c0)).trans c0
          have d1 : wr.cell? ⟨b, 0, none⟩ = some (.slice (some ⟨gg, 0, none⟩) 1 1) := (hA.cell (p := ⟨b, 0, none⟩) (World.block_lt_of_cell? wc _ c1)).trans c1
          have d2 : wr.cell? ⟨gg, 0, none⟩ = some (.string s) := (hA.cell (p := ⟨gg, 0, none⟩) (World.block_lt_of_cell? wc _ c2)).trans c2
          have d3 : wr.cell? ⟨gg, 1, none⟩ = some (.bool false) := (hA.cell (p := ⟨gg, 1, none⟩) (World.block_lt_of_cell? wc _ c3)).trans c3
          have d4 : wr.cell? ⟨gg, 2, none⟩ = some (.string m) := (hA.cell (p := ⟨gg, 2, none⟩) (World.block_lt_of_cell? wc _ c4)).trans c4
          have htk : S.take (k + 1) = S.take k ++ [s] := by rw [List.take_add_one, hs]; rfl
          have HT := hide htk
          have has := Tryf.assert85 (.pointer (some ⟨b, 0, none⟩)) wr
          have D2 := hide d2
          have D3 := hide d3
          have D4 := hide d4
          have htl : (S.take k).length ≤ 100 := by rw [List.length_take]; omega
          have HTL := hide htl
          clear c0 c1 c2 c3 c4 hA htk d2 d3 d4 htl HE hs
          go_wp2_with (at_builtin; refine finds_push rfl _ _ rfl rfl rfl (unhide HA).1 (unhide HA).2 rfl (unhide D2) (unhide D3) (unhide D4) (unhide HTL) ?_)
          intro v6 w6 h6
          rw [← unhide HT] at h6
          clear d0 d1 has D2 D3 D4 HTL
          go_wp2
          go_roundw
          case rel => exact ⟨k + 1, by omega, by go_num, h6⟩
          case measure => simp [intOf]; omega
        · obtain rfl : k = S.length := by omega
          clear HE
          go_wp2
          go_ret
          refine ⟨_, rfl, ?_, ?_⟩
          · have h5 := (unhide HA).1
            rw [List.take_length] at h5
            exact h5.base (unhide HB).size
          · exact (unhide HB).trans ((unhide HA).2.mono (unhide HB).size)
end Go.Proofs.Qxb6613638aFmt
