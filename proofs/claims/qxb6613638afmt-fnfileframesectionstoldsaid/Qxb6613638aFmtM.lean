/-
  The walk of frame.
-/
import Derived.Test.Qxb6613638aFmtL
import Derived.Test.Qxb6613638aFmtH
import Derived.Deep.CutBlock
namespace Go.Proofs.Qxb6613638aFmt
open Go.RowKit Go.Extern

theorem g3 (z : Int) (wx : World) : Calls Tryf.prog 33 #[.string { data := #[51, 46, 49] }, .string { data := #[116, 104, 101, 32, 118, 101, 114, 115, 105, 111, 110, 32, 105, 115, 32, 37, 100, 44, 32, 110, 111, 110, 101, 32, 111, 102, 32, 49, 44, 32, 50, 44, 32, 51, 32, 97, 110, 100, 32, 52] }, .slice (some ⟨wx.heap.size, 0, none⟩) 1 1]
    (wx.alloc (.cells #[.iface 3 (.int .i64 z)] 20)) (Erred wx { data := #[51, 46, 49] }) :=
  f33_new _ _ #[.iface 3 (.int .i64 z)] 1 rfl 20 [(0, 100, false)] (by kernel_rfl) (by decide) (by
    intro v hv
    simp at hv
    subst hv
    · exact .int _) wx

theorem g5 (wx : World) : Calls Tryf.prog 33 #[.string { data := #[51] }, .string { data := #[97, 32, 118, 101, 114, 115, 105, 111, 110, 32, 49, 32, 102, 105, 108, 101, 32, 104, 111, 108, 100, 115, 32, 110, 111, 32, 37, 115] }, .slice (some ⟨wx.heap.size, 0, none⟩) 1 1]
    (wx.alloc (.cells #[.iface 9 (.string { data := #[118, 101, 114, 115, 105, 111, 110, 32, 50, 43, 32, 100, 97, 116, 97, 32, 98, 108, 111, 99, 107] })] 20)) (Erred wx { data := #[51] }) :=
  f33_new _ _ #[.iface 9 (.string { data := #[118, 101, 114, 115, 105, 111, 110, 32, 50, 43, 32, 100, 97, 116, 97, 32, 98, 108, 111, 99, 107] })] 1 rfl 20 [(0, 115, false)] (by kernel_rfl) (by decide) (by
    intro v hv
    simp at hv
    subst hv
    · exact .string _) wx

theorem g7 (z : Int) (wx : World) : Calls Tryf.prog 33 #[.string { data := #[51] }, .string { data := #[97, 32, 118, 101, 114, 115, 105, 111, 110, 32, 37, 100, 32, 102, 105, 108, 101, 32, 104, 111, 108, 100, 115, 32, 97, 32, 37, 115, 44, 32, 97, 110, 100, 32, 116, 104, 101, 114, 101, 32, 105, 115, 32, 110, 111, 110, 101] }, .slice (some ⟨wx.heap.size, 0, none⟩) 2 2]
    (wx.alloc (.cells #[.iface 3 (.int .i64 z), .iface 9 (.string { data := #[118, 101, 114, 115, 105, 111, 110, 32, 50, 43, 32, 100, 97, 116, 97, 32, 98, 108, 111, 99, 107] })] 20)) (Erred wx { data := #[51] }) :=
  f33_new _ _ #[.iface 3 (.int .i64 z), .iface 9 (.string { data := #[118, 101, 114, 115, 105, 111, 110, 32, 50, 43, 32, 100, 97, 116, 97, 32, 98, 108, 111, 99, 107] })] 2 rfl 20 [(0, 100, false), (1, 115, false)] (by kernel_rfl) (by decide) (by
    intro v hv
    simp at hv
    rcases hv with rfl | rfl
    · exact .int _
    · exact .string _) wx

theorem g15 (s : ByteArray) (wx : World) : Calls Tryf.prog 33 #[.string { data := #[51] }, .string { data := #[116, 104, 101, 32, 102, 111, 111, 116, 101, 114, 39, 115, 32, 84, 90, 32, 115, 116, 114, 105, 110, 103, 32, 105, 115, 32, 37, 113, 44, 32, 98, 117, 116, 32, 111, 110, 108, 121, 32, 97, 32, 102, 105, 108, 101, 32, 119, 105, 116, 104, 32, 97, 32, 37, 115, 32, 104, 97, 115, 32, 97, 32, 102, 111, 111, 116, 101, 114] }, .slice (some ⟨wx.heap.size, 0, none⟩) 2 2]
    (wx.alloc (.cells #[.iface 9 (.string s), .iface 9 (.string { data := #[118, 101, 114, 115, 105, 111, 110, 32, 50, 43, 32, 100, 97, 116, 97, 32, 98, 108, 111, 99, 107] })] 20)) (Erred wx { data := #[51] }) :=
  f33_new _ _ #[.iface 9 (.string s), .iface 9 (.string { data := #[118, 101, 114, 115, 105, 111, 110, 32, 50, 43, 32, 100, 97, 116, 97, 32, 98, 108, 111, 99, 107] })] 2 rfl 20 [(0, 113, false), (1, 115, false)] (by kernel_rfl) (by decide) (by
    intro v hv
    simp at hv
    rcases hv with rfl | rfl
    · exact .string _
    · exact .string _) wx

/-- A file lies at fb. -/
structure FileAt (w : World) (fb : Nat) (ver : Int) (x : Nat → Option Addr) (l c : Nat → Nat) (p : Option Addr) (ft : ByteArray) : Prop where
  ver : w.cell? ⟨fb, 0, none⟩ = some (.int .i64 ver)
  v1 : BlkAt w fb 1 x l c
  v2 : w.cell? ⟨fb, 8, none⟩ = some (.pointer p)
  foot : w.cell? ⟨fb, 9, none⟩ = some (.string ft)

/-- The errors' slice. -/
theorem ErrsL.slice {w : World} {B : Nat} {v : Value} {xs : List Value} {S : List ByteArray} (h : ErrsL w B v xs S) : ∃ a c, v = .slice a S.length c := by
  rcases ownsRow_cases h.1 with ⟨rfl, h0, _⟩ | ⟨g, cap, rfl, _, _⟩
  · exact ⟨none, 0, by rw [← h.2.1, h0]⟩
  · exact ⟨_, cap, by rw [← h.2.1]⟩

/-- Each of them. -/
theorem ErrsL.get {w : World} {B : Nat} {a : Option Addr} {n c : Nat} {xs : List Value} {S : List ByteArray} (h : ErrsL w B (.slice a n c) xs S) : ∀ k : Nat, k < S.length → ∃ (r b g : Nat) (s m : ByteArray), a = some ⟨r, 0, none⟩ ∧ S[k]? = some s ∧
    w.cell? ⟨r, k, none⟩ = some (.iface 85 (.pointer (some ⟨b, 0, none⟩))) ∧ w.cell? ⟨b, 0, none⟩ = some (.slice (some ⟨g, 0, none⟩) 1 1) ∧ w.cell? ⟨g, 0, none⟩ = some (.string s) ∧ w.cell? ⟨g, 1, none⟩ = some (.bool false) ∧ w.cell? ⟨g, 2, none⟩ = some (.string m) := by
  intro k hk
  rcases ownsRow_cases h.1 with ⟨h1, h0, h2⟩ | ⟨r, cap, h1, _, hc⟩
  · have := h.2.1
    omega
  · cases h1
    have hx : k < xs.length := by rw [h.2.1]; exact hk
    obtain ⟨b, g, m, e1, e2, e3, e4, e5, _, _⟩ := h.2.2 k _ _ (List.getElem?_eq_getElem hx) (List.getElem?_eq_getElem hk)
    exact ⟨r, b, g, _, m, rfl, List.getElem?_eq_getElem hk, by rw [← e1]; exact hc k _ (List.getElem?_eq_getElem hx), e2, e3, e4, e5⟩

theorem Tryf.assert85 (v : Value) (w : World) : (Instr.typeAssert (.iface 85 v) 79 85 false).run Tryf.prog w = .ok v w := by kernel_rfl

/-- What the version asks. -/
def verSecs (ver : Int) (has : Bool) : List ByteArray :=
  if ver < 1 ∨ 4 < ver then [{ data := #[51, 46, 49] }] else if (ver = 1) = (has = true) then [{ data := #[51] }] else []

/-- It hands back findings of these sections. -/
def Found (w : World) (secs : List ByteArray) (e : Ending) (w' : World) : Prop := ∃ v, e = .returned v ∧ FindsL w' w.heap.size v secs ∧ Below w.heap.size w w'

set_option maxRecDepth 20000 in
set_option maxHeartbeats 2000000 in
theorem f28_none (fb : Nat) (ver : Int) (x : Nat → Option Addr) (l c : Nat → Nat) (ft : ByteArray) (f g g' : Nat → Int) (w : World) (h : FileAt w fb ver x l c none ft) (hN : NumsAt w (x 0) (l 0) f) (hL : LeapsAt w (x 4) (l 4) g g') :
    Calls Tryf.prog 28 #[.pointer (some ⟨fb, 0, none⟩)] w (Found w (verSecs ver false ++ blockSecs l true f g ++ (if ft.toList.isEmpty = true then [] else [{ data := #[51] }]))) := by
  have H := hide h
  have HN := hide hN
  have HL := hide hL
  have q0 := h.ver
  have q8 := h.v2
  have q9 := h.foot
  have hlt : fb < w.heap.size := World.block_lt_of_cell? w _ q0
  obtain ⟨Sv, hSv⟩ : ∃ S, verSecs ver false = S := ⟨_, rfl⟩
  obtain ⟨Sb, hSb⟩ : ∃ S, blockSecs l true f g = S := ⟨_, rfl⟩
  obtain ⟨Sf, hSf⟩ : ∃ S : List ByteArray, (if ft.toList.isEmpty = true then [] else [{ data := #[51] }]) = S := ⟨_, rfl⟩
  obtain ⟨S, hSS⟩ : ∃ S, Sv ++ Sb ++ Sf = S := ⟨_, rfl⟩
  rw [hSv, hSb, hSf, hSS]
  have hlv : Sv.length ≤ 1 := by rw [← hSv]; unfold verSecs; split <;> simp; split <;> simp
  have hlb : Sb.length ≤ 4 := by rw [← hSb]; exact blockSecs_len _ _ _ _
  have hlf : Sf.length ≤ 1 := by rw [← hSf]; split <;> simp
  have hlS : S.length ≤ 6 := by rw [← hSS, List.length_append, List.length_append]; omega
  have HSS := hide hSS
  have HSv := hide hSv
  have HSb := hide hSb
  have HSf := hide hSf
  clear hSv hSb hSf hSS h hN hL
  have G3 := hide g3
  have G7 := hide g7
  have G15 := hide g15
  go_enter Tryf.func28, Tryf.ntmps28
  go_upto_block 0 with fail
  go_cut [3] (fun v wx => ∃ xs, Hid (ErrsL wx w.heap.size v xs Sv ∧ NilOr xs v ∧ Below w.heap.size w wx))
  case first =>
    go_upto_region 2 with fail
    go_cut [8] (fun v wx => wx = w ∧ v = .bool (decide (ver < 1 ∨ 4 < ver)))
    case first =>
      by_cases h1 : ver < 1
      · have d1 : decide (ver < 1) = true := by simp [h1]
        go_wp2
        go_meet
        exact ⟨rfl, by simp [h1]⟩
      · have d1 : decide (ver < 1) = false := by simp [h1]
        go_wp2
        go_meet
        exact ⟨rfl, congrArg Value.bool (decide_eq_decide.2 (by constructor <;> omega))⟩
    case rest =>
      obtain ⟨hw, rfl⟩ := hcut
      obtain rfl := hw.symm
      by_cases hv : ver < 1 ∨ 4 < ver
      · have hS : [({ data := #[51, 46, 49] } : ByteArray)] = Sv := by rw [← unhide HSv]; unfold verSecs; rw [if_pos hv]
        have HS := hide hS
        rw [decide_eq_true hv]
        clear hS hv
        go_wp2_with (go_at_call 33; refine (unhide G3 _ _).mono ?_)
        rintro e w7 ⟨b, gg, msg, rfl, hrest⟩
        have HR : Hid (Erred w { data := #[51, 46, 49] } (.returned (.iface 85 (.pointer (some ⟨b, 0, none⟩)))) w7) := ⟨b, gg, msg, rfl, hrest⟩
        clear hrest
        go_wp2_with (at_builtin; refine errs_push rfl _ _ rfl rfl rfl (errs_nil w w.heap.size) (Below.refl _ w) rfl (unhide HR) (by simp) ?_)
        intro v8 w8 h8 _
        go_wp2
        go_meet
        exact ⟨_, (by rw [← unhide HS]; exact ⟨(unhide h8).1, fun h => absurd h (by simp), (unhide h8).2⟩ : Hid (ErrsL w8 w.heap.size v8 [.iface 85 (.pointer (some ⟨b, 0, none⟩))] Sv ∧ NilOr [.iface 85 (.pointer (some ⟨b, 0, none⟩))] v8 ∧ Below w.heap.size w w8))⟩
      · rw [decide_eq_false hv]
        by_cases h1 : ver = 1
        · have hS : ([] : List ByteArray) = Sv := by rw [← unhide HSv]; unfold verSecs; rw [if_neg hv, if_neg (by simp [h1])]
          have HS := hide hS
          clear hS hv
          subst h1
          go_wp2
          go_meet
          exact ⟨[], (by rw [← unhide HS]; exact ⟨errs_nil _ _, fun _ => rfl, Below.refl _ _⟩ : Hid (ErrsL w w.heap.size (.slice none 0 0) [] Sv ∧ NilOr [] (.slice none 0 0) ∧ Below w.heap.size w w))⟩
        · have hS : [({ data := #[51] } : ByteArray)] = Sv := by rw [← unhide HSv]; unfold verSecs; rw [if_neg hv, if_pos (by simp [h1])]
          have HS := hide hS
          have d1 : (ver == 1) = false := by simp [h1]
          have d2 : decide (1 < ver) = true := decide_eq_true (by omega)
          clear hS hv h1
          go_wp2_with (go_at_call 33; refine (unhide G7 _ _).mono ?_)
          rintro e w7 ⟨b, gg, msg, rfl, hrest⟩
          have HR : Hid (Erred w { data := #[51] } (.returned (.iface 85 (.pointer (some ⟨b, 0, none⟩)))) w7) := ⟨b, gg, msg, rfl, hrest⟩
          clear hrest
          go_wp2_with (at_builtin; refine errs_push rfl _ _ rfl rfl rfl (errs_nil w w.heap.size) (Below.refl _ w) rfl (unhide HR) (by simp) ?_)
          intro v8 w8 h8 _
          go_wp2
          go_meet
          exact ⟨_, (by rw [← unhide HS]; exact ⟨(unhide h8).1, fun h => absurd h (by simp), (unhide h8).2⟩ : Hid (ErrsL w8 w.heap.size v8 [.iface 85 (.pointer (some ⟨b, 0, none⟩))] Sv ∧ NilOr [.iface 85 (.pointer (some ⟨b, 0, none⟩))] v8 ∧ Below w.heap.size w w8))⟩
  case rest =>
    obtain ⟨xs, HC⟩ := hcut
    have hxs : xs.length ≤ 1 := by rw [(unhide HC).1.2.1]; exact hlv
    have hbw := (unhide HC).2.2
    have hV1 : Hid (BlkAt wc fb 1 x l c) := ⟨fun k hk => (hbw.cell (p := ⟨fb, 1 + k, none⟩) hlt).trans ((unhide H).v1.cell k hk), (unhide H).v1.small⟩
    have hN1 : Hid (NumsAt wc (x 0) (l 0) f) := (unhide HN).below hbw rfl
    have hL1 : Hid (LeapsAt wc (x 4) (l 4) g g') := (unhide HL).below hbw rfl
    clear hbw
    go_wp2_with (go_at_call 34; refine (f34_any fb 1 x l c _ _ 4 true rfl f g g' wc (unhide hV1) (unhide hN1) (unhide hL1)).mono ?_)
    rintro e w1 ⟨v', ys, rfl, hF⟩
    rw [unhide HSb] at hF
    have hys : ys.length ≤ 4 := by rw [(unhide hF).1.2.1]; exact hlb
    clear hV1 hN1 hL1
    go_wp2_with (at_builtin; refine errs_joined rfl _ _ rfl rfl rfl (unhide HC).1 (unhide HC).2.1 (unhide HC).2.2 rfl (unhide hF).1 (unhide hF).2 (by omega) (by omega) ?_)
    intro v2 w2 h2
    obtain ⟨zs, hzs⟩ : ∃ zs, xs ++ ys = zs := ⟨_, rfl⟩
    obtain ⟨Sx, hSx⟩ : ∃ S, Sv ++ Sb = S := ⟨_, rfl⟩
    rw [hzs, hSx] at h2
    have hzl : zs.length ≤ 5 := by rw [← hzs, List.length_append]; omega
    have HSx := hide hSx
    have q8 : w2.cell? ⟨fb, 8, none⟩ = some (.pointer none) := ((unhide h2).2.2.cell (p := ⟨fb, 8, none⟩) hlt).trans (unhide H).v2
    have q9 : w2.cell? ⟨fb, 9, none⟩ = some (.string ft) := ((unhide h2).2.2.cell (p := ⟨fb, 9, none⟩) hlt).trans (unhide H).foot
    clear hzs hSx HC hF G3 G7
    go_upto_if 84 with fail
    go_cut [3] (fun v wx => ∃ xs, Hid (ErrsL wx w.heap.size v xs (Sx ++ Sf) ∧ Below w.heap.size w wx))
    case first =>
      cases hft : ft.toList.isEmpty with
      | true =>
        have hS : ([] : List ByteArray) = Sf := by rw [← unhide HSf, if_pos hft]
        have HS := hide hS
        clear hS
        go_wp2
        go_meet
        exact ⟨zs, (by rw [← unhide HS, List.append_nil]; exact ⟨(unhide h2).1, (unhide h2).2.2⟩ : Hid (ErrsL w2 w.heap.size v2 zs (Sx ++ Sf) ∧ Below w.heap.size w w2))⟩
      | false =>
        have hS : [({ data := #[51] } : ByteArray)] = Sf := by rw [← unhide HSf, if_neg (by rw [hft]; simp)]
        have HS := hide hS
        clear hS
        go_wp2_with (go_at_call 33; refine (unhide G15 _ _).mono ?_)
        rintro e w7 ⟨b, gg, msg, rfl, hrest⟩
        have HR : Hid (Erred w2 { data := #[51] } (.returned (.iface 85 (.pointer (some ⟨b, 0, none⟩)))) w7) := ⟨b, gg, msg, rfl, hrest⟩
        clear hrest
        go_wp2_with (at_builtin; refine errs_push rfl _ _ rfl rfl rfl (unhide h2).1 (unhide h2).2.2 rfl (unhide HR) (by omega) ?_)
        intro v8 w8 h8 _
        go_wp2
        go_meet
        exact ⟨_, (by rw [← unhide HS]; exact h8 : Hid (ErrsL w8 w.heap.size v8 (zs ++ [.iface 85 (.pointer (some ⟨b, 0, none⟩))]) (Sx ++ Sf) ∧ Below w.heap.size w w8))⟩
    case rest =>
      obtain ⟨vs, HC⟩ := hcut
      have e : Sx ++ Sf = S := by rw [← unhide HSx]; exact unhide HSS
      rw [e] at HC
      obtain ⟨va, vc, rfl⟩ := (unhide HC).1.slice
      have HE := hide (unhide HC).1.get
      have HB := hide (unhide HC).2
      clear HSS HSx e HC q0 q8 q9 H HN HL HSv HSb HSf G15
      go_wp2
      go_loopw [5, 121] (fun v5 v121 wr => ∃ (k : Nat), k ≤ S.length ∧ v121 = .int .i64 k ∧ Hid (FindsL wr wc.heap.size v5 (S.take k) ∧ Below wc.heap.size wc wr)) (fun _ v121 _ => S.length - (intOf v121).toNat)
      case atStart => exact ⟨0, Nat.zero_le _, rfl, by rw [List.take_zero]; exact finds_nil _ _, Below.refl _ _⟩
      case round =>
        obtain ⟨k, hk, rfl, HA⟩ := hrel
        by_cases hkl : k < S.length
        · obtain ⟨r, b, gg, s, m, rfl, hs, c0, c1, c2, c3, c4⟩ := unhide HE k hkl
          have hA := (unhide HA).2
          have d0 : wr.cell? ⟨r, k, none⟩ = some (.iface 85 (.pointer (some ⟨b, 0, none⟩))) := (hA.cell (p := ⟨r, k, none⟩) (World.block_lt_of_cell? wc _ c0)).trans c0
          have d1 : wr.cell? ⟨b, 0, none⟩ = some (.slice (some ⟨gg, 0, none⟩) 1 1) := (hA.cell (p := ⟨b, 0, none⟩) (World.block_lt_of_cell? wc _ c1)).trans c1
          have d2 : wr.cell? ⟨gg, 0, none⟩ = some (.string s) := (hA.cell (p := ⟨gg, 0, none⟩) (World.block_lt_of_cell? wc _ c2)).trans c2
          have d3 : wr.cell? ⟨gg, 1, none⟩ = some (.bool false) := (hA.cell (p := ⟨gg, 1, none⟩) (World.block_lt_of_cell? wc _ c3)).trans c3
          have d4 : wr.cell? ⟨gg, 2, none⟩ = some (.string m) := (hA.cell (p := ⟨gg, 2, none⟩) (World.block_lt_of_cell? wc _ c4)).trans c4
          have htk : S.take (k + 1) = S.take k ++ [s] := by rw [List.take_add_one, hs]; rfl
          have HT := hide htk
          have has := Tryf.assert85 (.pointer (some ⟨b, 0, none⟩)) wr
          have D2 := hide d2
          have D3 := hide d3
          have D4 := hide d4
          have htl : (S.take k).length ≤ 100 := by rw [List.length_take]; omega
          have HTL := hide htl
          clear c0 c1 c2 c3 c4 hA htk d2 d3 d4 htl HE hs
          go_wp2_with (at_builtin; refine finds_push rfl _ _ rfl rfl rfl (unhide HA).1 (unhide HA).2 rfl (unhide D2) (unhide D3) (unhide D4) (unhide HTL) ?_)
          intro v6 w6 h6
          rw [← unhide HT] at h6
          clear d0 d1 has D2 D3 D4 HTL
          go_wp2
          go_roundw
          case rel => exact ⟨k + 1, by omega, by go_num, h6⟩
          case measure => simp [intOf]; omega
        · obtain rfl : k = S.length := by omega
          clear HE
          go_wp2
          go_ret
          refine ⟨_, rfl, ?_, ?_⟩
          · have h5 := (unhide HA).1
            rw [List.take_length] at h5
            exact h5.base (unhide HB).size
          · exact (unhide HB).trans ((unhide HA).2.mono (unhide HB).size)
end Go.Proofs.Qxb6613638aFmt
