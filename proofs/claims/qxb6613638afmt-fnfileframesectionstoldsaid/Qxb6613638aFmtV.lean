/-
  The walk of zzBlockWant.
-/
import Derived.Test.Qxb6613638aFmtU
import Derived.Outline
namespace Go.Proofs.Qxb6613638aFmt
open Go.RowKit Go.Extern

theorem misfit_true {f : Nat → Int} {n k : Nat} (hk : k < n) (h : fits (f k) = false) : misfit f n = true := by
  unfold misfit
  rw [List.any_eq_true]
  exact ⟨k, List.mem_range.2 hk, by simp [h]⟩

theorem misfit_false {f : Nat → Int} {n : Nat} (h : ∀ k, k < n → fits (f k) = true) : misfit f n = false := by
  unfold misfit
  rw [List.any_eq_false]
  intro k hk
  simp [h k (List.mem_range.1 hk)]

set_option maxRecDepth 20000 in
set_option maxHeartbeats 2000000 in
theorem f29_any (bb o : Nat) (x : Nat → Option Addr) (l c : Nat → Nat) (short : Bool) (f g g' : Nat → Int) (w0 : World) (h : BlkAt w0 bb o x l c) (hN : NumsAt w0 (x 0) (l 0) f) (hL : LeapsAt w0 (x 4) (l 4) g g') (v : Value) (S : List ByteArray) (hSl : S.length ≤ 10) (w : World) (hw : Hid (WantL w w0.heap.size v S ∧ Below w0.heap.size w0 w)) :
    Calls Tryf.prog 29 #[.pointer (some ⟨bb, o, none⟩), .bool short, v] w (Wanted w0 (S ++ blockSecs l short f g)) := by
  have HN := hide hN
  have HL := hide hL
  have hlt : bb < w0.heap.size := World.block_lt_of_cell? w0 _ (h.cell 0 (by omega))
  have HQ : Hid (∀ wx, Below w0.heap.size w0 wx → ∀ k, k < 7 → wx.cell? ⟨bb, o + k, none⟩ = some (.slice (x k) (l k) (c k))) := fun wx hb k hk => (hb.cell (p := ⟨bb, o + k, none⟩) hlt).trans (h.cell k hk)
  have q0 : w.cell? ⟨bb, o, none⟩ = some (.slice (x 0) (l 0) (c 0)) := unhide HQ w (unhide hw).2 0 (by omega)
  have q1 : w.cell? ⟨bb, o + 1, none⟩ = some (.slice (x 1) (l 1) (c 1)) := unhide HQ w (unhide hw).2 1 (by omega)
  have s0 := h.small 0 (by omega)
  have s4 := h.small 4 (by omega)
  obtain ⟨S1, hS1⟩ : ∃ S' : List ByteArray, S ++ (if l 1 = l 0 then [] else [{ data := #[51, 46, 49] }]) = S' := ⟨_, rfl⟩
  obtain ⟨b1, hb1⟩ : ∃ b, bad (l 6) (l 2) = b := ⟨_, rfl⟩
  obtain ⟨b2, hb2⟩ : ∃ b, bad (l 5) (l 2) = b := ⟨_, rfl⟩
  obtain ⟨S2, hS2⟩ : ∃ S' : List ByteArray, S1 ++ (if (b1 || b2) = true then [{ data := #[51, 46, 49] }] else []) = S' := ⟨_, rfl⟩
  obtain ⟨S3, hS3⟩ : ∃ S' : List ByteArray, S2 ++ (if misfit f (l 0) = true then [{ data := #[51, 46, 50] }] else []) = S' := ⟨_, rfl⟩
  obtain ⟨S4, hS4⟩ : ∃ S' : List ByteArray, S3 ++ (if misfit g (l 4) = true then [{ data := #[51, 46, 50] }] else []) = S' := ⟨_, rfl⟩
  obtain ⟨SS, hSS⟩ : ∃ S', S ++ blockSecs l short f g = S' := ⟨_, rfl⟩
  rw [hSS]
  have hall : SS = if short = true then S4 else S2 := by
    rw [← hSS, ← hS4, ← hS3, ← hS2, ← hS1, ← hb1, ← hb2]
    unfold blockSecs
    cases short <;> simp
  have hl1 : S1.length ≤ 11 := by rw [← hS1, List.length_append]; split <;> simp <;> omega
  have hl2 : S2.length ≤ 12 := by rw [← hS2, List.length_append]; split <;> simp <;> omega
  have hl3 : S3.length ≤ 13 := by rw [← hS3, List.length_append]; split <;> simp <;> omega
  have HS1 := hide hS1; have HS2 := hide hS2; have HS3 := hide hS3; have HS4 := hide hS4; have HALL := hide hall; have HB1 := hide hb1; have HB2 := hide hb2
  clear hS1 hS2 hS3 hS4 hall hSS hb1 hb2 hN hL h
  go_enter Tryf.func29, Tryf.ntmps29
  go_upto_region 1 with fail
  go_quiet (fail)
  obtain ⟨W1, hW1⟩ : ∃ W, w.drewN nq = W := ⟨_, rfl⟩
  have hw1 : Hid (WantL W1 w0.heap.size v S ∧ Below w0.heap.size w0 W1) := by
    have hb : Below w.heap.size w W1 := by rw [← hW1]; exact below_drewN (Below.refl _ _) nq
    exact ⟨(unhide hw).1.below hb, (unhide hw).2.trans (hb.mono (unhide hw).2.size)⟩
  rw [hW1]
  clear hW1 hw q0 q1
  go_upto_if 22 with fail
  go_cut [2] (fun v wx => Hid (WantL wx w0.heap.size v S1 ∧ Below w0.heap.size w0 wx))
  case first =>
    by_cases hne : l 1 = l 0
    · have hb : ((l 1 : Int) != (l 0 : Int)) = false := by simp [hne]
      have hS : S = S1 := by rw [← unhide HS1, if_pos hne, List.append_nil]
      have HS := hide hS
      clear hne hS
      go_wp2
      go_meet
      rw [← unhide HS]
      exact hw1
    · have hb : ((l 1 : Int) != (l 0 : Int)) = true := by simp; omega
      have hS : S ++ [{ data := #[51, 46, 49] }] = S1 := by rw [← unhide HS1, if_neg hne]
      have HS := hide hS
      clear hne hS
      go_wp2_with (at_builtin; refine want_push rfl _ _ rfl rfl rfl hw1 rfl (by omega) ?_)
      intro v5 w5 h5
      go_wp2
      go_meet
      rw [← unhide HS]
      exact h5
  case rest =>
    obtain ⟨HCU⟩ : Nonempty (Hid (WantL wc w0.heap.size u2 S1 ∧ Below w0.heap.size w0 wc)) := ⟨hcut⟩
    have q2 : wc.cell? ⟨bb, o + 2, none⟩ = some (.slice (x 2) (l 2) (c 2)) := unhide HQ wc (unhide hcut).2 2 (by omega)
    have q5 : wc.cell? ⟨bb, o + 5, none⟩ = some (.slice (x 5) (l 5) (c 5)) := unhide HQ wc (unhide hcut).2 5 (by omega)
    have q6 : wc.cell? ⟨bb, o + 6, none⟩ = some (.slice (x 6) (l 6) (c 6)) := unhide HQ wc (unhide hcut).2 6 (by omega)
    go_upto_region 4 with fail
    go_cut [8] (fun v wx => wx = wc ∧ v = .bool b1)
    case first =>
      have e1 : b1 = (((l 6 : Int) != 0) && ((l 6 : Int) != (l 2 : Int))) := by rw [← unhide HB1]; simp [bad, bne]
      cases h0 : ((l 6 : Int) != 0) with
      | true =>
        have e2 : b1 = ((l 6 : Int) != (l 2 : Int)) := by rw [e1, h0, Bool.true_and]
        have E2 := hide e2
        clear e1 e2
        go_wp2
        go_meet
        exact ⟨rfl, by rw [unhide E2]⟩
      | false =>
        have e2 : b1 = false := by rw [e1, h0, Bool.false_and]
        have E2 := hide e2
        clear e1 e2
        go_wp2
        go_meet
        exact ⟨rfl, by rw [unhide E2]⟩
    case rest =>
      obtain ⟨hwx, rfl⟩ := hcut
      obtain rfl := hwx.symm
      go_upto_region 5 with fail
      go_cut [9] (fun v wx => wx = wc ∧ v = .bool b2)
      case first =>
        have e1 : b2 = (((l 5 : Int) != 0) && ((l 5 : Int) != (l 2 : Int))) := by rw [← unhide HB2]; simp [bad, bne]
        cases h0 : ((l 5 : Int) != 0) with
        | true =>
          have e2 : b2 = ((l 5 : Int) != (l 2 : Int)) := by rw [e1, h0, Bool.true_and]
          have E2 := hide e2
          clear e1 e2
          go_wp2
          go_meet
          exact ⟨rfl, by rw [unhide E2]⟩
        | false =>
          have e2 : b2 = false := by rw [e1, h0, Bool.false_and]
          have E2 := hide e2
          clear e1 e2
          go_wp2
          go_meet
          exact ⟨rfl, by rw [unhide E2]⟩
      case rest =>
        obtain ⟨hwx, rfl⟩ := hcut
        obtain rfl := hwx.symm
        go_upto_region 6 with fail
        go_cut [64] (fun v wx => wx = wc ∧ v = .bool (b1 || b2))
        case first =>
          cases b1 with
          | true =>
            go_wp2
            go_meet
            exact ⟨rfl, rfl⟩
          | false =>
            go_wp2
            go_meet
            exact ⟨rfl, rfl⟩
        case rest =>
          obtain ⟨hwx, rfl⟩ := hcut
          obtain rfl := hwx.symm
          obtain ⟨bd, hbd⟩ : ∃ b, (b1 || b2) = b := ⟨_, rfl⟩
          rw [hbd]
          have HBD := hide hbd
          clear hbd hwx q2 q5 q6
          go_upto_if 64 with fail
          go_cut [2] (fun v wx => Hid (WantL wx w0.heap.size v S2 ∧ Below w0.heap.size w0 wx))
          case first =>
            cases bd with
            | true =>
              have hS : S1 ++ [{ data := #[51, 46, 49] }] = S2 := by rw [← unhide HS2, if_pos (unhide HBD)]
              have HS := hide hS
              clear hS
              go_wp2_with (at_builtin; refine want_push rfl _ _ rfl rfl rfl HCU rfl (by omega) ?_)
              intro v5 w5 h5
              go_wp2
              go_meet
              rw [← unhide HS]
              exact h5
            | false =>
              have hS : S1 = S2 := by rw [← unhide HS2, if_neg (by rw [unhide HBD]; simp), List.append_nil]
              have HS := hide hS
              clear hS
              go_wp2
              go_meet
              rw [← unhide HS]
              exact HCU
          case rest =>
            have HC2 := hide hcut
            clear hcut HCU HBD HB1 HB2 HS1 HS2
            cases short with
            | false =>
              go_wp2
              go_ret
              exact ⟨_, rfl, by rw [unhide HALL, if_neg (by simp)]; exact unhide HC2⟩
            | true =>
              have e4 : SS = S4 := by rw [unhide HALL]; exact if_pos rfl
              subst e4
              clear HALL
              have hN2 : Hid (NumsAt wc (x 0) (l 0) f) := (unhide HN).below (unhide HC2).2 rfl
              have q0 : wc.cell? ⟨bb, o, none⟩ = some (.slice (x 0) (l 0) (c 0)) := unhide HQ wc (unhide HC2).2 0 (by omega)
              go_upto_block 0 with fail
              go_cut [2] (fun v wx => Hid (WantL wx w0.heap.size v S3 ∧ Below w0.heap.size w0 wx))
              case first =>
                have H36 : Hid (∀ t wx, Calls Tryf.prog 36 #[.int .i64 t] wx fun e w' => e = .returned (.bool (fits t)) ∧ w' = wx) := f36_any
                go_wp2
                go_loopw [2, 10] (fun v2 v10 wr => ∃ (k : Nat), k ≤ l 0 ∧ v10 = .int .i64 k ∧ v2 = u2 ∧ wr = wc ∧ Hid (∀ q, q < k → fits (f q) = true)) (fun _ v10 _ => l 0 - (intOf v10).toNat)
                case atStart => exact ⟨0, Nat.zero_le _, rfl, rfl, rfl, fun q h => by omega⟩
                case round =>
                  obtain ⟨k, hk, rfl, rfl, hwr, HA⟩ := hrel
                  obtain rfl := hwr.symm
                  by_cases hkl : k < l 0
                  · rcases (unhide hN2).1 with h0 | ⟨nb, no, hx0, hc⟩
                    · omega
                    · have pk := hc k hkl
                      rw [hx0] at q0
                      clear hc hx0
                      cases hu : fits (f k) with
                      | true =>
                        have HU := hide hu
                        go_wp2_with (go_at_call 36; refine (unhide H36 _ _).mono ?_; rintro e w' ⟨rfl, hw'⟩; obtain rfl := hw'.symm)
                        go_roundw
                        case rel =>
                          refine ⟨k + 1, by omega, by go_num, (by first | trivial | rfl), (by first | trivial | rfl), fun q h => ?_⟩
                          by_cases hq : q < k
                          · exact unhide HA q hq
                          · obtain rfl : q = k := by omega
                            exact unhide HU
                        case measure => simp [intOf]; omega
                      | false =>
                        have hS : S2 ++ [{ data := #[51, 46, 50] }] = S3 := by
                          rw [← unhide HS3, if_pos (misfit_true hkl hu)]
                        have HS := hide hS
                        clear hS
                        go_wp2_with (first | (go_at_call 36; refine (unhide H36 _ _).mono ?_; rintro e w' ⟨rfl, hw'⟩; obtain rfl := hw'.symm) | (at_builtin; refine want_push rfl _ _ rfl rfl rfl (unhide HC2) rfl (by omega) ?_; intro v5 w5 h5))
                        go_meet
                        rw [← unhide HS]
                        exact h5
                  · have hS : S2 = S3 := by
                      rw [← unhide HS3, misfit_false (fun q hq => unhide HA q (by omega)), if_neg (by simp), List.append_nil]
                    have HS := hide hS
                    clear hS
                    obtain rfl : k = l 0 := by omega
                    go_wp2
                    go_meet
                    rw [← unhide HS]
                    exact unhide HC2
              case rest =>
                have HC3 := hide hcut
                clear hcut HC2 hN2 q0
                have hL2 : Hid (LeapsAt wc (x 4) (l 4) g g') := (unhide HL).below (unhide HC3).2 rfl
                have q4 : wc.cell? ⟨bb, o + 4, none⟩ = some (.slice (x 4) (l 4) (c 4)) := unhide HQ wc (unhide HC3).2 4 (by omega)
                go_upto_block 2 with fail
                go_cut [2] (fun v wx => Hid (WantL wx w0.heap.size v SS ∧ Below w0.heap.size w0 wx))
                case first =>
                  have H36 : Hid (∀ t wx, Calls Tryf.prog 36 #[.int .i64 t] wx fun e w' => e = .returned (.bool (fits t)) ∧ w' = wx) := f36_any
                  go_wp2
                  go_loopw [2, 11] (fun v2 v11 wr => ∃ (k : Nat), k ≤ l 4 ∧ v11 = .int .i64 k ∧ v2 = u2 ∧ wr = wc ∧ Hid (∀ q, q < k → fits (g q) = true)) (fun _ v11 _ => l 4 - (intOf v11).toNat)
                  case atStart => exact ⟨0, Nat.zero_le _, rfl, rfl, rfl, fun q h => by omega⟩
                  case round =>
                    obtain ⟨k, hk, rfl, rfl, hwr, HA⟩ := hrel
                    obtain rfl := hwr.symm
                    by_cases hkl : k < l 4
                    · rcases (unhide hL2).1 with h0 | ⟨nb, no, hx0, hc⟩
                      · omega
                      · have pk := (hc k hkl).1
                        rw [hx0] at q4
                        clear hc hx0
                        cases hu : fits (g k) with
                        | true =>
                          have HU := hide hu
                          go_wp2_with (go_at_call 36; refine (unhide H36 _ _).mono ?_; rintro e w' ⟨rfl, hw'⟩; obtain rfl := hw'.symm)
                          go_roundw
                          case rel =>
                            refine ⟨k + 1, by omega, by go_num, (by first | trivial | rfl), (by first | trivial | rfl), fun q h => ?_⟩
                            by_cases hq : q < k
                            · exact unhide HA q hq
                            · obtain rfl : q = k := by omega
                              exact unhide HU
                          case measure => simp [intOf]; omega
                        | false =>
                          have hS : S3 ++ [{ data := #[51, 46, 50] }] = SS := by
                            rw [← unhide HS4, if_pos (misfit_true hkl hu)]
                          have HS := hide hS
                          clear hS
                          go_wp2_with (first | (go_at_call 36; refine (unhide H36 _ _).mono ?_; rintro e w' ⟨rfl, hw'⟩; obtain rfl := hw'.symm) | (at_builtin; refine want_push rfl _ _ rfl rfl rfl (unhide HC3) rfl (by omega) ?_; intro v5 w5 h5))
                          go_meet
                          rw [← unhide HS]
                          exact h5
                    · have hS : S3 = SS := by
                        rw [← unhide HS4, misfit_false (fun q hq => unhide HA q (by omega)), if_neg (by simp), List.append_nil]
                      have HS := hide hS
                      clear hS
                      obtain rfl : k = l 4 := by omega
                      go_wp2
                      go_meet
                      rw [← unhide HS]
                      exact unhide HC3
                case rest =>
                  go_wp2
                  go_ret
                  exact ⟨_, rfl, hcut⟩
end Go.Proofs.Qxb6613638aFmt
