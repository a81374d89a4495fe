/-
  The walk of zzFrameWant.
-/
import Derived.Test.Qxb6613638aFmtV
import Derived.Test.Qxb6613638aFmtM
import Derived.Test.Qxb6613638aFmtQ
namespace Go.Proofs.Qxb6613638aFmt
open Go.RowKit Go.Extern

set_option maxRecDepth 20000 in
set_option maxHeartbeats 2000000 in
theorem f21_none (ver : Int) (zb zo : Nat) (x : Nat → Option Addr) (l c : Nat → Nat) (tf tg th nf f g : Nat → Int) (ft : ByteArray) (w : World) (h : ZAt w zb zo x l c tf tg th nf f g) :
    Calls Tryf.prog 21 #[.int .i64 ver, .pointer (some ⟨zb, zo, none⟩), .pointer none, .string ft] w (Wanted w (verSecs ver false ++ blockSecs l true nf f ++ (if ft.toList.isEmpty = true then [] else [{ data := #[51] }]))) := by
  have H := hide h
  obtain ⟨Sv, hSv⟩ : ∃ S, verSecs ver false = S := ⟨_, rfl⟩
  obtain ⟨Sb, hSb⟩ : ∃ S, Sv ++ blockSecs l true nf f = S := ⟨_, rfl⟩
  have hlv : Sv.length ≤ 1 := by rw [← hSv]; unfold verSecs; split <;> simp; split <;> simp
  have hlb : Sb.length ≤ 5 := by rw [← hSb, List.length_append]; have := blockSecs_len l true nf f; omega
  obtain ⟨SS, hSS⟩ : ∃ S : List ByteArray, Sb ++ (if ft.toList.isEmpty = true then [] else [{ data := #[51] }]) = S := ⟨_, rfl⟩
  rw [hSv, hSb, hSS]
  have HSv := hide hSv; have HSb := hide hSb; have HSS := hide hSS
  clear hSv hSb hSS h
  go_enter Tryf.func21, Tryf.ntmps21
  go_upto_region 2 with fail
  go_cut [15] (fun v wx => wx = w ∧ v = .bool (decide (ver < 1 ∨ 4 < ver)))
  case first =>
    by_cases h1 : ver < 1
    · have d1 : decide (ver < 1) = true := by simp [h1]
      go_wp2
      go_meet
      exact ⟨rfl, by simp [h1]⟩
    · have d1 : decide (ver < 1) = false := by simp [h1]
      go_wp2
      go_meet
      exact ⟨rfl, congrArg Value.bool (decide_eq_decide.2 (by constructor <;> omega))⟩
  case rest =>
    obtain ⟨hwx, rfl⟩ := hcut
    obtain rfl := hwx.symm
    have hw0 : Hid (WantL w w.heap.size (.slice none 0 0) [] ∧ Below w.heap.size w w) := ⟨want_nil _ _, Below.refl _ _⟩
    obtain ⟨b15, hb15⟩ : ∃ b, decide (ver < 1 ∨ 4 < ver) = b := ⟨_, rfl⟩
    rw [hb15]
    have HB15 := hide hb15
    clear hb15 hwx
    go_upto_if 15 with fail
    go_cut [9] (fun v wx => Hid (WantL wx w.heap.size v Sv ∧ Below w.heap.size w wx))
    case first =>
      cases b15 with
      | true =>
        have hS : [] ++ [({ data := #[51, 46, 49] } : ByteArray)] = Sv := by rw [← unhide HSv]; unfold verSecs; rw [if_pos (of_decide_eq_true (unhide HB15))]; rfl
        have HS := hide hS
        clear hS
        go_wp2_with (at_builtin; refine want_push rfl _ _ rfl rfl rfl hw0 rfl (by simp) ?_)
        intro v5 w5 h5
        go_wp2
        go_meet
        rw [← unhide HS]
        exact h5
      | false =>
        have hv := of_decide_eq_false (unhide HB15)
        by_cases h1 : ver = 1
        · have hS : ([] : List ByteArray) = Sv := by rw [← unhide HSv]; unfold verSecs; rw [if_neg hv, if_neg (by simp [h1])]
          have HS := hide hS
          have d1 : (ver == 1) = true := by simp [h1]
          clear hS hv h1
          go_wp2
          go_meet
          rw [← unhide HS]
          exact hw0
        · have hS : [] ++ [({ data := #[51] } : ByteArray)] = Sv := by rw [← unhide HSv]; unfold verSecs; rw [if_neg hv, if_pos (by simp [h1])]; rfl
          have HS := hide hS
          have d1 : (ver == 1) = false := by simp [h1]
          clear hS hv h1
          go_wp2_with (at_builtin; refine want_push rfl _ _ rfl rfl rfl hw0 rfl (by simp) ?_)
          intro v5 w5 h5
          go_wp2
          go_meet
          rw [← unhide HS]
          exact h5
    case rest =>
      have HC := hide (f29_any zb zo x l c true nf f g w (unhide H).blk (unhide H).nums (unhide H).leaps u9 Sv (by omega) wc hcut)
      clear hcut hw0 HB15
      go_wp2_with (go_at_call 29; refine (unhide HC).mono ?_)
      rintro e w2 ⟨v2, rfl, h2⟩
      rw [unhide HSb] at h2
      clear HC
      cases hft : ft.toList.isEmpty with
      | true =>
        have hS : Sb = SS := by rw [← unhide HSS, if_pos hft, List.append_nil]
        have HS := hide hS
        clear hS
        go_wp2
        go_ret
        exact ⟨_, rfl, by rw [← unhide HS]; exact h2⟩
      | false =>
        have hS : Sb ++ [{ data := #[51] }] = SS := by rw [← unhide HSS, if_neg (by rw [hft]; simp)]
        have HS := hide hS
        clear hS
        go_wp2_with (at_builtin; refine want_push rfl _ _ rfl rfl rfl h2 rfl (by omega) ?_)
        intro v5 w5 h5
        go_wp2
        go_ret
        exact ⟨_, rfl, by rw [← unhide HS]; exact h5⟩

set_option maxRecDepth 20000 in
set_option maxHeartbeats 2000000 in
theorem f21_some (ver : Int) (zb zo zb2 zo2 : Nat) (x : Nat → Option Addr) (l c : Nat → Nat) (tf tg th nf f g : Nat → Int) (y : Nat → Option Addr) (m d : Nat → Nat) (tf' tg' th' nf' f' g' : Nat → Int) (ft : ByteArray) (hft : ft.size ≤ 1048576) (w : World)
    (h : ZAt w zb zo x l c tf tg th nf f g) (h' : ZAt w zb2 zo2 y m d tf' tg' th' nf' f' g') :
    Calls Tryf.prog 21 #[.int .i64 ver, .pointer (some ⟨zb, zo, none⟩), .pointer (some ⟨zb2, zo2, none⟩), .string ft] w (Wanted w (verSecs ver true ++ blockSecs l true nf f ++ (blockSecs m false nf' f' ++ (if (holds ft 0 || holds ft 10) = true then [{ data := #[51, 46, 51] }] else [])))) := by
  have H := hide h
  have H' := hide h'
  obtain ⟨Sv, hSv⟩ : ∃ S, verSecs ver true = S := ⟨_, rfl⟩
  obtain ⟨Sb, hSb⟩ : ∃ S, Sv ++ blockSecs l true nf f = S := ⟨_, rfl⟩
  have hlv : Sv.length ≤ 1 := by rw [← hSv]; unfold verSecs; split <;> simp; split <;> simp
  have hlb : Sb.length ≤ 5 := by rw [← hSb, List.length_append]; have := blockSecs_len l true nf f; omega
  obtain ⟨Sc, hSc⟩ : ∃ S, Sb ++ blockSecs m false nf' f' = S := ⟨_, rfl⟩
  obtain ⟨b1, hb1⟩ : ∃ b, holds ft 0 = b := ⟨_, rfl⟩
  obtain ⟨b2, hb2⟩ : ∃ b, holds ft 10 = b := ⟨_, rfl⟩
  obtain ⟨SS, hSS⟩ : ∃ S : List ByteArray, Sc ++ (if (b1 || b2) = true then [{ data := #[51, 46, 51] }] else []) = S := ⟨_, rfl⟩
  have hlc : Sc.length ≤ 9 := by rw [← hSc, List.length_append]; have := blockSecs_len m false nf' f'; omega
  rw [hSv, hSb, hb1, hb2, ← List.append_assoc, hSc, hSS]
  have HSv := hide hSv; have HSb := hide hSb; have HSc := hide hSc; have HSS := hide hSS
  have F1 : Hid (∀ wx, Calls Tryf.prog 23 #[.string ft, .int .u8 0] wx fun e w' => e = .returned (.bool b1) ∧ w' = wx) := fun wx => by rw [← hb1]; exact f23_any ft 0 (by omega) hft wx
  have F2 : Hid (∀ wx, Calls Tryf.prog 23 #[.string ft, .int .u8 10] wx fun e w' => e = .returned (.bool b2) ∧ w' = wx) := fun wx => by rw [← hb2]; exact f23_any ft 10 (by omega) hft wx
  clear hSv hSb hSc hSS h h' hb1 hb2
  go_enter Tryf.func21, Tryf.ntmps21
  go_upto_region 2 with fail
  go_cut [15] (fun v wx => wx = w ∧ v = .bool (decide (ver < 1 ∨ 4 < ver)))
  case first =>
    by_cases h1 : ver < 1
    · have d1 : decide (ver < 1) = true := by simp [h1]
      go_wp2
      go_meet
      exact ⟨rfl, by simp [h1]⟩
    · have d1 : decide (ver < 1) = false := by simp [h1]
      go_wp2
      go_meet
      exact ⟨rfl, congrArg Value.bool (decide_eq_decide.2 (by constructor <;> omega))⟩
  case rest =>
    obtain ⟨hwx, rfl⟩ := hcut
    obtain rfl := hwx.symm
    have hw0 : Hid (WantL w w.heap.size (.slice none 0 0) [] ∧ Below w.heap.size w w) := ⟨want_nil _ _, Below.refl _ _⟩
    obtain ⟨b15, hb15⟩ : ∃ b, decide (ver < 1 ∨ 4 < ver) = b := ⟨_, rfl⟩
    rw [hb15]
    have HB15 := hide hb15
    clear hb15 hwx
    go_upto_if 15 with fail
    go_cut [9] (fun v wx => Hid (WantL wx w.heap.size v Sv ∧ Below w.heap.size w wx))
    case first =>
      cases b15 with
      | true =>
        have hS : [] ++ [({ data := #[51, 46, 49] } : ByteArray)] = Sv := by rw [← unhide HSv]; unfold verSecs; rw [if_pos (of_decide_eq_true (unhide HB15))]; rfl
        have HS := hide hS
        clear hS
        go_wp2_with (at_builtin; refine want_push rfl _ _ rfl rfl rfl hw0 rfl (by simp) ?_)
        intro v5 w5 h5
        go_wp2
        go_meet
        rw [← unhide HS]
        exact h5
      | false =>
        have hv := of_decide_eq_false (unhide HB15)
        by_cases h1 : ver = 1
        · have hS : [] ++ [({ data := #[51] } : ByteArray)] = Sv := by rw [← unhide HSv]; unfold verSecs; rw [if_neg hv, if_pos (by simp [h1])]; rfl
          have HS := hide hS
          have d1 : (ver == 1) = true := by simp [h1]
          clear hS hv h1
          go_wp2_with (at_builtin; refine want_push rfl _ _ rfl rfl rfl hw0 rfl (by simp) ?_)
          intro v5 w5 h5
          go_wp2
          go_meet
          rw [← unhide HS]
          exact h5
        · have hS : ([] : List ByteArray) = Sv := by rw [← unhide HSv]; unfold verSecs; rw [if_neg hv, if_neg (by simp [h1])]
          have HS := hide hS
          have d1 : (ver == 1) = false := by simp [h1]
          clear hS hv h1
          go_wp2
          go_meet
          rw [← unhide HS]
          exact hw0
    case rest =>
      have HC := hide (f29_any zb zo x l c true nf f g w (unhide H).blk (unhide H).nums (unhide H).leaps u9 Sv (by omega) wc hcut)
      clear hcut hw0 HB15
      go_wp2_with (go_at_call 29; refine (unhide HC).mono ?_)
      rintro e w2 ⟨v2, rfl, h2⟩
      rw [unhide HSb] at h2
      have HC2 := hide (f29_any zb2 zo2 y m d false nf' f' g' w (unhide H').blk (unhide H').nums (unhide H').leaps v2 Sb (by omega) w2 h2)
      clear HC
      go_wp2_with (go_at_call 29; refine (unhide HC2).mono ?_)
      rintro e w3 ⟨v3, rfl, h3⟩
      rw [unhide HSc] at h3
      clear HC2 h2
      cases b1 with
      | true =>
        have hS : Sc ++ [{ data := #[51, 46, 51] }] = SS := by rw [← unhide HSS]; rfl
        have HS := hide hS
        clear hS
        go_wp2_with (first | (go_at_call_of 23 (Value.int IntKind.u8 0); refine (unhide F1 _).mono ?_; rintro e w' ⟨rfl, hw'⟩; obtain rfl := hw'.symm) | (at_builtin; refine want_push rfl _ _ rfl rfl rfl h3 rfl (by omega) ?_; intro v5 w5 h5))
        go_ret
        exact ⟨_, rfl, by rw [← unhide HS]; exact h5⟩
      | false =>
        cases b2 with
        | true =>
          have hS : Sc ++ [{ data := #[51, 46, 51] }] = SS := by rw [← unhide HSS]; rfl
          have HS := hide hS
          clear hS
          go_wp2_with (first | (go_at_call_of 23 (Value.int IntKind.u8 0); refine (unhide F1 _).mono ?_; rintro e w' ⟨rfl, hw'⟩; obtain rfl := hw'.symm) | (go_at_call_of 23 (Value.int IntKind.u8 10); refine (unhide F2 _).mono ?_; rintro e w' ⟨rfl, hw'⟩; obtain rfl := hw'.symm) | (at_builtin; refine want_push rfl _ _ rfl rfl rfl h3 rfl (by omega) ?_; intro v5 w5 h5))
          go_ret
          exact ⟨_, rfl, by rw [← unhide HS]; exact h5⟩
        | false =>
          have hS : Sc = SS := by rw [← unhide HSS, if_neg (by simp), List.append_nil]
          have HS := hide hS
          clear hS
          go_wp2_with (first | (go_at_call_of 23 (Value.int IntKind.u8 0); refine (unhide F1 _).mono ?_; rintro e w' ⟨rfl, hw'⟩; obtain rfl := hw'.symm) | (go_at_call_of 23 (Value.int IntKind.u8 10); refine (unhide F2 _).mono ?_; rintro e w' ⟨rfl, hw'⟩; obtain rfl := hw'.symm))
          go_ret
          exact ⟨_, rfl, by rw [← unhide HS]; exact h3⟩
end Go.Proofs.Qxb6613638aFmt
