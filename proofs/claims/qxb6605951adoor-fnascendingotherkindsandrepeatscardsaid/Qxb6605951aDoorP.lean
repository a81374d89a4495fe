/-
  The iterator of Entries, of a dictionary that zzContainer has made: the walk.
-/
import Derived.Test.Qxb6605951aDoorO
namespace Go.Proofs.Qxb6605951aDoor
open Go.RowKit Go.Shelf
attribute [local go_sem] Oper.semAt_some

def KeysUpto (f : Nat → ByteArray) (i : Nat) (pre : List Ent) : Prop := pre.map (·.l) = (List.range i).map fun t => sb (f t)
def KeysSome (f : Nat → ByteArray) (k : Nat) (pre : List Ent) : Prop := ∃ i, i ≤ k ∧ KeysUpto f i pre

/-- The loop of the iterator: i entries have come. -/
def DictI (w W : World) (C g rl rc N k : Nat) (ls : List (List Int)) (i K : Nat) (ok : Value) (wr : World) : Prop :=
  Below w.heap.size w wr ∧ W.heap.size ≤ K ∧ K < wr.heap.size ∧ K ≠ C ∧
  ((i < k ∧ ok = .bool true ∧ (∃ an cn, BoxAt wr K (.int .u8 2) (.slice (some ⟨g, pos ls (2 * i), none⟩) (ls[2 * i]?.getD []).length (rc - pos ls (2 * i))) (.slice an 0 cn) .nilIface) ∧
      CurAt wr C 4 (.slice (some ⟨g, 0, none⟩) rl rc) (.slice (some ⟨N, 0, none⟩) (2 * k) (2 * k)) (pos ls (2 * i + 1)) (2 * i + 1)) ∨ (i = k ∧ ok = .bool false ∧ wr.cell? ⟨C, 5, none⟩ = some (.int .i64 ((2 * k : Nat) : Int))))

/-- What is left of the extents. -/
def left (k C : Nat) (wr : World) : Nat := 2 * k + 1 - (intOf ((wr.cell? ⟨C, 5, none⟩).getD undef)).toNat
theorem left_eq {k C q : Nat} {wr : World} (h : wr.cell? ⟨C, 5, none⟩ = some (.int .i64 q)) : left k C wr = 2 * k + 1 - q := by simp [left, h, intOf]

theorem CurAt.lt {w : World} {C : Nat} {kind : Int} {vr vn : Value} {p q : Nat} (h : CurAt w C kind vr vn p q) : C < w.heap.size := World.block_lt_of_cell? w _ h.1
theorem CurAt.same {w w' : World} {C : Nat} {kind : Int} {vr vn : Value} {p q : Nat} (h : CurAt w C kind vr vn p q) (e : w'.heap[C]? = w.heap[C]?) : CurAt w' C kind vr vn p q := by
  obtain ⟨h0, h1, h2, h3, h4, h5, f4, f5⟩ := h
  exact ⟨(World.cell?_of_block (w := w) e).trans h0, (World.cell?_of_block (w := w) e).trans h1, (World.cell?_of_block (w := w) e).trans h2, (World.cell?_of_block (w := w) e).trans h3,
    (World.cell?_of_block (w := w) e).trans h4, (World.cell?_of_block (w := w) e).trans h5, (World.frozen?_of_block (w := w) e).trans f4, (World.frozen?_of_block (w := w) e).trans f5⟩

theorem left_block {k C : Nat} {w w' : World} (e : w'.heap[C]? = w.heap[C]?) : left k C w' = left k C w := by
  unfold left; rw [World.cell?_of_block (w := w) (a := ⟨C, 5, none⟩) e]

/-- How a round may end. -/
def RoundRes (w W : World) (J Jx : List Ent → World → Prop) (pre : List Ent) (W1 : World) (e : Ending) (W' : World) : Prop :=
  ∃ b, e = .returned (.bool b) ∧ ((b = true ∧ J pre W' ∧ RoundKeeps w.heap.size W.heap.size W1 W') ∨ (b = false ∧ Jx pre W'))

theorem RoundReady.mk {w W Wv w4 : World} {J Jx : List Ent → World → Prop} {pre : List Ent} {l i g V : Nat} {f : Nat → ByteArray} {ak : Addr} {ck : Nat} {v0 v1 v2 v3 : Value}
    (hY : ∀ (pre : List Ent) (x : Ent) (W1 : World), J pre W1 → BytesAt w x.a x.l → YieldAt Fence.wide (4 - 1) Tryd.prog l x.args W1 fun e W' =>
      (e = .returned (.bool true) ∧ J (pre ++ [x]) W' ∧ RoundKeeps w.heap.size W.heap.size W1 W') ∨ (e = .returned (.bool false) ∧ Jx (pre ++ [x]) W'))
    (hJ : AbidesBelow W.heap.size J) (hJv : J pre Wv) (hbv : Below w.heap.size w Wv) (hb4 : Below Wv.drew.heap.size Wv.drew w4) (hBa : BytesAt Wv.drew ak (sb (f i))) (hag : ak.block = g) (hgw : g < w.heap.size)
    (hVv : BoxAt Wv V v0 v1 v2 v3) (hWV : W.heap.size ≤ Wv.heap.size := by omega) :
    Below w.heap.size w w4 ∧ w4.cell? ⟨V, 0, none⟩ = some v0 ∧ w4.cell? ⟨V, 1, none⟩ = some v1 ∧ w4.cell? ⟨V, 2, none⟩ = some v2 ∧ w4.cell? ⟨V, 3, none⟩ = some v3 ∧
    ∃ fn tmps assign body, (Instr.yield l #[.slice (some ak) (sb (f i)).length ck, .agg #[v0, v1, v2, v3]]).run Tryd.prog w4 = .ok (.round l fn tmps assign body) w4 ∧
      RoundIn Fence.wide 3 Tryd.prog l fn tmps assign body w4 (RoundRes w W J Jx (pre ++ [⟨ak, ck, sb (f i), .agg #[v0, v1, v2, v3]⟩]) w4) := by
  have hb4' : Below Wv.heap.size Wv w4 := ⟨hb4.os, hb4.tape, hb4.output, hb4.size, hb4.block⟩
  have hw4 : Below w.heap.size w w4 := hbv.trans (hb4'.mono hbv.size)
  have hV : V < Wv.heap.size := World.block_lt_of_cell? _ _ hVv.1
  refine ⟨hw4, (hb4'.cell (p := ⟨V, 0, none⟩) hV).trans hVv.1, (hb4'.cell (p := ⟨V, 1, none⟩) hV).trans hVv.2.1, (hb4'.cell (p := ⟨V, 2, none⟩) hV).trans hVv.2.2.1, (hb4'.cell (p := ⟨V, 3, none⟩) hV).trans hVv.2.2.2.1, ?_⟩
  obtain ⟨fn, tmps, asg, bdy, hy, hR⟩ := hY pre ⟨ak, ck, sb (f i), .agg #[v0, v1, v2, v3]⟩ w4 (hJ _ _ _ hJv (hb4'.mono hWV)) (BytesAt.before (W := Wv) hBa hbv (by rw [hag]; exact hgw))
  refine ⟨fn, tmps, asg, bdy, hy, hR.mono ?_⟩
  rintro e W' (⟨rfl, h1, h2⟩ | ⟨rfl, h1⟩)
  · exact ⟨true, rfl, .inl ⟨rfl, h1, h2⟩⟩
  · exact ⟨false, rfl, .inr ⟨rfl, h1⟩⟩

theorem keysUpto_snoc {f : Nat → ByteArray} {i : Nat} {pre : List Ent} (h : KeysUpto f i pre) (x : Ent) (hx : x.l = sb (f i)) : KeysUpto f (i + 1) (pre ++ [x]) := by
  unfold KeysUpto at h ⊢
  rw [List.map_append, h, List.range_succ, List.map_append, List.map_cons, List.map_nil, List.map_cons, List.map_nil, hx]

theorem after_round {w W Wv w4 w5 : World} {K C : Nat} {v0 v1 v2 v3 vr vn : Value} {kind : Int} {p q : Nat} (hbv : Below w.heap.size w Wv) (hb4 : Below Wv.drew.heap.size Wv.drew w4) (hrk : RoundKeeps w.heap.size W.heap.size w4 w5)
    (hK : BoxAt Wv K v0 v1 v2 v3) (hC : CurAt Wv C kind vr vn p q) (hK1 : W.heap.size ≤ K) (hC1 : W.heap.size ≤ C) : Below w.heap.size w w5 ∧ BoxAt w5 K v0 v1 v2 v3 ∧ CurAt w5 C kind vr vn p q ∧ K < w5.heap.size := by
  have hb4' : Below Wv.heap.size Wv w4 := ⟨hb4.os, hb4.tape, hb4.output, hb4.size, hb4.block⟩
  have hKl : K < Wv.heap.size := World.block_lt_of_cell? _ _ hK.1
  have hCl : C < Wv.heap.size := hC.lt
  have hz := hb4'.size
  have hz5 := hrk.1.size
  exact ⟨(hbv.trans (hb4'.mono hbv.size)).trans hrk.1, hK.block ((hrk.2 K hK1 (by omega)).trans (hb4'.block K hKl)), hC.same ((hrk.2 C hC1 (by omega)).trans (hb4'.block C hCl)), by omega⟩

set_option maxHeartbeats 2000000 in
theorem entries_dict (g rl rc N k : Nat) (ls : List (List Int)) (f : Nat → ByteArray) (w : World) (D : DictData w g rl rc N k ls f) (hk : k ≤ 70000) (hk0 : 0 < k) (hgw : g < w.heap.size) :
    SeqC Fence.wide 4 Tryd.prog 20 #[.pointer (some ⟨w.heap.size + 1 + 1 + 1 + 1, 0, none⟩)] Ent.args (fun x => BytesAt w x.a x.l) w.heap.size (KeysUpto f k) (KeysSome f k)
      (ascWorld w 4 (.slice (some ⟨g, 0, none⟩) rl rc) (.slice (some ⟨N, 0, none⟩) (2 * k) (2 * k))) := fun l J Jx W hb hsz hJ hJx hY h0 => by
  have hbox := asc_box w 4 (.slice (some ⟨g, 0, none⟩) rl rc) (.slice (some ⟨N, 0, none⟩) (2 * k) (2 * k))
  have hlt : w.heap.size + 1 + 1 + 1 + 1 < (ascWorld w 4 (.slice (some ⟨g, 0, none⟩) rl rc) (.slice (some ⟨N, 0, none⟩) (2 * k) (2 * k))).heap.size := (Array.getElem?_eq_some_iff.1 hbox).1
  have hbw : Below w.heap.size w W := (asc_start w 4 _ _).1.2.2.2.2.2.2.2.trans (hb.mono (by omega))
  have cb := fun j => hb.cell (p := ⟨w.heap.size + 1 + 1 + 1 + 1, j, none⟩) hlt
  have c0 : W.cell? ⟨w.heap.size + 1 + 1 + 1 + 1, 0, none⟩ = some (.int .u8 4) := (cb 0).trans ((cell_of_row _ _ _ _ _ _ hbox).trans rfl)
  have c1 : W.cell? ⟨w.heap.size + 1 + 1 + 1 + 1, 1, none⟩ = some (.slice (some ⟨g, 0, none⟩) rl rc) := (cb 1).trans ((cell_of_row _ _ _ _ _ _ hbox).trans rfl)
  have c2 : W.cell? ⟨w.heap.size + 1 + 1 + 1 + 1, 2, none⟩ = some (.slice (some ⟨N, 0, none⟩) (2 * k) (2 * k)) := (cb 2).trans ((cell_of_row _ _ _ _ _ _ hbox).trans rfl)
  have c3 : W.cell? ⟨w.heap.size + 1 + 1 + 1 + 1, 3, none⟩ = some .nilIface := (cb 3).trans ((cell_of_row _ _ _ _ _ _ hbox).trans rfl)
  have hwW : w.heap.size < W.heap.size := by omega
  refine callsIn_of_wp Tryd.func20 rfl trivial ?_ rfl
  simp only [Tryd.ntmps20, List.size_toArray, List.length_cons, List.length_nil, Nat.reduceAdd, Nat.reduceSub, Array.replicate_succ, Array.replicate_zero, List.push_toArray, List.append_toArray, List.nil_append, List.cons_append]
  have HJ := hide hJ
  have HJx := hide hJx
  have HY := hide hY
  have HD := hide D
  clear hb hsz hJ hJx hY hbox hlt cb D
  gi_wp2_with (refine ⟨trivial, ?_⟩; gi_at_call 21; refine (callsIn_wide.2 (f21_any _ _ _ ⟨_, _, _, rfl⟩ ⟨_, _, _, rfl⟩ _)).mono ?_; rintro e w1 ⟨rfl, hb1⟩)
  have hcur : CurAt (w1.alloc (.cells #[.int .u8 4, .slice (some ⟨g, 0, none⟩) rl rc, .slice (some ⟨N, 0, none⟩) (2 * k) (2 * k), .nilIface, .int .i64 1, .int .i64 0] 58)) w1.heap.size 4 (.slice (some ⟨g, 0, none⟩) rl rc) (.slice (some ⟨N, 0, none⟩) (2 * k) (2 * k)) 1 0 := cur_new w1 4 (.slice (some ⟨g, 0, none⟩) rl rc) (.slice (some ⟨N, 0, none⟩) (2 * k) (2 * k)) 1 0
  have hC : W.heap.size ≤ w1.heap.size := hb1.size
  have hbc : Below w.heap.size w (w1.alloc (.cells #[.int .u8 4, .slice (some ⟨g, 0, none⟩) rl rc, .slice (some ⟨N, 0, none⟩) (2 * k) (2 * k), .nilIface, .int .i64 1, .int .i64 0] 58)) := (hbw.trans (hb1.mono (by omega))).alloc (by omega) _
  have hbW : Below W.heap.size W (w1.alloc (.cells #[.int .u8 4, .slice (some ⟨g, 0, none⟩) rl rc, .slice (some ⟨N, 0, none⟩) (2 * k) (2 * k), .nilIface, .int .i64 1, .int .i64 0] 58)) := hb1.alloc (by omega) _
  obtain ⟨C, hCe⟩ : ∃ C, w1.heap.size = C := ⟨_, rfl⟩
  have hzc : (w1.alloc (.cells #[.int .u8 4, .slice (some ⟨g, 0, none⟩) rl rc, .slice (some ⟨N, 0, none⟩) (2 * k) (2 * k), .nilIface, .int .i64 1, .int .i64 0] 58)).heap.size = C + 1 := by simp [hCe]
  obtain ⟨Wc, hWc⟩ : ∃ Wc, w1.alloc (.cells #[.int .u8 4, .slice (some ⟨g, 0, none⟩) rl rc, .slice (some ⟨N, 0, none⟩) (2 * k) (2 * k), .nilIface, .int .i64 1, .int .i64 0] 58) = Wc := ⟨_, rfl⟩
  rw [hWc] at hcur hbc hbW hzc ⊢
  rw [hCe] at hcur hC ⊢
  have hn0 := next_item (unhide HD |>.later hbc) hk 0 (by omega) (C := C) (by omega) hcur
  have HN0 := hide hn0
  have hCw : C < Wc.heap.size := by omega
  clear hb1 hWc hCe c0 c1 c2 c3 hn0 hcur hbw hzc
  refine ⟨trivial, ?_⟩
  refine (callsIn_wide.2 (unhide HN0)).mono ?_
  rintro e w2 ⟨an, cn, rfl, hcur, hg2⟩
  have hb2 : Below w.heap.size w w2 := hbc.grown hg2 (by omega) (fun r e => by cases e; omega)
  have hbW2 : Below W.heap.size W w2 := hbW.grown hg2 (by omega) (fun r e => by cases e; omega)
  have hJ2 : J [] (w2.alloc (.cells #[.int .u8 2, .slice (some ⟨g, pos ls 0, none⟩) (ls[0]?.getD []).length (rc - pos ls 0), .slice an 0 cn, .nilIface] 32)) := (unhide HJ) _ _ _ h0 (hbW2.alloc hbW2.size _)
  have hI0 : DictI w W C g rl rc N k ls 0 w2.heap.size (.bool true) (w2.alloc (.cells #[.int .u8 2, .slice (some ⟨g, pos ls 0, none⟩) (ls[0]?.getD []).length (rc - pos ls 0), .slice an 0 cn, .nilIface] 32)) := by
    have hlt2 := hcur.lt
    refine ⟨hb2.alloc (by have := hb2.size; omega) _, hbW2.size, by simp, by omega, .inl ⟨hk0, rfl, ⟨an, cn, boxAt_new _ _ _ _ _⟩, ?_⟩⟩
    have := hcur.same (Below.heap_alloc w2 (.cells #[.int .u8 2, .slice (some ⟨g, pos ls 0, none⟩) (ls[0]?.getD []).length (rc - pos ls 0), .slice an 0 cn, .nilIface] 32) C hlt2)
    rw [← pos_succ ls 0 (by have := (unhide HD).len; omega)] at this
    exact this
  clear hcur hg2 hb2 hbW2 hbc hbW h0 HN0 hCw
  gi_wp2
  gi_loopw [4, 5] (fun kp ok wr => ∃ (i K : Nat) (pre : List Ent), kp = .pointer (some ⟨K, 0, none⟩) ∧ i ≤ k ∧ KeysUpto f i pre ∧ J pre wr ∧ DictI w W C g rl rc N k ls i K ok wr) (fun _ _ wr => left k C wr)
  case atStart => exact ⟨0, _, [], rfl, Nat.zero_le _, rfl, hJ2, hI0⟩
  case round =>
    obtain ⟨i, K, pre, rfl, hik, hkeys, hJr, hbr, hK1, hK2, hK3, hst⟩ := hrel
    clear hJ2 hI0
    rcases hst with ⟨hi, rfl, ⟨an2, cn2, hboxK⟩, hcur⟩ | ⟨rfl, rfl, _⟩
    · have HN := hide (next_item (unhide HD |>.later hbr) hk (2 * i + 1) (by omega) (C := C) (by omega) hcur)
      have hCl := hcur.lt
      have HM := hide hcur.2.2.2.2.2.1
      gi_wp2_with (refine ⟨trivial, ?_⟩; gi_at_call 22; refine (callsIn_wide.2 (unhide HN)).mono ?_; rintro e w3 ⟨an3, cn3, rfl, hcur3, hg3⟩)
      have hb3 : Below w.heap.size w w3 := hbr.grown hg3 (by have := hbr.size; omega) (fun r e => by cases e; omega)
      have hJb3 : Below W.heap.size wr w3 := (Below.refl _ wr).grown hg3 (by omega) (fun r e => by cases e; omega)
      have hK3' : K < w3.heap.size := by have := hg3.size; omega
      have hboxK3 := hboxK.block (hg3.block K hK2 (by simp; omega))
      obtain ⟨Wv, hWv⟩ : ∃ Wv, w3.alloc (.cells #[.int .u8 2, .slice (some ⟨g, pos ls (2 * i + 1), none⟩) (ls[2 * i + 1]?.getD []).length (rc - pos ls (2 * i + 1)), .slice an3 0 cn3, .nilIface] 32) = Wv := ⟨_, rfl⟩
      rw [hWv]
      have hbv : Below w.heap.size w Wv := by rw [← hWv]; exact hb3.alloc (by have := hb3.size; omega) _
      have hJbv : Below W.heap.size wr Wv := by rw [← hWv]; exact hJb3.alloc (by omega) _
      have hKv := hboxK3.block (w' := Wv) (by rw [← hWv]; exact Below.heap_alloc _ _ _ hK3')
      have hVv := boxAt_new w3 (.int .u8 2) (.slice (some ⟨g, pos ls (2 * i + 1), none⟩) (ls[2 * i + 1]?.getD []).length (rc - pos ls (2 * i + 1))) (.slice an3 0 cn3) .nilIface
      rw [hWv] at hVv
      have hCv := hcur3.same (w' := Wv) (by rw [← hWv]; exact Below.heap_alloc _ _ _ hcur3.lt)
      have hzv : Wv.heap.size = w3.heap.size + 1 := by rw [← hWv]; simp
      obtain ⟨V, hV⟩ : ∃ V, w3.heap.size = V := ⟨_, rfl⟩
      rw [hV] at hVv hzv hK3' ⊢
      have hVC : C < V := by have := hcur3.lt; omega
      clear hWv hV hb3 hJb3 hboxK hboxK3 hcur hcur3 hg3 HN
      have hJv : J pre Wv := (unhide HJ) _ _ _ hJr hJbv
      obtain ⟨kk0, kk1, kk2, kk3, _⟩ := id hKv
      obtain ⟨vv0, vv1, vv2, vv3, _⟩ := id hVv
      obtain ⟨ds, hds, hd1, hd2, hd3⟩ := (unhide HD).key i hi
      have hBy : ∀ X, Below w.heap.size w X → BytesAt X ⟨g, pos ls (2 * i), none⟩ (ds ++ 58 :: sb (f i)) := fun X hX => by
        have := ((unhide HD).later hX).bytes (2 * i) (by omega)
        rwa [hds] at this
      have hfit := (unhide HD).fits (2 * i) (by omega)
      have hle := (unhide HD).le
      have hsm := (unhide HD).small
      have HL : Hid ((ls[2 * i]?.getD []).length = ds.length + (1 + (sb (f i)).length)) := by rw [hds]; simp [Hid]; omega
      have HBy := hide hBy
      have HKV := hide hKv
      have HVV := hide hVv
      have HCV := hide hCv
      have HDS := hide hd3
      have hlen0 : (ls[2 * i]?.getD []).length ≤ rc - pos ls (2 * i) := by omega
      have hlen1 : (ls[2 * i]?.getD []).length ≤ 10000000 := by omega
      clear hds hd1 hd2 hd3 hBy hKv hVv hCv hJr hbr hfit hle hsm
      have H23 := hide (f23_any g (pos ls (2 * i)) (ls[2 * i]?.getD []).length (rc - pos ls (2 * i)) (.slice an2 0 cn2) ⟨_, _, _, rfl⟩ ds (sb (f i)) (unhide HDS) (unhide HL) hlen0 hlen1 Wv.drew ((unhide HBy) _ hbv.drew))
      have HR4 := hide (fun (w4 : World) (ak : Addr) (ck : Nat) (hBa : BytesAt Wv.drew ak (sb (f i))) (hag : ak.block = g) (hb4 : Below Wv.drew.heap.size Wv.drew w4) => RoundReady.mk (ck := ck) (unhide HY) (unhide HJ) hJv hbv hb4 hBa hag hgw (unhide HVV) (by omega))
      clear HBy HDS HL HY hlen0 hlen1
      gi_region_with (first
        | (refine ⟨trivial, ?_⟩; gi_at_call 23; refine (callsIn_wide.2 (unhide H23)).mono ?_; rintro e w4 ⟨ak, ck, rfl, hBa, hag, hb4⟩; obtain ⟨hb4w, vw0, vw1, vw2, vw3, fn, tmps, asg, bdy, hy, hR⟩ := (unhide HR4) w4 ak ck hBa hag hb4)
        | (refine hR.mono ?_; rintro e w5 ⟨b, rfl, hres⟩))
      all_goals
        rcases hres with ⟨rfl, hJ5, hrk⟩ | ⟨rfl, hJx5⟩
        · obtain ⟨hb5, hK5, hC5, hKz⟩ := after_round hbv hb4 hrk (unhide HKV) (unhide HCV) (by omega) (by omega)
          have hKeys2 := keysUpto_snoc hkeys (⟨ak, ck, sb (f i), .agg #[.int .u8 2, .slice (some ⟨g, pos ls (2 * i + 1), none⟩) (ls[2 * i + 1]?.getD []).length (rc - pos ls (2 * i + 1)), .slice an3 0 cn3, .nilIface]⟩) rfl
          rw [← pos_succ ls (2 * i + 1) (by have := (unhide HD).len; omega)] at hC5
          obtain ⟨pp0, pp1, pp2, pp3, _⟩ := id hK5
          clear kk0 kk1 kk2 kk3 vv0 vv1 vv2 vv3 HKV HVV HCV H23 HR4 hbv hJbv hzv hVC hJv hBa hag hb4 hb4w vw0 vw1 vw2 vw3 hy hR hK3' hrk
          gi_wp2_with fail
          obtain ⟨W6, hW6⟩ : ∃ W6, w5.alloc (.cells #[.int .u8 2, .slice (some ⟨g, pos ls (2 * i), none⟩) (ls[2 * i]?.getD []).length (rc - pos ls (2 * i)), .slice an2 0 cn2, .nilIface] 32) = W6 := ⟨_, rfl⟩
          rw [hW6]
          have hb6 : Below w.heap.size w W6 := by rw [← hW6]; exact hb5.alloc (by have := hb5.size; omega) _
          have hJb6 : Below W.heap.size w5 W6 := by rw [← hW6]; exact (Below.refl _ _).alloc (by omega) _
          have hC6 := hC5.same (w' := W6) (by rw [← hW6]; exact Below.heap_alloc _ _ _ hC5.lt)
          have hB6 := boxAt_new w5 (.int .u8 2) (.slice (some ⟨g, pos ls (2 * i), none⟩) (ls[2 * i]?.getD []).length (rc - pos ls (2 * i))) (.slice an2 0 cn2) .nilIface
          rw [hW6] at hB6
          have hz6 : W6.heap.size = w5.heap.size + 1 := by rw [← hW6]; simp
          have hJ6 := (unhide HJ) _ _ _ hJ5 hJb6
          have hC5l := hC5.lt
          have hmeas : Hid (left k C wr = 2 * k + 1 - (2 * i + 1)) := left_eq (unhide HM)
          obtain ⟨K2, hK2e⟩ : ∃ K2, w5.heap.size = K2 := ⟨_, rfl⟩
          rw [hK2e] at hB6 hz6 hC5l ⊢
          have hK2W : W.heap.size ≤ K2 := by omega
          clear hW6 hK5 hC5 hKz hJ5 hJb6 hb5 pp0 pp1 pp2 pp3 hK2e
          by_cases hlast : i + 1 < k
          · have HN2 := hide (next_item ((unhide HD).later hb6) hk (2 * i + 1 + 1) (by omega) (C := C) (by omega) hC6)
            refine ⟨trivial, ?_⟩
            refine (callsIn_wide.2 (unhide HN2)).mono ?_
            rintro e w7 ⟨an7, cn7, rfl, hcur7, hg7⟩
            have hb7 : Below w.heap.size w w7 := hb6.grown hg7 (by have := hb6.size; omega) (fun r e => by cases e; omega)
            have hJ7 : J _ w7 := (unhide HJ) _ _ _ hJ6 ((Below.refl _ W6).grown hg7 (by omega) (fun r e => by cases e; omega))
            have hB7 := hB6.block (hg7.block K2 (by omega) (by simp; omega))
            have hz7 : K2 < w7.heap.size := by have := hg7.size; omega
            rw [← pos_succ ls (2 * i + 1 + 1) (by have := (unhide HD).len; omega)] at hcur7
            obtain ⟨⟨b0, b1, b2, b3, g0, g1, g2, g3⟩, HB7⟩ : (_ ∧ Hid _) := ⟨hB7, hide hB7⟩
            clear hg7 hb6 hC6 hB6 hz6 hJ6 HN2 hB7
            gi_wp2
            go_roundw
            case rel =>
              refine ⟨i + 1, K2, _, rfl, by omega, hKeys2, (unhide HJ) _ _ _ hJ7 (below_set4 (Below.refl _ _) hK2W _ _ _ _), below_set4 hb7 (by omega) _ _ _ _, hK2W, by simpa [World.setCell] using hz7, by omega, .inl ⟨hlast, rfl, ⟨an7, cn7, ?_⟩, ?_⟩⟩
              · exact boxAt_set (unhide HB7) _ _ _ _
              · exact hcur7.same (heap_set4 _ _ _ _ _ _ _ (by omega))
            case measure =>
              refine Nat.lt_of_le_of_lt (Nat.le_of_eq (left_block (heap_set4 _ _ _ _ _ _ _ (by omega)))) ?_
              rw [left_eq hcur7.2.2.2.2.2.1, hmeas.out]
              omega
          · have hik2 : i + 1 = k := by omega
            have HN2 := hide (f22_end C 4 (.slice (some ⟨g, 0, none⟩) rl rc) (some ⟨N, 0, none⟩) (2 * k) (2 * k) (pos ls (2 * i + 1 + 1)) (2 * i + 1 + 1) (by omega) W6 hC6)
            have HK := hide hik2
            clear hik2
            refine ⟨trivial, ?_⟩
            refine (callsIn_wide.2 (unhide HN2)).mono ?_
            rintro e w7 ⟨rfl, hb67⟩
            have hb7 : Below w.heap.size w w7 := hb6.trans (hb67.mono hb6.size)
            have hJ7 : J _ w7 := (unhide HJ) _ _ _ hJ6 (hb67.mono (by omega))
            have hB7 := hB6.block (hb67.block K2 (by omega))
            have hz7 : K2 < w7.heap.size := by have := hb67.size; omega
            have hcur7 := hC6.same (hb67.block C hC6.lt)
            obtain ⟨⟨b0, b1, b2, b3, g0, g1, g2, g3⟩, HB7⟩ : (_ ∧ Hid _) := ⟨hB7, hide hB7⟩
            clear hb67 hb6 hC6 hB6 hz6 hJ6 HN2 hB7
            gi_wp2
            go_roundw
            case rel =>
              refine ⟨i + 1, K2, _, rfl, by omega, hKeys2, (unhide HJ) _ _ _ hJ7 (below_set4 (Below.refl _ _) hK2W _ _ _ _), below_set4 hb7 (by omega) _ _ _ _, hK2W, by simpa [World.setCell] using hz7, by omega, .inr ⟨unhide HK, rfl, ?_⟩⟩
              have h5 := (World.cell?_of_block (w := w7) (a := ⟨C, 5, none⟩) (heap_set4 w7 K2 (.int .u8 0) (.slice none 0 0) (.slice none 0 0) .nilIface C (by omega))).trans hcur7.2.2.2.2.2.1
              rw [show 2 * i + 1 + 1 = 2 * k by have := unhide HK; omega] at h5
              exact h5
            case measure =>
              refine Nat.lt_of_le_of_lt (Nat.le_of_eq (left_block (heap_set4 _ _ _ _ _ _ _ (by omega)))) ?_
              rw [left_eq hcur7.2.2.2.2.2.1, hmeas.out]
              omega
        · clear kk0 kk1 kk2 kk3 vv0 vv1 vv2 vv3 HKV HVV HCV H23 HR4 hbv hJbv hzv hVC hJv hBa hag hb4 hb4w vw0 vw1 vw2 vw3 hy hR hK3'
          gi_wp2
          refine bodyPost_ret (results_none rfl _ _ _) rfl ?_
          exact ⟨⟨_, rfl⟩, .inr ⟨_, ⟨i + 1, by omega, keysUpto_snoc hkeys _ rfl⟩, hJx5⟩⟩
    · gi_wp2
      go_end0
      exact ⟨⟨_, rfl⟩, .inl ⟨pre, hkeys, hJr⟩⟩
end Go.Proofs.Qxb6605951aDoor
