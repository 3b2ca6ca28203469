/-
  FnVMValues: what was written is read, and set: the walk's parts.
  FnVMValues: what is written of a value.
-/
import Derived.Test.YtkhicabfmkldpaaDoorVal6
set_option linter.unusedSimpArgs false
set_option linter.unusedVariables false
namespace Go.Proofs.YtkhicabfmkldpaaDoor
open Go Go.RowKit Go.Lib

theorem Out.up {w w2 w' : World} {v : Value} {l : List UInt8} (h : Out w2 w' v l) (hc : Chg (fun _ => False) w w2) : Out w w' v l := by
  refine ⟨⟨h.own.1, ?_⟩, hc.trans h.chg (fun _ _ e => e)⟩
  have hs := hc.size
  rcases h.own.2 with e | ⟨g, cap, cur, hv, hb, r⟩
  · exact .inl e
  · exact .inr ⟨g, cap, cur, hv, by omega, r⟩

theorem strCells_list (l : List UInt8) : strCells (strOf l) = byteCells l := rfl
theorem strOf_size (l : List UInt8) : (strOf l).size = l.length := by
  unfold strOf
  show l.toArray.size = _
  simp

theorem wp_append_string {P : Program} {w : World} {o : Oper} {a : Act} {K : Act → World → Prop} {Q : Exit → Act → World → Prop} (sl x : Operand) (t u : TypeId)
    (ho : o.op = .call { callee := .builtin .append, args := #[sl, x], argTypes := #[t, u] })
    (base : Nat) (e : TypeId) (i : TypeInfo) (ht : P.underlying t = some (.slice e)) (hu : P.underlying u = some .string) (hi : P.info? e = some i) (hz : i.zero = some (.int .u8 0))
    (hsize : i.size = 1) (hby : i.bytes = 1)
    (v : Value) (n : Nat) (xs : List Value) (hs : a.eval sl = v) (hown : w.ownsRow base e 1 v n xs) (s : ByteArray) (hx : a.eval x = .string s)
    (h63 : n + s.size ≤ maxLen) (hbytes : n + s.size ≤ 140737488355328) (hbase : base ≤ w.heap.size)
    (h : ∀ v' w', w'.ownsRow base e 1 v' (n + s.size) (xs ++ strCells s) → w.grownBy w' v.ownBlock → K (a.put o.dst v') w') : o.wp P a w K Q := by
  obtain ⟨v', w', hr, h2, h3, h4⟩ := run_append_own_string (P := P) w base t u o.type e i ht hu hi hz hsize hby v n xs hown s h63 hbytes hbase
  unfold Oper.wp execOp
  simp only [ho, resolve, invoke, builtin, Sem.run_bind, Sem.run_pure, Result.andThen_ok, List.map_toArray, List.map_cons, List.map_nil, hs, hx, hr]
  exact h v' w' h2 h3

set_option maxHeartbeats 1000000 in
set_option maxRecDepth 100000 in
theorem bytes_1 (d : PV) (hd : d.Of 1) (w : World) : Calls Tryd.prog 51 #[.slice none 0 0, sch 1, dat d.n d.f (strOf d.s), .int .i64 0] w fun e w' => ∃ v, e = .returned v ∧ Out w w' v (d.bytes 1) := by
  obtain ⟨n, f, l⟩ := d
  obtain ⟨hn, hf, hl⟩ := hd.1 rfl
  simp only at hn hf hl
  subst hf hl
  unfold sch dat
  rcases hn with rfl | rfl
  · go_enter Tryd.func51, Tryd.ntmps51
    go_wp2
    go_ret
    exact ⟨_, rfl, ⟨rfl, .inr ⟨w.heap.size + 1 + 1, 1, #[.int .u8 0], rfl, by omega, blk_new' (by simp) _ 5, Nat.le_refl _, by unfold maxLen; omega, rfl, rfl⟩⟩, (((Chg.refl _ w).alloc _).alloc _).alloc _⟩
  · go_enter Tryd.func51, Tryd.ntmps51
    go_wp2
    go_ret
    exact ⟨_, rfl, ⟨rfl, .inr ⟨w.heap.size + 1 + 1, 1, #[.int .u8 1], rfl, by omega, blk_new' (by simp) _ 5, Nat.le_refl _, by unfold maxLen; omega, rfl, rfl⟩⟩, (((Chg.refl _ w).alloc _).alloc _).alloc _⟩

set_option maxHeartbeats 1000000 in
set_option maxRecDepth 100000 in
theorem bytes_2 (d : PV) (hd : d.Of 2) (w : World) : Calls Tryd.prog 51 #[.slice none 0 0, sch 2, dat d.n d.f (strOf d.s), .int .i64 0] w fun e w' => ∃ v, e = .returned v ∧ Out w w' v (d.bytes 2) := by
  obtain ⟨n, f, l⟩ := d
  obtain ⟨hn, hf, hl⟩ := hd.2.1 rfl
  simp only at hn hf hl
  subst hf hl
  unfold sch dat
  go_enter Tryd.func51, Tryd.ntmps51
  go_wp2_with (go_at_call 67; fail)
  refine (vlong_any n (by omega) _).mono ?_
  rintro e w5 ⟨v, rfl, q⟩
  go_wp2
  go_ret
  exact ⟨v, rfl, q.up (((Chg.refl _ w).alloc _).alloc _)⟩

set_option maxHeartbeats 1000000 in
set_option maxRecDepth 100000 in
theorem bytes_3 (d : PV) (hd : d.Of 3) (w : World) : Calls Tryd.prog 51 #[.slice none 0 0, sch 3, dat d.n d.f (strOf d.s), .int .i64 0] w fun e w' => ∃ v, e = .returned v ∧ Out w w' v (d.bytes 3) := by
  obtain ⟨n, f, l⟩ := d
  obtain ⟨hn, hf, hl⟩ := hd.2.2.1 rfl
  simp only at hn hf hl
  subst hf hl
  unfold sch dat
  go_enter Tryd.func51, Tryd.ntmps51
  go_wp2_with (go_at_call 67; fail)
  refine (vlong_any n (by omega) _).mono ?_
  rintro e w5 ⟨v, rfl, q⟩
  go_wp2
  go_ret
  exact ⟨v, rfl, q.up (((Chg.refl _ w).alloc _).alloc _)⟩

set_option maxHeartbeats 1000000 in
set_option maxRecDepth 100000 in
theorem bytes_4 (d : PV) (hd : d.Of 4) (w : World) : Calls Tryd.prog 51 #[.slice none 0 0, sch 4, dat d.n d.f (strOf d.s), .int .i64 0] w fun e w' => ∃ v, e = .returned v ∧ Out w w' v (d.bytes 4) := by
  obtain ⟨n, f, l⟩ := d
  obtain ⟨hn, hf, hl⟩ := hd.2.2.2.1 rfl
  simp only at hn hf hl
  subst hn hl
  unfold sch dat
  go_enter Tryd.func51, Tryd.ntmps51
  go_wp2_with (go_at_call 68; fail)
  refine (low_any f (by omega) 4 (by decide) _).mono ?_
  rintro e w5 ⟨v, rfl, q⟩
  go_wp2
  go_ret
  exact ⟨v, rfl, q.up (((Chg.refl _ w).alloc _).alloc _)⟩

set_option maxHeartbeats 1000000 in
set_option maxRecDepth 100000 in
theorem bytes_5 (d : PV) (hd : d.Of 5) (w : World) : Calls Tryd.prog 51 #[.slice none 0 0, sch 5, dat d.n d.f (strOf d.s), .int .i64 0] w fun e w' => ∃ v, e = .returned v ∧ Out w w' v (d.bytes 5) := by
  obtain ⟨n, f, l⟩ := d
  obtain ⟨hn, hf, hl⟩ := hd.2.2.2.2.1 rfl
  simp only at hn hf hl
  subst hn hl
  unfold sch dat
  go_enter Tryd.func51, Tryd.ntmps51
  go_wp2_with (go_at_call 68; fail)
  refine (low_any f (by omega) 8 (by decide) _).mono ?_
  rintro e w5 ⟨v, rfl, q⟩
  go_wp2
  go_ret
  exact ⟨v, rfl, q.up (((Chg.refl _ w).alloc _).alloc _)⟩

set_option maxHeartbeats 1000000 in
set_option maxRecDepth 100000 in
theorem bytes_6 (d : PV) (hd : d.Of 6) (w : World) : Calls Tryd.prog 51 #[.slice none 0 0, sch 6, dat d.n d.f (strOf d.s), .int .i64 0] w fun e w' => ∃ v, e = .returned v ∧ Out w w' v (d.bytes 6) := by
  obtain ⟨n, f, l⟩ := d
  obtain ⟨hn, hf, hl⟩ := hd.2.2.2.2.2.1 rfl
  simp only at hn hf hl
  subst hn hf
  obtain ⟨i5, y1, y2, y3, y4⟩ := info_parts Tryd.info5
  obtain ⟨s, hs⟩ : ∃ s, strOf l = s := ⟨_, rfl⟩
  have hss : s.size = l.length := by rw [← hs]; exact strOf_size l
  have hsc : strCells s = byteCells l := by rw [← hs]; rfl
  show Calls Tryd.prog 51 #[.slice none 0 0, sch 6, dat 0 0 (strOf l), .int .i64 0] w _
  rw [hs]
  obtain ⟨w2, hw2⟩ : ∃ w2, (w.alloc (.cells #[.int .i64 6, .string ⟨#[]⟩, .string ⟨#[]⟩, .slice none 0 0, .slice none 0 0, .slice none 0 0, .string ⟨#[]⟩, .int .i64 0, .slice none 0 0] 56)).alloc (.cells #[.int .i64 0, .int .u64 0, .string s, .slice none 0 0, .slice none 0 0] 60) = w2 := ⟨_, rfl⟩
  have hD : DatAt w2 (w.heap.size + 1) 0 0 s := by rw [← hw2]; exact blk_new' (by simp) _ 60
  have hC := hid (show Chg (fun _ => False) w w2 by rw [← hw2]; exact ((Chg.refl _ w).alloc _).alloc _)
  have Hw2 := hid hw2
  have Hss := hid hss
  have Hsc := hid hsc
  clear hw2 hs hss hsc
  unfold sch dat
  go_enter Tryd.func51, Tryd.ntmps51
  go_wp2
  rw [Hw2.out]
  refine wp_region_till (fun w' => DatAt w' (w.heap.size + 1) 0 0 s) 100 (by kernel_rfl) ?_
  have hD' : DatAt w2.drew (w.heap.size + 1) 0 0 s := hD
  refine wpTill_reads 3 [0, 1, 2, 4, 5] (by kernel_rfl) ?_ hD' ?_
  · intro c a d v w h; cases d <;> exact h
  iterate 5 (refine wpReads_cons (v := ?_) rfl (yieldsIf_yes rfl fun w' hw => ?_) ?_; rotate_left; (have d0 := blk.cell hw 0 rfl; have d1 := blk.cell hw 1 rfl; have d2 := blk.cell hw 2 rfl; have d3 := blk.cell hw 3 rfl; have d4 := blk.cell hw 4 rfl; clear hw; first | (go_simp; done) | (go_simp; exact rfl)); simp only [Act.put, List.setIfInBounds_toArray, List.set_cons_zero, List.set_cons_succ, List.getElem_toArray, List.getElem_cons_zero, List.getElem_cons_succ])
  refine wpReads_nil ?_
  simp only [listAll]
  refine wpTill_one (i := 3) (by kernel_rfl) rfl rfl ?_
  intro K hK
  go_step
  have hss := Hss.out
  refine (vlong_any (s.size : Int) (by omega) _).mono ?_
  rintro e w5 ⟨v, rfl, q⟩
  have hD5 : DatAt w5 (w.heap.size + 1) 0 0 s := blk.chg hD' q.chg (fun e => e)
  have hq := q.up (hC.out.drew)
  refine hK _ _ ⟨fun _ => hD5, ?_⟩
  clear hK K
  have hl1 := (longB_len (s.size : Int) (by omega)).2
  refine wpTill_one (i := 6) (by kernel_rfl) rfl rfl ?_
  intro K hK
  refine wp_append_string _ _ 22 9 (by rfl) w.heap.size 5 i5 Tryd.underlying22 Tryd.underlying9 y1 y2 y3 y4 v (longB (s.size : Int)).length _ (by rfl) hq.own s (by rfl) (by unfold maxLen; omega) (by omega) hq.chg.size ?_
  intro v' w6 z1 z2
  have hC6 : Chg (fun _ => False) w w6 := hq.chg.trans (grown_chg z2) (fun i hi e => by have := (hq.own.lt i e).1; omega)
  have hD6 : DatAt w6 (w.heap.size + 1) 0 0 s := blk.chg hD5 (grown_chg z2) (fun e => by have := (q.own.lt _ e).1; have := hD'.lt; omega)
  refine hK _ _ ⟨fun _ => hD6, ?_⟩
  clear hK K
  refine wpTill_reads 0 [7] (by kernel_rfl) ?_ hD6 ?_
  · intro c a d v w h; cases d <;> exact h
  iterate 1 (refine wpReads_cons (v := ?_) rfl (yieldsIf_yes rfl fun w' hw => ?_) ?_; rotate_left; (have d0 := blk.cell hw 0 rfl; have d1 := blk.cell hw 1 rfl; have d2 := blk.cell hw 2 rfl; have d3 := blk.cell hw 3 rfl; have d4 := blk.cell hw 4 rfl; clear hw; first | (go_simp; done) | (go_simp; exact rfl)); simp only [Act.put, List.setIfInBounds_toArray, List.set_cons_zero, List.set_cons_succ, List.getElem_toArray, List.getElem_cons_zero, List.getElem_cons_succ])
  refine wpReads_nil ?_
  simp only [listAll]
  refine wpTill_done (by kernel_rfl) ?_ _
  have Z1 := hid z1
  clear z1 z2
  go_wp2
  go_ret
  refine ⟨v', rfl, ?_, hC6⟩
  have e := Z1.out
  rw [Hsc.out, Hss.out] at e
  show World.ownsRow _ _ _ _ _ (longB (l.length : Int) ++ l).length (byteCells (longB (l.length : Int) ++ l))
  rw [List.length_append, show byteCells (longB (l.length : Int) ++ l) = byteCells (longB (l.length : Int)) ++ byteCells l from List.map_append]
  exact e

set_option maxHeartbeats 1000000 in
set_option maxRecDepth 100000 in
theorem bytes_7 (d : PV) (hd : d.Of 7) (w : World) : Calls Tryd.prog 51 #[.slice none 0 0, sch 7, dat d.n d.f (strOf d.s), .int .i64 0] w fun e w' => ∃ v, e = .returned v ∧ Out w w' v (d.bytes 7) := by
  obtain ⟨n, f, l⟩ := d
  obtain ⟨hn, hf, hl⟩ := hd.2.2.2.2.2.2 rfl
  simp only at hn hf hl
  subst hn hf
  obtain ⟨i5, y1, y2, y3, y4⟩ := info_parts Tryd.info5
  obtain ⟨s, hs⟩ : ∃ s, strOf l = s := ⟨_, rfl⟩
  have hss : s.size = l.length := by rw [← hs]; exact strOf_size l
  have hsc : strCells s = byteCells l := by rw [← hs]; rfl
  show Calls Tryd.prog 51 #[.slice none 0 0, sch 7, dat 0 0 (strOf l), .int .i64 0] w _
  rw [hs]
  obtain ⟨w2, hw2⟩ : ∃ w2, (w.alloc (.cells #[.int .i64 7, .string ⟨#[]⟩, .string ⟨#[]⟩, .slice none 0 0, .slice none 0 0, .slice none 0 0, .string ⟨#[]⟩, .int .i64 0, .slice none 0 0] 56)).alloc (.cells #[.int .i64 0, .int .u64 0, .string s, .slice none 0 0, .slice none 0 0] 60) = w2 := ⟨_, rfl⟩
  have hD : DatAt w2 (w.heap.size + 1) 0 0 s := by rw [← hw2]; exact blk_new' (by simp) _ 60
  have hC := hid (show Chg (fun _ => False) w w2 by rw [← hw2]; exact ((Chg.refl _ w).alloc _).alloc _)
  have Hw2 := hid hw2
  have Hss := hid hss
  have Hsc := hid hsc
  clear hw2 hs hss hsc
  unfold sch dat
  go_enter Tryd.func51, Tryd.ntmps51
  go_wp2
  rw [Hw2.out]
  refine wp_region_till (fun w' => DatAt w' (w.heap.size + 1) 0 0 s) 100 (by kernel_rfl) ?_
  have hD' : DatAt w2.drew (w.heap.size + 1) 0 0 s := hD
  refine wpTill_reads 3 [0, 1, 2, 4, 5] (by kernel_rfl) ?_ hD' ?_
  · intro c a d v w h; cases d <;> exact h
  iterate 5 (refine wpReads_cons (v := ?_) rfl (yieldsIf_yes rfl fun w' hw => ?_) ?_; rotate_left; (have d0 := blk.cell hw 0 rfl; have d1 := blk.cell hw 1 rfl; have d2 := blk.cell hw 2 rfl; have d3 := blk.cell hw 3 rfl; have d4 := blk.cell hw 4 rfl; clear hw; first | (go_simp; done) | (go_simp; exact rfl)); simp only [Act.put, List.setIfInBounds_toArray, List.set_cons_zero, List.set_cons_succ, List.getElem_toArray, List.getElem_cons_zero, List.getElem_cons_succ])
  refine wpReads_nil ?_
  simp only [listAll]
  refine wpTill_one (i := 3) (by kernel_rfl) rfl rfl ?_
  intro K hK
  go_step
  have hss := Hss.out
  refine (vlong_any (s.size : Int) (by omega) _).mono ?_
  rintro e w5 ⟨v, rfl, q⟩
  have hD5 : DatAt w5 (w.heap.size + 1) 0 0 s := blk.chg hD' q.chg (fun e => e)
  have hq := q.up (hC.out.drew)
  refine hK _ _ ⟨fun _ => hD5, ?_⟩
  clear hK K
  have hl1 := (longB_len (s.size : Int) (by omega)).2
  refine wpTill_one (i := 6) (by kernel_rfl) rfl rfl ?_
  intro K hK
  refine wp_append_string _ _ 22 9 (by rfl) w.heap.size 5 i5 Tryd.underlying22 Tryd.underlying9 y1 y2 y3 y4 v (longB (s.size : Int)).length _ (by rfl) hq.own s (by rfl) (by unfold maxLen; omega) (by omega) hq.chg.size ?_
  intro v' w6 z1 z2
  have hC6 : Chg (fun _ => False) w w6 := hq.chg.trans (grown_chg z2) (fun i hi e => by have := (hq.own.lt i e).1; omega)
  have hD6 : DatAt w6 (w.heap.size + 1) 0 0 s := blk.chg hD5 (grown_chg z2) (fun e => by have := (q.own.lt _ e).1; have := hD'.lt; omega)
  refine hK _ _ ⟨fun _ => hD6, ?_⟩
  clear hK K
  refine wpTill_reads 0 [7] (by kernel_rfl) ?_ hD6 ?_
  · intro c a d v w h; cases d <;> exact h
  iterate 1 (refine wpReads_cons (v := ?_) rfl (yieldsIf_yes rfl fun w' hw => ?_) ?_; rotate_left; (have d0 := blk.cell hw 0 rfl; have d1 := blk.cell hw 1 rfl; have d2 := blk.cell hw 2 rfl; have d3 := blk.cell hw 3 rfl; have d4 := blk.cell hw 4 rfl; clear hw; first | (go_simp; done) | (go_simp; exact rfl)); simp only [Act.put, List.setIfInBounds_toArray, List.set_cons_zero, List.set_cons_succ, List.getElem_toArray, List.getElem_cons_zero, List.getElem_cons_succ])
  refine wpReads_nil ?_
  simp only [listAll]
  refine wpTill_done (by kernel_rfl) ?_ _
  have Z1 := hid z1
  clear z1 z2
  go_wp2
  go_ret
  refine ⟨v', rfl, ?_, hC6⟩
  have e := Z1.out
  rw [Hsc.out, Hss.out] at e
  show World.ownsRow _ _ _ _ _ (longB (l.length : Int) ++ l).length (byteCells (longB (l.length : Int) ++ l))
  rw [List.length_append, show byteCells (longB (l.length : Int) ++ l) = byteCells (longB (l.length : Int)) ++ byteCells l from List.map_append]
  exact e

theorem bytes_any (k : Nat) (hk : 1 ≤ k ∧ k ≤ 7) (d : PV) (hd : d.Of k) (w : World) : Calls Tryd.prog 51 #[.slice none 0 0, sch k, dat d.n d.f (strOf d.s), .int .i64 0] w fun e w' => ∃ v, e = .returned v ∧ Out w w' v (d.bytes k) := by
  match k, hk with
  | 1, _ => exact bytes_1 d hd w
  | 2, _ => exact bytes_2 d hd w
  | 3, _ => exact bytes_3 d hd w
  | 4, _ => exact bytes_4 d hd w
  | 5, _ => exact bytes_5 d hd w
  | 6, _ => exact bytes_6 d hd w
  | 7, _ => exact bytes_7 d hd w

set_option maxHeartbeats 1000000 in
set_option maxRecDepth 100000 in
theorem blocks_any (k : Nat) (hk : 1 ≤ k ∧ k ≤ 7) (d : PV) (hd : d.Of k) (w : World) : Calls Tryd.prog 33 #[sch k, dat d.n d.f (strOf d.s), .int .i64 0] w fun e w' => ∃ v, e = .returned v ∧ Out w w' v (d.bytes k) := by
  obtain ⟨w2, hw2⟩ : ∃ w2, (w.alloc (.cells #[.int .i64 (k : Int), .string ⟨#[]⟩, .string ⟨#[]⟩, .slice none 0 0, .slice none 0 0, .slice none 0 0, .string ⟨#[]⟩, .int .i64 0, .slice none 0 0] 56)).alloc (.cells #[.int .i64 d.n, .int .u64 (d.f : Int), .string (strOf d.s), .slice none 0 0, .slice none 0 0] 60) = w2 := ⟨_, rfl⟩
  have hS : SchAt w2 w.heap.size k ∧ DatAt w2 (w.heap.size + 1) d.n d.f (strOf d.s) := by rw [← hw2]; exact ⟨(blk_new w _ 56).alloc _, blk_new' (by simp) _ 60⟩
  have hC := hid (show Chg (fun _ => False) w w2 by rw [← hw2]; exact ((Chg.refl _ w).alloc _).alloc _)
  have Hw2 := hid hw2
  clear hw2
  unfold sch dat
  go_enter Tryd.func33, Tryd.ntmps33
  go_wp2
  rw [Hw2.out]
  refine wp_region_till (fun w' => SchAt w' w.heap.size k ∧ DatAt w' (w.heap.size + 1) d.n d.f (strOf d.s)) 100 (by kernel_rfl) ?_
  have hS' : SchAt w2.drew w.heap.size k ∧ DatAt w2.drew (w.heap.size + 1) d.n d.f (strOf d.s) := hS
  refine wpTill_reads 3 [0, 2, 3, 4] (by kernel_rfl) ?_ hS' ?_
  · intro c a d v w h; cases d <;> exact h
  iterate 4 (refine wpReads_cons (v := ?_) rfl (yieldsIf_yes rfl fun w' hw => ?_) ?_; rotate_left; (have g0 := blk.cell hw.1 0 rfl; have g1 := blk.cell hw.1 1 rfl; have g2 := blk.cell hw.1 2 rfl; have g3 := blk.cell hw.1 3 rfl; have g4 := blk.cell hw.1 4 rfl; have g5 := blk.cell hw.1 5 rfl; have g6 := blk.cell hw.1 6 rfl; have g7 := blk.cell hw.1 7 rfl; have g8 := blk.cell hw.1 8 rfl; have d0 := blk.cell hw.2 0 rfl; have d1 := blk.cell hw.2 1 rfl; have d2 := blk.cell hw.2 2 rfl; have d3 := blk.cell hw.2 3 rfl; have d4 := blk.cell hw.2 4 rfl; clear hw; first | (go_simp; done) | (go_simp; exact rfl)); simp only [Act.put, List.setIfInBounds_toArray, List.set_cons_zero, List.set_cons_succ, List.getElem_toArray, List.getElem_cons_zero, List.getElem_cons_succ])
  refine wpReads_nil ?_
  simp only [listAll]
  refine wpTill_one (i := 1) (by kernel_rfl) rfl rfl ?_
  intro K hK
  go_step
  refine (types_none2 (k : Int) (by omega) _).mono ?_
  rintro e w4 ⟨rfl, c4⟩
  have hS4 : SchAt w4 w.heap.size k ∧ DatAt w4 (w.heap.size + 1) d.n d.f (strOf d.s) := ⟨blk.chg hS'.1 c4 (fun e => e), blk.chg hS'.2 c4 (fun e => e)⟩
  refine hK _ _ ⟨fun _ => hS4, ?_⟩
  clear hK K
  refine wpTill_one (i := 5) (by kernel_rfl) rfl rfl ?_
  intro K hK
  go_step
  refine (bytes_any k hk d hd _).mono ?_
  rintro e w5 ⟨v, rfl, q⟩
  have hS5 : SchAt w5 w.heap.size k ∧ DatAt w5 (w.heap.size + 1) d.n d.f (strOf d.s) := ⟨blk.chg hS4.1 q.chg (fun e => e), blk.chg hS4.2 q.chg (fun e => e)⟩
  refine hK _ _ ⟨fun _ => hS5, ?_⟩
  clear hK K
  refine wpTill_reads 0 [6] (by kernel_rfl) ?_ hS5 ?_
  · intro c a d v w h; cases d <;> exact h
  iterate 1 (refine wpReads_cons (v := ?_) rfl (yieldsIf_yes rfl fun w' hw => ?_) ?_; rotate_left; (have g0 := blk.cell hw.1 0 rfl; have g1 := blk.cell hw.1 1 rfl; have g2 := blk.cell hw.1 2 rfl; have g3 := blk.cell hw.1 3 rfl; have g4 := blk.cell hw.1 4 rfl; have g5 := blk.cell hw.1 5 rfl; have g6 := blk.cell hw.1 6 rfl; have g7 := blk.cell hw.1 7 rfl; have g8 := blk.cell hw.1 8 rfl; have d0 := blk.cell hw.2 0 rfl; have d1 := blk.cell hw.2 1 rfl; have d2 := blk.cell hw.2 2 rfl; have d3 := blk.cell hw.2 3 rfl; have d4 := blk.cell hw.2 4 rfl; clear hw; first | (go_simp; done) | (go_simp; exact rfl)); simp only [Act.put, List.setIfInBounds_toArray, List.set_cons_zero, List.set_cons_succ, List.getElem_toArray, List.getElem_cons_zero, List.getElem_cons_succ])
  refine wpReads_nil ?_
  simp only [listAll]
  refine wpTill_done (by kernel_rfl) ?_ _
  have Q := hid q
  clear q
  go_wp2
  go_ret
  exact ⟨v, rfl, Q.out.up (hC.out.drew.trans c4 (fun _ _ e => e))⟩

set_option maxHeartbeats 1000000 in
set_option maxRecDepth 100000 in
theorem avbytes_any (k : Nat) (hk : 1 ≤ k ∧ k ≤ 7) (d : PV) (hd : d.Of k) (w : World) : Calls Tryd.prog 22 #[sch k, dat d.n d.f (strOf d.s)] w fun e w' => ∃ v, e = .returned v ∧ Out w w' v (d.bytes k) := by
  unfold sch dat
  go_enter Tryd.func22, Tryd.ntmps22
  go_wp2_with (go_at_call 33; fail)
  refine (blocks_any k hk d hd _).mono ?_
  rintro e w5 ⟨v, rfl, q⟩
  go_wp2
  go_ret
  exact ⟨v, rfl, q.up (((Chg.refl _ w).alloc _).alloc _)⟩
end Go.Proofs.YtkhicabfmkldpaaDoor

namespace Go.Proofs.YtkhicabfmkldpaaDoor
open Go Go.RowKit Go.Lib

section
variable {P : Program} {ops : Array Oper} {Q : Exit → Act → World → Prop} {md : Region.Mode} {S : World → Prop} {k : Nat}
theorem wpTill_two {i j : Nat} {o o' : Oper} {fuel : Nat} {listed : Array Bool} {a : Act} {w : World} (hr : Region.ready md ops listed = [i, j]) (ho : ops[i]? = some o) (hg : o.guard = none) (ho' : ops[j]? = some o') (hg' : o'.guard = none)
    (h : ∀ K : Act → World → Prop, (∀ a' w', ((i < k → S w') ∧ wpTill P md ops Q S k fuel (listed.setIfInBounds i true) a' w') → K a' w') → o.wp P a w K Q)
    (h' : ∀ K : Act → World → Prop, (∀ a' w', ((j < k → S w') ∧ wpTill P md ops Q S k fuel (listed.setIfInBounds j true) a' w') → K a' w') → o'.wp P a w K Q) : wpTill P md ops Q S k (fuel + 1) listed a w := by
  refine ⟨fun h0 => absurd (h0 ▸ hr) (by simp), fun m hm => ?_⟩
  rw [hr] at hm
  have hm : m = i ∨ m = j := by simpa using hm
  rcases hm with rfl | rfl
  · unfold wpOp
    simp only [ho]
    rw [if_pos (by simp [Region.wanted, hg])]
    exact .inl (h _ fun _ _ q => q)
  · unfold wpOp
    simp only [ho']
    rw [if_pos (by simp [Region.wanted, hg'])]
    exact .inl (h' _ fun _ _ q => q)
end

/-- 'append(out, xs...)': out is the call's own, xs a slice of bytes that came in. -/
theorem wpList_append_rdB {P : Program} {w : World} {ops : Array Oper} {rest : List Oper} {o : Oper} {a : Act} {Q : Exit → Act → World → Prop} (hgd : o.guard = none) (s x : Operand) (t : TypeId)
    (ho : o.op = .call { callee := .builtin .append, args := #[s, x], argTypes := #[t, t] })
    (base : Nat) (e : TypeId) (i : TypeInfo) (z : Value) (ht : P.underlying t = some (.slice e)) (hi : P.info? e = some i) (hz : i.zero = some z)
    (hsize : i.size = 1) (hby : i.bytes = 1) (hzs : z.cells.size = 1)
    (v : Value) (n : Nat) (xs : List Value) (hs : a.eval s = v) (hown : w.ownsRow base e 1 v n xs)
    (xv : Value) (l : List UInt8) (hx : a.eval x = xv) (hsrc : RdB w xv l)
    (h63 : n + l.length ≤ maxLen) (hbytes : (n + l.length) * 1 ≤ 140737488355328) (hbase : base ≤ w.heap.size)
    (h : ∀ v' w', w'.ownsRow base e 1 v' (n + l.length) (xs ++ byteCells l) → w.grownBy w' v.ownBlock → wpList P ops Q rest (a.put o.dst v') w') :
    wpList P ops Q (o :: rest) a w := by
  rcases hsrc with ⟨rfl, rfl⟩ | ⟨b, off, cap, rfl, h1, h2, h3⟩
  · refine wpList_append_own_none hgd s x t ho base e i 1 ht hi v n xs hs hown hx (h v w (by simpa [byteCells] using hown) ?_)
    exact ⟨rfl, rfl, rfl, Nat.le_refl _, fun _ _ _ => rfl⟩
  · refine wpList_append_own_at w hgd s x t ho base e i z 1 1 ht hi hz hsize hby hzs (by decide) v n xs hs hown ⟨b, off, none⟩ l.length cap (byteCells l) hx (by simp [byteCells]) ?_ ?_ h63 hbytes hbase (fun v' w' q1 q2 _ _ => h v' w' q1 q2)
    · intro j u hj
      unfold byteCells at hj
      rw [List.getElem?_map] at hj
      cases hl : l[j]? with
      | none => rw [hl] at hj; cases hj
      | some x =>
        rw [hl] at hj
        cases hj
        have hjl := (List.getElem?_eq_some_iff.1 hl).1
        rw [Addr.add_lit, h3 j hjl, List.getD_eq_getElem?_getD, hl]
        rfl
    · intro u hu
      obtain ⟨x, _, rfl⟩ := List.mem_map.1 hu
      rfl

theorem rdB_of_own {w : World} {B : Nat} {v : Value} {l : List UInt8} (h : w.ownsRow B 5 1 v l.length (byteCells l)) : RdB w v l := by
  rcases h.2 with ⟨rfl, h0⟩ | ⟨g, cap, cur, rfl, hb, hg, hn, hm, hsz, htk⟩
  · exact .inl ⟨rfl, List.eq_nil_of_length_eq_zero h0⟩
  · refine .inr ⟨g, 0, cap, rfl, hn, hm, fun i hi => ?_⟩
    have hc := h.cells (g := g) rfl i (.int .u8 ((l.getD i 0).toNat : Int)) (by
      unfold byteCells
      rw [List.getElem?_map, List.getD_eq_getElem?_getD, List.getElem?_eq_getElem hi]
      rfl)
    rwa [Addr.add_lit] at hc

theorem row_append {v : Value} {w : World} {B : Nat} {l t : List UInt8} (h : w.ownsRow B 5 1 v (l.length + t.length) (byteCells l ++ byteCells t)) : w.ownsRow B 5 1 v (l ++ t).length (byteCells (l ++ t)) := by
  rw [List.length_append, show byteCells (l ++ t) = byteCells l ++ byteCells t from List.map_append]
  exact h

theorem val_asked (k : Nat) (hk : 1 ≤ k ∧ k ≤ 7) (d : List UInt8) (hd : d.length ≤ 100000) : Asked (valIns k) d := by
  refine ⟨by show 0 < 2; omega, by show 2 ≤ 100000; omega, ?_, ?_, hd⟩
  · intro i op x h
    match i, h with
    | 0, h => cases h; omega
    | 1, h => cases h; omega
    | i + 2, h => simp [valIns] at h
  · intro i x h
    match i, h with
    | 0, h => cases h
    | 1, h => cases h
    | i + 2, h => simp [valIns] at h

theorem val_halts (k : Nat) (i : Nat) (x : Int) (h : (valIns k)[i]? = some (10, x)) : 0 ≤ x ∧ x ≤ ([] : List ByteArray).length := by
  match i, h with
  | 0, h => cases h
  | 1, h => cases h
  | i + 2, h => simp [valIns] at h

theorem bytes_len (k : Nat) (hk : 1 ≤ k ∧ k ≤ 7) (d : PV) (hd : d.Of k) : (d.bytes k).length ≤ 18 := by
  obtain ⟨n, f, s⟩ := d
  obtain ⟨c1, c2, c3, c4, c5, c6, c7⟩ := hd
  match k, hk with
  | 1, _ => show 1 ≤ 18; omega
  | 2, _ => have := longB_len n (by have := (c2 rfl).1; simp only at this; omega); show (longB n).length ≤ 18; omega
  | 3, _ => have := longB_len n (c3 rfl).1; show (longB n).length ≤ 18; omega
  | 4, _ => show (lowB 4 f).length ≤ 18; rw [lowB_length]; omega
  | 5, _ => show (lowB 8 f).length ≤ 18; rw [lowB_length]; omega
  | 6, _ =>
    have h := (c6 rfl).2.2
    simp only at h
    have := longB_len (s.length : Int) (by omega)
    show (longB (s.length : Int) ++ s).length ≤ 18
    rw [List.length_append]
    omega
  | 7, _ =>
    have h := (c7 rfl).2.2
    simp only at h
    have := longB_len (s.length : Int) (by omega)
    show (longB (s.length : Int) ++ s).length ≤ 18
    rw [List.length_append]
    omega

/-- A call's cells. -/
def blkC (w : World) (g : Nat) (m : Note) : Prop := w.cell? ⟨g, 0, none⟩ = some (.string m.name) ∧ w.cell? ⟨g, 1, none⟩ = some (.int .i64 m.n) ∧ w.cell? ⟨g, 2, none⟩ = some (.string m.s) ∧ w.cell? ⟨g, 3, none⟩ = some (.int .i64 m.tg)

/-- The run of the program that reads a value, and sets it. -/
theorem val_run (sl : Bool) (k : Nat) (hk : 1 ≤ k ∧ k ≤ 7) (d : PV) (hd : d.Of k) (t : List UInt8) (ht : t.length ≤ 20) (iv dv : Value) (e0 e1 : Addr) (w : World) (hI : InAt w iv (valIns k)) (hD : RdB w dv (d.bytes k ++ t)) (hDo : ∀ g, dv.ownBlock = some g → g < w.heap.size) (hS : Sent w w.heap.size e0 e1) :
    Calls Tryd.prog 13 #[iv, .slice none 0 0, dv, .bool sl] w fun e w' => ∃ (g cap : Nat), e = .returned (.tuple #[.slice (some ⟨g, 0, none⟩) 1 cap, .int .i64 t.length, .string ⟨#[]⟩, .bool true]) ∧ blkC w' g (d.note k) ∧ Chg (fun _ => False) w w' := by
  have hlen := bytes_len k hk d hd
  refine (vmrun sl (valIns k) [] (d.bytes k ++ t) iv _ dv e0 e1 10 _ w (val_asked k hk _ (by rw [List.length_append]; omega)) hI (.inl ⟨rfl, rfl⟩) (fun q s h => by simp at h) (val_halts k) hD hDo hS (val_law k hk d hd t) ⟨rfl, by show 0 < 2998; omega, rfl⟩).mono ?_
  rintro e w' ⟨v', rest', why, rfl, _, hown, hre, hwhy, hch⟩
  obtain rfl : rest' = t := hre rfl
  obtain rfl : why = ⟨#[]⟩ := hwhy.1 rfl
  obtain ⟨g, cap, rfl, _, _⟩ := hown.form (by show 0 < 1; omega)
  refine ⟨g, cap, rfl, ?_, hch⟩
  have key : ∀ j u, (d.note k).cells[j]? = some u → w'.cell? ⟨g, j, none⟩ = some u := by
    intro j u hj
    have h1 := hown.cells (g := g) rfl j u (by simpa using hj)
    rwa [Addr.add_lit, Nat.zero_add] at h1
  exact ⟨key 0 _ rfl, key 1 _ rfl, key 2 _ rfl, key 3 _ rfl⟩
end Go.Proofs.YtkhicabfmkldpaaDoor
