/-
  impl.VMRun: its contract.
-/
import Derived.Test.YtkhicabfmkldpaaDoorVmrun
set_option linter.unusedSimpArgs false
set_option linter.unusedVariables false
namespace Go.Proofs.YtkhicabfmkldpaaDoor
open Go Go.RowKit

theorem bad_iff {E : Env} {w : World} {v err : Value} : ∀ {b : Nat}, ErrAt E w v err b → (err = .nilIface ↔ b = 0)
  | 0, h => ⟨fun _ => rfl, fun _ => h⟩
  | b + 1, h => by
    refine ⟨fun e => ?_, fun e => by omega⟩
    obtain ⟨t, u, h2⟩ := h.isErr (by omega)
    rw [e] at h2
    cases h2

/-- What VMRun hands back. -/
def VmPost (texts : List ByteArray) (s' : St) (w : World) (e : Ending) (w' : World) : Prop :=
  ∃ (v' : Value) (rest' : List UInt8) (why : ByteArray), e = .returned (.tuple #[v', .int .i64 rest'.length, .string why, .bool (decide (s'.bad = 0))]) ∧ CallsAt w' v' s'.notes ∧ (∀ g, v'.ownBlock = some g → w.heap.size ≤ g) ∧ (s'.bad = 0 → rest' = s'.rest) ∧ WhyIs texts s'.bad why ∧ Chg (fun _ => False) w w'

set_option maxHeartbeats 4000000 in
set_option maxRecDepth 100000 in
theorem vmrun_slow (ins : List (Nat × Int)) (texts : List ByteArray) (data : List UInt8) (iv ev dv : Value) (e0 e1 : Addr) (mx : Nat) (s' : St) (w : World) (hA : Asked ins data) (hI : InAt w iv ins) (hT : TxtAt w ev w.heap.size texts) (hTs : ∀ (q : Nat) (s : ByteArray), texts[q]? = some s → s.size ≤ 1000000)
    (hH : ∀ (i : Nat) (x : Int), ins[i]? = some (10, x) → 0 ≤ x ∧ x ≤ texts.length) (hD : RdB w dv data) (hDo : ∀ g, dv.ownBlock = some g → g < w.heap.size) (hS : Sent w w.heap.size e0 e1)
    (hs' : lev mx ins 3000 regs0 0 0 (-1) false false (st0 data 3000) = s') (hg : Good s') :
    Calls Tryd.prog 13 #[iv, ev, dv, .bool true] w (VmPost texts s' w) := by
  obtain ⟨dva, dvc, hdvf⟩ := hD.form
  obtain ⟨w3, hw3⟩ : ∃ w3, (((w.alloc (.cells #[.slice none 0 0, .int .i64 0] 74)).alloc (.cells #[.slice dva data.length dvc, .int .i64 0] 77)).alloc (.cells #[.slice dva data.length dvc, .int .i64 0] 80)) = w3 := ⟨_, rfl⟩
  have hsz : w3.heap.size = w.heap.size + 1 + 1 + 1 := by rw [← hw3]; simp
  have hc3 : Chg (fun _ => False) w w3 := by rw [← hw3]; exact (((Chg.refl _ w).alloc _).alloc _).alloc _
  have hN : blk w3 w.heap.size #[.slice none 0 0, .int .i64 0] 74 := by rw [← hw3]; exact ((blk_new w _ _).alloc _).alloc _
  have hR : blk w3 (w.heap.size + 1) #[dv, .int .i64 0] (if true then 77 else 80) := by rw [← hw3, hdvf]; exact (blk_new' (by simp) _ _).alloc _
  have hprog := program_any ins hA.n hA.n2 iv ev hT.form w3 (hI.chg hc3)
  have hready : ∀ w4 gI cap, Chg (fun _ => False) w3 w4 → blk w4 w3.heap.size #[.slice (some ⟨gI, 0, none⟩) ins.length cap, ev, .int .i64 0, .int .i64 0] 110 → w4.ownsRow w3.heap.size 116 2 (.slice (some ⟨gI, 0, none⟩) ins.length cap) ins.length (insCells ins) → gI ≠ w3.heap.size →
      Calls Tryd.prog 26 #[rdV true (w.heap.size + 1), .pointer (some ⟨w3.heap.size, 0, none⟩), .iface 87 (.agg #[.pointer (some ⟨w.heap.size, 0, none⟩), .int .i64 0])] w4 fun e w' => ∃ err, e = .returned err ∧ RunLeft w.heap.size w.heap.size (w.heap.size + 1) true dv data texts e0 e1 s' w4 err w' :=
    fun w4 gI cap k1 k2 k3 k4 => eval_ready true ins texts data ev dv e0 e1 mx s' w w3 w4 (w.heap.size + 1) gI cap hA hT hTs hH hD hDo hS hs' hg hsz hc3 hN hR (by omega) (by omega) k1 k2 k3 k4
  obtain ⟨iva, ivn, ivc, hivf⟩ : ∃ a n c, iv = .slice a n c := by obtain ⟨b, off, cap, rfl, _⟩ := hI; exact ⟨_, _, _, rfl⟩
  obtain ⟨eva, evn, evc, hevf⟩ := hT.form
  rw [hsz] at hprog hready
  have hS3 := hS.chg hc3 (fun _ e => e.elim)
  rw [← hw3] at hprog hready hc3 hS3
  rw [hdvf] at hready
  subst hivf hevf
  have Hprog := hid hprog
  have Hready := hid hready
  have Hc3 := hid hc3
  have HTs := hid hTs
  have HS3 := hid hS3
  have Hdv := hid hdvf
  rw [hdvf]
  clear hprog hready hc3 hTs hS3 hI hT hD hDo hS hs' hg hN hR hw3 hsz hA hH hdvf
  go_enter Tryd.func13, Tryd.ntmps13
  go_wp2_with (first | (go_at_call 27; refine (Hprog.out).mono ?_; rintro e w4 ⟨gI, cap, rfl, k1, k2, k3, k4⟩; have Hk := hid (And.intro k4 (And.intro k1 (And.intro k2 k3))); clear k1 k2 k3 k4) | (go_at_call 26; refine (Hready.out w4 gI cap Hk.out.1 Hk.out.2.1 Hk.out.2.2.1 Hk.out.2.2.2).mono ?_; rintro e w5 ⟨err, rfl, hrun⟩; have Hrun := hid hrun; clear hrun) | (go_at_call 28; obtain ⟨E, v5, rest5, t1, t2, t3, t4, t5, t6, t7, t8⟩ := Hrun.out; refine (left_any w.heap.size _ true _ data rest5 w5 t6).mono ?_; rintro e w6 ⟨rfl, kk, rfl⟩; have Ht := hid (And.intro t1 (And.intro t2 (And.intro t3 (And.intro t4 (And.intro t5 (And.intro t7 t8)))))); clear t1 t2 t3 t4 t5 t6 t7 t8 Hrun))
  obtain ⟨t1, t2, t3, t4, t5, t7, t8⟩ := Ht.out
  have hform := t4.form
  have hC5 : Chg (fun k => w.heap.size ≤ k) w ((w5.drewN kk).drew) := ((((Hc3.out.mono (S' := fun k => w.heap.size ≤ k) (fun _ _ e => e.elim)).trans Hk.out.1 (fun _ _ e => e.elim)).trans t8 (fun _ _ e => e)).drewN kk).drew
  have hS5 : Sent ((w5.drewN kk).drew) w.heap.size E.e0 E.e1 := by
    rw [t2, t3]
    exact (((HS3.out.chg Hk.out.1 (fun _ e => e.elim)).chg t8 (fun _ e => e)).chg (((Chg.refl (fun _ => False) w5).drewN kk).drew) (fun _ e => e.elim))
  have hE5 : ErrAt E ((w5.drewN kk).drew) v5 err s'.bad := t4.chg (((Chg.refl (fun _ => False) w5).drewN kk).drew) (fun _ e => e.elim) (Fresh.refl _ _)
  have hN5 : NotesAt ((w5.drewN kk).drew) w.heap.size w.heap.size v5 s'.notes s'.tg := t5.chg (((Chg.refl (fun _ => False) w5).drewN kk).drew) (fun e => e) (fun _ _ e => e)
  obtain ⟨wz, hwz⟩ : ∃ wz, (w5.drewN kk).drew = wz := ⟨_, rfl⟩
  rw [hwz] at hC5 hS5 hE5 hN5
  have HC5 := hid hC5
  have HN5 := hid hN5
  have cN : wz.cell? ⟨w.heap.size, 0, none⟩ = some v5 := hN5.blk.cell 0 rfl
  have hfault := fault_err E wz v5 err w.heap.size hS5 (by rw [t1]; exact HTs.out) hE5
  have HF := hid hfault
  have HBad := hid (bad_iff t4)
  have HT7 := hid (And.intro t1 t7)
  clear t1 t2 t3 t4 t5 t7 t8 hC5 hS5 hE5 hN5 hfault Ht Hc3 Hk HS3 Hprog Hready
  have fin : ∀ (e : Ending) (b : Bool) (why : ByteArray) (k : Nat), e = .returned (.tuple #[v5, .int .i64 rest5.length, .string why, .bool b]) → b = decide (s'.bad = 0) → WhyIs E.texts s'.bad why → VmPost texts s' w e (wz.drewN k) := by
    intro e b why k he hb hw
    refine ⟨v5, rest5, why, by rw [he, hb], callsAt_of_own (World.ownsRow.chg HN5.out.own ((Chg.refl (fun _ => False) wz).drewN k) (fun _ _ e => e)), fun g hg => (HN5.out.own.lt _ hg).1, HT7.out.2, HT7.out.1 ▸ hw, (HC5.out.drewN k).mono (fun i hi e => absurd hi (by omega))⟩
  have Hfin := hid fin
  clear fin
  refine wp_region_till (fun w' => w'.cell? ⟨w.heap.size, 0, none⟩ = some v5) 100 (by kernel_rfl) ?_
  rw [hwz]
  clear hwz
  rcases hform with rfl | ⟨et, eu, rfl⟩
  · refine wpTill_reads 5 [0, 1, 2, 3, 4, 5, 7, 8] (by kernel_rfl) ?_ cN ?_
    · intro c a d v w h; cases d <;> exact h
    iterate 8 (refine wpReads_cons (v := ?_) rfl (yieldsIf_yes rfl fun w' hw => ?_) ?_; rotate_left; (first | (go_simp; done) | (go_simp; exact rfl)); simp only [Act.put, List.setIfInBounds_toArray, List.set_cons_zero, List.set_cons_succ, List.getElem_toArray, List.getElem_cons_zero, List.getElem_cons_succ])
    refine wpReads_nil ?_
    simp only [listAll]
    refine wpTill_one (i := 6) (by kernel_rfl) rfl rfl ?_
    intro K hK
    go_step
    refine (HF.out).mono ?_
    rintro e w6 ⟨why, rfl, ⟨kf, rfl⟩, hwhy⟩
    refine hK _ _ ⟨fun _ => cN, ?_⟩
    clear hK K
    refine wpTill_reads 0 [9, 10, 11, 12] (by kernel_rfl) ?_ cN ?_
    · intro c a d v w h; cases d <;> exact h
    iterate 4 (refine wpReads_cons (v := ?_) rfl (yieldsIf_yes rfl fun w' hw => ?_) ?_; rotate_left; (first | (go_simp; done) | (go_simp; exact rfl)); simp only [Act.put, List.setIfInBounds_toArray, List.set_cons_zero, List.set_cons_succ, List.getElem_toArray, List.getElem_cons_zero, List.getElem_cons_succ])
    refine wpReads_nil ?_
    simp only [listAll]
    refine wpTill_done (by kernel_rfl) ?_ _
    have Hwhy := hid hwhy
    clear hwhy
    go_wp2
    have hb := HBad.out
    simp at hb
    exact bodyPost_ret (v := .tuple #[v5, .int .i64 rest5.length, .string why, .bool true]) (by simp [results, Tryd.results13]) rfl (Hfin.out _ true why kf rfl (by simp [hb]) Hwhy.out)
  · refine wpTill_reads 5 [0, 1, 2, 3, 4, 5, 7, 8] (by kernel_rfl) ?_ cN ?_
    · intro c a d v w h; cases d <;> exact h
    iterate 8 (refine wpReads_cons (v := ?_) rfl (yieldsIf_yes rfl fun w' hw => ?_) ?_; rotate_left; (first | (go_simp; done) | (go_simp; exact rfl)); simp only [Act.put, List.setIfInBounds_toArray, List.set_cons_zero, List.set_cons_succ, List.getElem_toArray, List.getElem_cons_zero, List.getElem_cons_succ])
    refine wpReads_nil ?_
    simp only [listAll]
    refine wpTill_one (i := 6) (by kernel_rfl) rfl rfl ?_
    intro K hK
    go_step
    refine (HF.out).mono ?_
    rintro e w6 ⟨why, rfl, ⟨kf, rfl⟩, hwhy⟩
    refine hK _ _ ⟨fun _ => cN, ?_⟩
    clear hK K
    refine wpTill_reads 0 [9, 10, 11, 12] (by kernel_rfl) ?_ cN ?_
    · intro c a d v w h; cases d <;> exact h
    iterate 4 (refine wpReads_cons (v := ?_) rfl (yieldsIf_yes rfl fun w' hw => ?_) ?_; rotate_left; (first | (go_simp; done) | (go_simp; exact rfl)); simp only [Act.put, List.setIfInBounds_toArray, List.set_cons_zero, List.set_cons_succ, List.getElem_toArray, List.getElem_cons_zero, List.getElem_cons_succ])
    refine wpReads_nil ?_
    simp only [listAll]
    refine wpTill_done (by kernel_rfl) ?_ _
    have Hwhy := hid hwhy
    clear hwhy
    go_wp2
    have hb := HBad.out
    simp at hb
    exact bodyPost_ret (v := .tuple #[v5, .int .i64 rest5.length, .string why, .bool false]) (by simp [results, Tryd.results13]) rfl (Hfin.out _ false why kf rfl (by simp [hb]) Hwhy.out)

set_option maxHeartbeats 4000000 in
set_option maxRecDepth 100000 in
theorem vmrun_fast (ins : List (Nat × Int)) (texts : List ByteArray) (data : List UInt8) (iv ev dv : Value) (e0 e1 : Addr) (mx : Nat) (s' : St) (w : World) (hA : Asked ins data) (hI : InAt w iv ins) (hT : TxtAt w ev w.heap.size texts) (hTs : ∀ (q : Nat) (s : ByteArray), texts[q]? = some s → s.size ≤ 1000000)
    (hH : ∀ (i : Nat) (x : Int), ins[i]? = some (10, x) → 0 ≤ x ∧ x ≤ texts.length) (hD : RdB w dv data) (hDo : ∀ g, dv.ownBlock = some g → g < w.heap.size) (hS : Sent w w.heap.size e0 e1)
    (hs' : lev mx ins 3000 regs0 0 0 (-1) false false (st0 data 3000) = s') (hg : Good s') :
    Calls Tryd.prog 13 #[iv, ev, dv, .bool false] w (VmPost texts s' w) := by
  obtain ⟨dva, dvc, hdvf⟩ := hD.form
  obtain ⟨w3, hw3⟩ : ∃ w3, (((w.alloc (.cells #[.slice none 0 0, .int .i64 0] 74)).alloc (.cells #[.slice dva data.length dvc, .int .i64 0] 77)).alloc (.cells #[.slice dva data.length dvc, .int .i64 0] 80)) = w3 := ⟨_, rfl⟩
  have hsz : w3.heap.size = w.heap.size + 1 + 1 + 1 := by rw [← hw3]; simp
  have hc3 : Chg (fun _ => False) w w3 := by rw [← hw3]; exact (((Chg.refl _ w).alloc _).alloc _).alloc _
  have hN : blk w3 w.heap.size #[.slice none 0 0, .int .i64 0] 74 := by rw [← hw3]; exact ((blk_new w _ _).alloc _).alloc _
  have hR : blk w3 (w.heap.size + 1 + 1) #[dv, .int .i64 0] (if false then 77 else 80) := by rw [← hw3, hdvf]; exact blk_new' (by simp) _ _
  have hprog := program_any ins hA.n hA.n2 iv ev hT.form w3 (hI.chg hc3)
  have hready : ∀ w4 gI cap, Chg (fun _ => False) w3 w4 → blk w4 w3.heap.size #[.slice (some ⟨gI, 0, none⟩) ins.length cap, ev, .int .i64 0, .int .i64 0] 110 → w4.ownsRow w3.heap.size 116 2 (.slice (some ⟨gI, 0, none⟩) ins.length cap) ins.length (insCells ins) → gI ≠ w3.heap.size →
      Calls Tryd.prog 26 #[rdV false (w.heap.size + 1 + 1), .pointer (some ⟨w3.heap.size, 0, none⟩), .iface 87 (.agg #[.pointer (some ⟨w.heap.size, 0, none⟩), .int .i64 0])] w4 fun e w' => ∃ err, e = .returned err ∧ RunLeft w.heap.size w.heap.size (w.heap.size + 1 + 1) false dv data texts e0 e1 s' w4 err w' :=
    fun w4 gI cap k1 k2 k3 k4 => eval_ready false ins texts data ev dv e0 e1 mx s' w w3 w4 (w.heap.size + 1 + 1) gI cap hA hT hTs hH hD hDo hS hs' hg hsz hc3 hN hR (by omega) (by omega) k1 k2 k3 k4
  obtain ⟨iva, ivn, ivc, hivf⟩ : ∃ a n c, iv = .slice a n c := by obtain ⟨b, off, cap, rfl, _⟩ := hI; exact ⟨_, _, _, rfl⟩
  obtain ⟨eva, evn, evc, hevf⟩ := hT.form
  rw [hsz] at hprog hready
  have hS3 := hS.chg hc3 (fun _ e => e.elim)
  rw [← hw3] at hprog hready hc3 hS3
  rw [hdvf] at hready
  subst hivf hevf
  have Hprog := hid hprog
  have Hready := hid hready
  have Hc3 := hid hc3
  have HTs := hid hTs
  have HS3 := hid hS3
  have Hdv := hid hdvf
  rw [hdvf]
  clear hprog hready hc3 hTs hS3 hI hT hD hDo hS hs' hg hN hR hw3 hsz hA hH hdvf
  go_enter Tryd.func13, Tryd.ntmps13
  go_wp2_with (first | (go_at_call 27; refine (Hprog.out).mono ?_; rintro e w4 ⟨gI, cap, rfl, k1, k2, k3, k4⟩; have Hk := hid (And.intro k4 (And.intro k1 (And.intro k2 k3))); clear k1 k2 k3 k4) | (go_at_call 26; refine (Hready.out w4 gI cap Hk.out.1 Hk.out.2.1 Hk.out.2.2.1 Hk.out.2.2.2).mono ?_; rintro e w5 ⟨err, rfl, hrun⟩; have Hrun := hid hrun; clear hrun) | (go_at_call 28; obtain ⟨E, v5, rest5, t1, t2, t3, t4, t5, t6, t7, t8⟩ := Hrun.out; refine (left_any w.heap.size _ false _ data rest5 w5 t6).mono ?_; rintro e w6 ⟨rfl, kk, rfl⟩; have Ht := hid (And.intro t1 (And.intro t2 (And.intro t3 (And.intro t4 (And.intro t5 (And.intro t7 t8)))))); clear t1 t2 t3 t4 t5 t6 t7 t8 Hrun))
  obtain ⟨t1, t2, t3, t4, t5, t7, t8⟩ := Ht.out
  have hform := t4.form
  have hC5 : Chg (fun k => w.heap.size ≤ k) w ((w5.drewN kk).drew) := ((((Hc3.out.mono (S' := fun k => w.heap.size ≤ k) (fun _ _ e => e.elim)).trans Hk.out.1 (fun _ _ e => e.elim)).trans t8 (fun _ _ e => e)).drewN kk).drew
  have hS5 : Sent ((w5.drewN kk).drew) w.heap.size E.e0 E.e1 := by
    rw [t2, t3]
    exact (((HS3.out.chg Hk.out.1 (fun _ e => e.elim)).chg t8 (fun _ e => e)).chg (((Chg.refl (fun _ => False) w5).drewN kk).drew) (fun _ e => e.elim))
  have hE5 : ErrAt E ((w5.drewN kk).drew) v5 err s'.bad := t4.chg (((Chg.refl (fun _ => False) w5).drewN kk).drew) (fun _ e => e.elim) (Fresh.refl _ _)
  have hN5 : NotesAt ((w5.drewN kk).drew) w.heap.size w.heap.size v5 s'.notes s'.tg := t5.chg (((Chg.refl (fun _ => False) w5).drewN kk).drew) (fun e => e) (fun _ _ e => e)
  obtain ⟨wz, hwz⟩ : ∃ wz, (w5.drewN kk).drew = wz := ⟨_, rfl⟩
  rw [hwz] at hC5 hS5 hE5 hN5
  have HC5 := hid hC5
  have HN5 := hid hN5
  have cN : wz.cell? ⟨w.heap.size, 0, none⟩ = some v5 := hN5.blk.cell 0 rfl
  have hfault := fault_err E wz v5 err w.heap.size hS5 (by rw [t1]; exact HTs.out) hE5
  have HF := hid hfault
  have HBad := hid (bad_iff t4)
  have HT7 := hid (And.intro t1 t7)
  clear t1 t2 t3 t4 t5 t7 t8 hC5 hS5 hE5 hN5 hfault Ht Hc3 Hk HS3 Hprog Hready
  have fin : ∀ (e : Ending) (b : Bool) (why : ByteArray) (k : Nat), e = .returned (.tuple #[v5, .int .i64 rest5.length, .string why, .bool b]) → b = decide (s'.bad = 0) → WhyIs E.texts s'.bad why → VmPost texts s' w e (wz.drewN k) := by
    intro e b why k he hb hw
    refine ⟨v5, rest5, why, by rw [he, hb], callsAt_of_own (World.ownsRow.chg HN5.out.own ((Chg.refl (fun _ => False) wz).drewN k) (fun _ _ e => e)), fun g hg => (HN5.out.own.lt _ hg).1, HT7.out.2, HT7.out.1 ▸ hw, (HC5.out.drewN k).mono (fun i hi e => absurd hi (by omega))⟩
  have Hfin := hid fin
  clear fin
  refine wp_region_till (fun w' => w'.cell? ⟨w.heap.size, 0, none⟩ = some v5) 100 (by kernel_rfl) ?_
  rw [hwz]
  clear hwz
  rcases hform with rfl | ⟨et, eu, rfl⟩
  · refine wpTill_reads 5 [0, 1, 2, 3, 4, 5, 7, 8] (by kernel_rfl) ?_ cN ?_
    · intro c a d v w h; cases d <;> exact h
    iterate 8 (refine wpReads_cons (v := ?_) rfl (yieldsIf_yes rfl fun w' hw => ?_) ?_; rotate_left; (first | (go_simp; done) | (go_simp; exact rfl)); simp only [Act.put, List.setIfInBounds_toArray, List.set_cons_zero, List.set_cons_succ, List.getElem_toArray, List.getElem_cons_zero, List.getElem_cons_succ])
    refine wpReads_nil ?_
    simp only [listAll]
    refine wpTill_one (i := 6) (by kernel_rfl) rfl rfl ?_
    intro K hK
    go_step
    refine (HF.out).mono ?_
    rintro e w6 ⟨why, rfl, ⟨kf, rfl⟩, hwhy⟩
    refine hK _ _ ⟨fun _ => cN, ?_⟩
    clear hK K
    refine wpTill_reads 0 [9, 10, 11, 12] (by kernel_rfl) ?_ cN ?_
    · intro c a d v w h; cases d <;> exact h
    iterate 4 (refine wpReads_cons (v := ?_) rfl (yieldsIf_yes rfl fun w' hw => ?_) ?_; rotate_left; (first | (go_simp; done) | (go_simp; exact rfl)); simp only [Act.put, List.setIfInBounds_toArray, List.set_cons_zero, List.set_cons_succ, List.getElem_toArray, List.getElem_cons_zero, List.getElem_cons_succ])
    refine wpReads_nil ?_
    simp only [listAll]
    refine wpTill_done (by kernel_rfl) ?_ _
    have Hwhy := hid hwhy
    clear hwhy
    go_wp2
    have hb := HBad.out
    simp at hb
    exact bodyPost_ret (v := .tuple #[v5, .int .i64 rest5.length, .string why, .bool true]) (by simp [results, Tryd.results13]) rfl (Hfin.out _ true why kf rfl (by simp [hb]) Hwhy.out)
  · refine wpTill_reads 5 [0, 1, 2, 3, 4, 5, 7, 8] (by kernel_rfl) ?_ cN ?_
    · intro c a d v w h; cases d <;> exact h
    iterate 8 (refine wpReads_cons (v := ?_) rfl (yieldsIf_yes rfl fun w' hw => ?_) ?_; rotate_left; (first | (go_simp; done) | (go_simp; exact rfl)); simp only [Act.put, List.setIfInBounds_toArray, List.set_cons_zero, List.set_cons_succ, List.getElem_toArray, List.getElem_cons_zero, List.getElem_cons_succ])
    refine wpReads_nil ?_
    simp only [listAll]
    refine wpTill_one (i := 6) (by kernel_rfl) rfl rfl ?_
    intro K hK
    go_step
    refine (HF.out).mono ?_
    rintro e w6 ⟨why, rfl, ⟨kf, rfl⟩, hwhy⟩
    refine hK _ _ ⟨fun _ => cN, ?_⟩
    clear hK K
    refine wpTill_reads 0 [9, 10, 11, 12] (by kernel_rfl) ?_ cN ?_
    · intro c a d v w h; cases d <;> exact h
    iterate 4 (refine wpReads_cons (v := ?_) rfl (yieldsIf_yes rfl fun w' hw => ?_) ?_; rotate_left; (first | (go_simp; done) | (go_simp; exact rfl)); simp only [Act.put, List.setIfInBounds_toArray, List.set_cons_zero, List.set_cons_succ, List.getElem_toArray, List.getElem_cons_zero, List.getElem_cons_succ])
    refine wpReads_nil ?_
    simp only [listAll]
    refine wpTill_done (by kernel_rfl) ?_ _
    have Hwhy := hid hwhy
    clear hwhy
    go_wp2
    have hb := HBad.out
    simp at hb
    exact bodyPost_ret (v := .tuple #[v5, .int .i64 rest5.length, .string why, .bool false]) (by simp [results, Tryd.results13]) rfl (Hfin.out _ false why kf rfl (by simp [hb]) Hwhy.out)

theorem vmrun (sl : Bool) (ins : List (Nat × Int)) (texts : List ByteArray) (data : List UInt8) (iv ev dv : Value) (e0 e1 : Addr) (mx : Nat) (s' : St) (w : World) (hA : Asked ins data) (hI : InAt w iv ins) (hT : TxtAt w ev w.heap.size texts) (hTs : ∀ (q : Nat) (s : ByteArray), texts[q]? = some s → s.size ≤ 1000000)
    (hH : ∀ (i : Nat) (x : Int), ins[i]? = some (10, x) → 0 ≤ x ∧ x ≤ texts.length) (hD : RdB w dv data) (hDo : ∀ g, dv.ownBlock = some g → g < w.heap.size) (hS : Sent w w.heap.size e0 e1)
    (hs' : lev mx ins 3000 regs0 0 0 (-1) false false (st0 data 3000) = s') (hg : Good s') :
    Calls Tryd.prog 13 #[iv, ev, dv, .bool sl] w (VmPost texts s' w) := by
  cases sl
  · exact vmrun_fast ins texts data iv ev dv e0 e1 mx s' w hA hI hT hTs hH hD hDo hS hs' hg
  · exact vmrun_slow ins texts data iv ev dv e0 e1 mx s' w hA hI hT hTs hH hD hDo hS hs' hg
end Go.Proofs.YtkhicabfmkldpaaDoor
