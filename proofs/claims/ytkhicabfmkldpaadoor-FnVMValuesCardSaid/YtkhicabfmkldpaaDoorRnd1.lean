/-
  One round of evalInner's loop, operation by operation.
-/
import Derived.Test.YtkhicabfmkldpaaDoorEvCall
set_option linter.unusedSimpArgs false
set_option linter.unusedVariables false
namespace Go.Proofs.YtkhicabfmkldpaaDoor
open Go Go.RowKit

set_option maxHeartbeats 4000000 in
set_option maxRecDepth 1000000 in
theorem case_equal (E : Env) (hE : E.ok) (t : Array Value) (A F : Nat) (tg : Int) (null : Bool) (K : Act → World → Prop) (Q0 : Exit → Act → World → Prop) (hp0 : ∀ c a w, ¬ Q0 (.panic c) a w)
    (w : World) (v : Value) (l : List Note) (k : Int) (rest : List UInt8) (p : Nat) (steps depth : Int) (r : Regs) (bv : Value) (x : Int)
    (hc : Cx E w v l k rest p steps depth) (hf : Fx E w v A F r bv) (hop : E.ins[p]? = some (12, x)) (hs0 : 0 ≤ steps) (hs1 : steps < 1000000) 
    (hK : ∀ a w' v' bv', Nxt E A F tg null depth w v a w' v' l k rest (p + 1) (steps + 1) ({ r with cond := r.long == x }) bv' → K a w') :
    body44.wp Tryd.prog (Exit.then K Q0) (fr t E.sl0 E.R E.G E.N E.C E.U A F tg null) w := by
  have HK := hid hK
  clear hK
  have cA_ : w.cell? ⟨A, 0, none⟩ = some (.pointer (some ⟨E.G, 0, none⟩)) := hf.a.cell 0 rfl
  obtain ⟨n, hn⟩ : ∃ n, E.ins.length = n := ⟨_, rfl⟩
  obtain ⟨cap, hcap⟩ : ∃ cap, E.cap = cap := ⟨_, rfl⟩
  have cG0_ : w.cell? ⟨E.G, 0, none⟩ = some (.slice (some ⟨E.gI, 0, none⟩) n cap) := by rw [← hn, ← hcap]; exact hc.prog.cell 0 rfl
  have cG2_ : w.cell? ⟨E.G, 2, none⟩ = some (.int .i64 steps) := hc.prog.cell 2 rfl
  have fG2_ : w.frozen? ⟨E.G, 2, none⟩ = false := hc.prog.free 2
  have cC_ : w.cell? ⟨E.C, 0, none⟩ = some (.int .i64 p) := hc.pc.cell 0 rfl
  have fC_ : w.frozen? ⟨E.C, 0, none⟩ = false := hc.pc.free 0
  have ci0_ : w.cell? ⟨E.gI, p * 2, none⟩ = some (.int .i64 12) := (hc.ins p _ _ hop).1
  have ci1_ : w.cell? ⟨E.gI, p * 2 + 1, none⟩ = some (.int .i64 x) := (hc.ins p _ _ hop).2
  have lA_ := hf.a.lt
  have lG_ := hc.prog.lt
  have lC_ := hc.pc.lt
  have lI_ := hc.insL
  have lF_ := hf.f.lt
  have nAG : ¬ A = E.G := hf.na.neG
  have hp : p < n := by rw [← hn]; exact (List.getElem?_eq_some_iff.1 hop).1
  have hn2 : n ≤ 100000 := by rw [← hn]; exact hE.n2
  have Hx := hid (hE.ops p _ _ hop)
  have HC := hid hc
  have HF := hid hf
  have HE := hid hE
  have Hn := hid hn
  clear hc hf hop hE hn hcap
  conv => arg 2; whnf
  unfold fr
  go_wp2
  go_quiet (fail)
  go_wp2
  refine wp_region_till (fun w' => w'.cell? ⟨A, 0, none⟩ = some (.pointer (some ⟨E.G, 0, none⟩)) ∧ w'.cell? ⟨E.G, 0, none⟩ = some (.slice (some ⟨E.gI, 0, none⟩) n cap) ∧ w'.cell? ⟨E.C, 0, none⟩ = some (.int .i64 p) ∧ w'.cell? ⟨E.gI, p * 2, none⟩ = some (.int .i64 12) ∧ w'.cell? ⟨E.gI, p * 2 + 1, none⟩ = some (.int .i64 x)) 100 (by kernel_rfl) ?_
  refine wpTill_reads 2 [0, 1, 2, 3, 4, 5, 6, 7, 8] (by kernel_rfl) ?_ ?_ ?_
  · intro c a d v w h; exact (hp0 _ _ _ h).elim
  · exact ⟨cA_, cG0_, cC_, ci0_, ci1_⟩
  iterate 9 (refine wpReads_cons (v := ?_) rfl (yieldsIf_yes rfl fun w' hw => ?_) ?_; rotate_left; (obtain ⟨h1, h2, h3, h4, h5⟩ := hw; first | (go_simp; done) | (go_simp; exact rfl)); simp only [Act.put, List.setIfInBounds_toArray, List.set_cons_zero, List.set_cons_succ, List.getElem_toArray, List.getElem_cons_zero, List.getElem_cons_succ])
  refine wpReads_nil ?_
  simp only [listAll]
  obtain ⟨w0, hw0, cA, cG0, cG2, fG2, cC, fC, ci0, ci1, lA, lG, lC, lI, lF⟩ : ∃ w0, (w.drewN nq).drew = w0 ∧ w0.cell? ⟨A, 0, none⟩ = some (.pointer (some ⟨E.G, 0, none⟩)) ∧ w0.cell? ⟨E.G, 0, none⟩ = some (.slice (some ⟨E.gI, 0, none⟩) n cap) ∧ w0.cell? ⟨E.G, 2, none⟩ = some (.int .i64 steps) ∧ w0.frozen? ⟨E.G, 2, none⟩ = false
    ∧ w0.cell? ⟨E.C, 0, none⟩ = some (.int .i64 p) ∧ w0.frozen? ⟨E.C, 0, none⟩ = false ∧ w0.cell? ⟨E.gI, p * 2, none⟩ = some (.int .i64 12) ∧ w0.cell? ⟨E.gI, p * 2 + 1, none⟩ = some (.int .i64 x) ∧ A < w0.heap.size ∧ E.G < w0.heap.size ∧ E.C < w0.heap.size ∧ E.gI < w0.heap.size ∧ F < w0.heap.size := ⟨_, rfl, cA_, cG0_, cG2_, fG2_, cC_, fC_, ci0_, ci1_, lA_, lG_, lC_, lI_, lF_⟩
  have Hw0 := hid (show Chg (fun _ => False) w w0 from hw0 ▸ ((Chg.refl (fun _ => False) w).drewN nq).drew)
  rw [hw0]
  clear hw0 cA_ cG0_ cG2_ fG2_ cC_ fC_ ci0_ ci1_ lA_ lG_ lC_ lI_ lF_
  refine wpTill_one (i := 9) (by kernel_rfl) rfl rfl ?_
  intro K hK
  go_step
  refine hK _ _ ⟨fun _ => by refine ⟨?_, ?_, ?_, ?_, ?_⟩ <;> go_simp, ?_⟩
  clear hK K
  refine wpTill_one (i := 10) (by kernel_rfl) rfl rfl ?_
  intro K hK
  go_step
  refine hK _ _ ⟨fun _ => by refine ⟨?_, ?_, ?_, ?_, ?_⟩ <;> go_simp, ?_⟩
  clear hK K
  refine wpTill_done (by kernel_rfl) ?_ _
  go_upto_region 16 with fail
  obtain ⟨I, hI⟩ : ∃ I, w0.heap.size = I := ⟨_, rfl⟩
  obtain ⟨wp, hwp⟩ : ∃ wp, (w0.setCell ⟨E.G, 2, none⟩ (.int .i64 (steps + 1))).alloc (.cells #[.int .i64 12, .int .i64 x] 116) = wp := ⟨_, rfl⟩
  rw [hwp, hI]
  have HCp := hid (show Cx E wp v l k rest p (steps + 1) depth from hwp ▸ ((HC.out.same HE.out Hw0.out).setSteps HE.out _).alloc HE.out _)
  have HFp := hid (show Fx E wp v A F r bv from hwp ▸ ((HF.out.same Hw0.out).setShared _ (SG E v)).alloc _)
  have HIp := hid (show blk wp I #[.int .i64 12, .int .i64 x] 116 from hwp ▸ blk_new' (by rw [← hI]; simp) _ _)
  have HIa := hid (show Apart E v I from (HC.out.same HE.out Hw0.out).apart (by omega))
  have Hcp := hid (show Chg (E.S v) w wp from hwp ▸ ((Hw0.out.mono (fun _ _ e => e.elim)).setCell (fun _ => SG E v) _).alloc _)
  have nIF : ¬ I = F := by omega
  have nIA : ¬ I = A := by omega
  have HwI := hid (show w.heap.size ≤ I by rw [← hI]; exact Hw0.out.size)
  clear hwp hI HC HF Hw0 cA cG0 cG2 fG2 cC fC ci0 ci1 lA lG lC lI lF w0
  have cA : wp.cell? ⟨A, 0, none⟩ = some (.pointer (some ⟨E.G, 0, none⟩)) := HFp.out.a.cell 0 rfl
  have cC : wp.cell? ⟨E.C, 0, none⟩ = some (.int .i64 p) := HCp.out.pc.cell 0 rfl
  have fC : wp.frozen? ⟨E.C, 0, none⟩ = false := HCp.out.pc.free 0
  have cI : wp.cell? ⟨I, 1, none⟩ = some (.int .i64 x) := HIp.out.cell 1 rfl
  have nCF : ¬ E.C = F := fun e => HFp.out.nf.neC e.symm
  have nCI : ¬ E.C = I := fun e => HIa.out.neC e.symm
  have nIC : ¬ I = E.C := HIa.out.neC
  have nFC : ¬ F = E.C := HFp.out.nf.neC
  obtain ⟨hx0, hx1, hx2⟩ := Hx.out
  have hL := HFp.out.long
  have hM := HFp.out.num
  have cF0 : wp.cell? ⟨F, 0, none⟩ = some (.bool r.truth) := HFp.out.f.cell 0 rfl
  have cF1 : wp.cell? ⟨F, 1, none⟩ = some (.int .i32 r.num) := HFp.out.f.cell 1 rfl
  have cF2 : wp.cell? ⟨F, 2, none⟩ = some (.int .i64 r.long) := HFp.out.f.cell 2 rfl
  have cF3 : wp.cell? ⟨F, 3, none⟩ = some (.float .f32 r.float) := HFp.out.f.cell 3 rfl
  have cF4 : wp.cell? ⟨F, 4, none⟩ = some (.float .f64 r.double) := HFp.out.f.cell 4 rfl
  have cF5 : wp.cell? ⟨F, 5, none⟩ = some bv := HFp.out.f.cell 5 rfl
  have cF6 : wp.cell? ⟨F, 6, none⟩ = some (.string (strOf r.text)) := HFp.out.f.cell 6 rfl
  have cF7 : wp.cell? ⟨F, 7, none⟩ = some (.bool r.cond) := HFp.out.f.cell 7 rfl
  have fF : ∀ i, wp.frozen? ⟨F, i, none⟩ = false := fun i => HFp.out.f.free i
  go_wp2
  refine HK.out _ _ v bv ⟨by unfold IsFr; kernel_rfl, ?_, Fresh.refl _ _, ?_, ?_⟩
  · exact ((Hcp.out.mono (fun _ _ e => .inl e)).setCell (fun _ => .inr rfl) _).setCell (fun _ => .inl (SC E v)) _
  · exact (HCp.out.setOther HE.out _ HFp.out.nf.2.2 HFp.out.nf.1 HFp.out.nf.2.1).setPc HE.out _
  · exact (HFp.out.setReg 7 _ ({ r with cond := r.long == x }) rfl rfl HFp.out.num HFp.out.long).setShared _ (SC E v)

set_option maxHeartbeats 4000000 in
set_option maxRecDepth 1000000 in
theorem case_greater (E : Env) (hE : E.ok) (t : Array Value) (A F : Nat) (tg : Int) (null : Bool) (K : Act → World → Prop) (Q0 : Exit → Act → World → Prop) (hp0 : ∀ c a w, ¬ Q0 (.panic c) a w)
    (w : World) (v : Value) (l : List Note) (k : Int) (rest : List UInt8) (p : Nat) (steps depth : Int) (r : Regs) (bv : Value) (x : Int)
    (hc : Cx E w v l k rest p steps depth) (hf : Fx E w v A F r bv) (hop : E.ins[p]? = some (13, x)) (hs0 : 0 ≤ steps) (hs1 : steps < 1000000) 
    (hK : ∀ a w' v' bv', Nxt E A F tg null depth w v a w' v' l k rest (p + 1) (steps + 1) ({ r with cond := decide (x < r.long) }) bv' → K a w') :
    body44.wp Tryd.prog (Exit.then K Q0) (fr t E.sl0 E.R E.G E.N E.C E.U A F tg null) w := by
  have HK := hid hK
  clear hK
  have cA_ : w.cell? ⟨A, 0, none⟩ = some (.pointer (some ⟨E.G, 0, none⟩)) := hf.a.cell 0 rfl
  obtain ⟨n, hn⟩ : ∃ n, E.ins.length = n := ⟨_, rfl⟩
  obtain ⟨cap, hcap⟩ : ∃ cap, E.cap = cap := ⟨_, rfl⟩
  have cG0_ : w.cell? ⟨E.G, 0, none⟩ = some (.slice (some ⟨E.gI, 0, none⟩) n cap) := by rw [← hn, ← hcap]; exact hc.prog.cell 0 rfl
  have cG2_ : w.cell? ⟨E.G, 2, none⟩ = some (.int .i64 steps) := hc.prog.cell 2 rfl
  have fG2_ : w.frozen? ⟨E.G, 2, none⟩ = false := hc.prog.free 2
  have cC_ : w.cell? ⟨E.C, 0, none⟩ = some (.int .i64 p) := hc.pc.cell 0 rfl
  have fC_ : w.frozen? ⟨E.C, 0, none⟩ = false := hc.pc.free 0
  have ci0_ : w.cell? ⟨E.gI, p * 2, none⟩ = some (.int .i64 13) := (hc.ins p _ _ hop).1
  have ci1_ : w.cell? ⟨E.gI, p * 2 + 1, none⟩ = some (.int .i64 x) := (hc.ins p _ _ hop).2
  have lA_ := hf.a.lt
  have lG_ := hc.prog.lt
  have lC_ := hc.pc.lt
  have lI_ := hc.insL
  have lF_ := hf.f.lt
  have nAG : ¬ A = E.G := hf.na.neG
  have hp : p < n := by rw [← hn]; exact (List.getElem?_eq_some_iff.1 hop).1
  have hn2 : n ≤ 100000 := by rw [← hn]; exact hE.n2
  have Hx := hid (hE.ops p _ _ hop)
  have HC := hid hc
  have HF := hid hf
  have HE := hid hE
  have Hn := hid hn
  clear hc hf hop hE hn hcap
  conv => arg 2; whnf
  unfold fr
  go_wp2
  go_quiet (fail)
  go_wp2
  refine wp_region_till (fun w' => w'.cell? ⟨A, 0, none⟩ = some (.pointer (some ⟨E.G, 0, none⟩)) ∧ w'.cell? ⟨E.G, 0, none⟩ = some (.slice (some ⟨E.gI, 0, none⟩) n cap) ∧ w'.cell? ⟨E.C, 0, none⟩ = some (.int .i64 p) ∧ w'.cell? ⟨E.gI, p * 2, none⟩ = some (.int .i64 13) ∧ w'.cell? ⟨E.gI, p * 2 + 1, none⟩ = some (.int .i64 x)) 100 (by kernel_rfl) ?_
  refine wpTill_reads 2 [0, 1, 2, 3, 4, 5, 6, 7, 8] (by kernel_rfl) ?_ ?_ ?_
  · intro c a d v w h; exact (hp0 _ _ _ h).elim
  · exact ⟨cA_, cG0_, cC_, ci0_, ci1_⟩
  iterate 9 (refine wpReads_cons (v := ?_) rfl (yieldsIf_yes rfl fun w' hw => ?_) ?_; rotate_left; (obtain ⟨h1, h2, h3, h4, h5⟩ := hw; first | (go_simp; done) | (go_simp; exact rfl)); simp only [Act.put, List.setIfInBounds_toArray, List.set_cons_zero, List.set_cons_succ, List.getElem_toArray, List.getElem_cons_zero, List.getElem_cons_succ])
  refine wpReads_nil ?_
  simp only [listAll]
  obtain ⟨w0, hw0, cA, cG0, cG2, fG2, cC, fC, ci0, ci1, lA, lG, lC, lI, lF⟩ : ∃ w0, (w.drewN nq).drew = w0 ∧ w0.cell? ⟨A, 0, none⟩ = some (.pointer (some ⟨E.G, 0, none⟩)) ∧ w0.cell? ⟨E.G, 0, none⟩ = some (.slice (some ⟨E.gI, 0, none⟩) n cap) ∧ w0.cell? ⟨E.G, 2, none⟩ = some (.int .i64 steps) ∧ w0.frozen? ⟨E.G, 2, none⟩ = false
    ∧ w0.cell? ⟨E.C, 0, none⟩ = some (.int .i64 p) ∧ w0.frozen? ⟨E.C, 0, none⟩ = false ∧ w0.cell? ⟨E.gI, p * 2, none⟩ = some (.int .i64 13) ∧ w0.cell? ⟨E.gI, p * 2 + 1, none⟩ = some (.int .i64 x) ∧ A < w0.heap.size ∧ E.G < w0.heap.size ∧ E.C < w0.heap.size ∧ E.gI < w0.heap.size ∧ F < w0.heap.size := ⟨_, rfl, cA_, cG0_, cG2_, fG2_, cC_, fC_, ci0_, ci1_, lA_, lG_, lC_, lI_, lF_⟩
  have Hw0 := hid (show Chg (fun _ => False) w w0 from hw0 ▸ ((Chg.refl (fun _ => False) w).drewN nq).drew)
  rw [hw0]
  clear hw0 cA_ cG0_ cG2_ fG2_ cC_ fC_ ci0_ ci1_ lA_ lG_ lC_ lI_ lF_
  refine wpTill_one (i := 9) (by kernel_rfl) rfl rfl ?_
  intro K hK
  go_step
  refine hK _ _ ⟨fun _ => by refine ⟨?_, ?_, ?_, ?_, ?_⟩ <;> go_simp, ?_⟩
  clear hK K
  refine wpTill_one (i := 10) (by kernel_rfl) rfl rfl ?_
  intro K hK
  go_step
  refine hK _ _ ⟨fun _ => by refine ⟨?_, ?_, ?_, ?_, ?_⟩ <;> go_simp, ?_⟩
  clear hK K
  refine wpTill_done (by kernel_rfl) ?_ _
  go_upto_region 16 with fail
  obtain ⟨I, hI⟩ : ∃ I, w0.heap.size = I := ⟨_, rfl⟩
  obtain ⟨wp, hwp⟩ : ∃ wp, (w0.setCell ⟨E.G, 2, none⟩ (.int .i64 (steps + 1))).alloc (.cells #[.int .i64 13, .int .i64 x] 116) = wp := ⟨_, rfl⟩
  rw [hwp, hI]
  have HCp := hid (show Cx E wp v l k rest p (steps + 1) depth from hwp ▸ ((HC.out.same HE.out Hw0.out).setSteps HE.out _).alloc HE.out _)
  have HFp := hid (show Fx E wp v A F r bv from hwp ▸ ((HF.out.same Hw0.out).setShared _ (SG E v)).alloc _)
  have HIp := hid (show blk wp I #[.int .i64 13, .int .i64 x] 116 from hwp ▸ blk_new' (by rw [← hI]; simp) _ _)
  have HIa := hid (show Apart E v I from (HC.out.same HE.out Hw0.out).apart (by omega))
  have Hcp := hid (show Chg (E.S v) w wp from hwp ▸ ((Hw0.out.mono (fun _ _ e => e.elim)).setCell (fun _ => SG E v) _).alloc _)
  have nIF : ¬ I = F := by omega
  have nIA : ¬ I = A := by omega
  have HwI := hid (show w.heap.size ≤ I by rw [← hI]; exact Hw0.out.size)
  clear hwp hI HC HF Hw0 cA cG0 cG2 fG2 cC fC ci0 ci1 lA lG lC lI lF w0
  have cA : wp.cell? ⟨A, 0, none⟩ = some (.pointer (some ⟨E.G, 0, none⟩)) := HFp.out.a.cell 0 rfl
  have cC : wp.cell? ⟨E.C, 0, none⟩ = some (.int .i64 p) := HCp.out.pc.cell 0 rfl
  have fC : wp.frozen? ⟨E.C, 0, none⟩ = false := HCp.out.pc.free 0
  have cI : wp.cell? ⟨I, 1, none⟩ = some (.int .i64 x) := HIp.out.cell 1 rfl
  have nCF : ¬ E.C = F := fun e => HFp.out.nf.neC e.symm
  have nCI : ¬ E.C = I := fun e => HIa.out.neC e.symm
  have nIC : ¬ I = E.C := HIa.out.neC
  have nFC : ¬ F = E.C := HFp.out.nf.neC
  obtain ⟨hx0, hx1, hx2⟩ := Hx.out
  have hL := HFp.out.long
  have hM := HFp.out.num
  have cF0 : wp.cell? ⟨F, 0, none⟩ = some (.bool r.truth) := HFp.out.f.cell 0 rfl
  have cF1 : wp.cell? ⟨F, 1, none⟩ = some (.int .i32 r.num) := HFp.out.f.cell 1 rfl
  have cF2 : wp.cell? ⟨F, 2, none⟩ = some (.int .i64 r.long) := HFp.out.f.cell 2 rfl
  have cF3 : wp.cell? ⟨F, 3, none⟩ = some (.float .f32 r.float) := HFp.out.f.cell 3 rfl
  have cF4 : wp.cell? ⟨F, 4, none⟩ = some (.float .f64 r.double) := HFp.out.f.cell 4 rfl
  have cF5 : wp.cell? ⟨F, 5, none⟩ = some bv := HFp.out.f.cell 5 rfl
  have cF6 : wp.cell? ⟨F, 6, none⟩ = some (.string (strOf r.text)) := HFp.out.f.cell 6 rfl
  have cF7 : wp.cell? ⟨F, 7, none⟩ = some (.bool r.cond) := HFp.out.f.cell 7 rfl
  have fF : ∀ i, wp.frozen? ⟨F, i, none⟩ = false := fun i => HFp.out.f.free i
  go_wp2
  refine HK.out _ _ v bv ⟨by unfold IsFr; kernel_rfl, ?_, Fresh.refl _ _, ?_, ?_⟩
  · exact ((Hcp.out.mono (fun _ _ e => .inl e)).setCell (fun _ => .inr rfl) _).setCell (fun _ => .inl (SC E v)) _
  · exact (HCp.out.setOther HE.out _ HFp.out.nf.2.2 HFp.out.nf.1 HFp.out.nf.2.1).setPc HE.out _
  · exact (HFp.out.setReg 7 _ ({ r with cond := decide (x < r.long) }) rfl rfl HFp.out.num HFp.out.long).setShared _ (SC E v)

set_option maxHeartbeats 4000000 in
set_option maxRecDepth 1000000 in
theorem case_null (E : Env) (hE : E.ok) (t : Array Value) (A F : Nat) (tg : Int) (null : Bool) (K : Act → World → Prop) (Q0 : Exit → Act → World → Prop) (hp0 : ∀ c a w, ¬ Q0 (.panic c) a w)
    (w : World) (v : Value) (l : List Note) (k : Int) (rest : List UInt8) (p : Nat) (steps depth : Int) (r : Regs) (bv : Value) (x : Int)
    (hc : Cx E w v l k rest p steps depth) (hf : Fx E w v A F r bv) (hop : E.ins[p]? = some (4, x)) (hs0 : 0 ≤ steps) (hs1 : steps < 1000000) 
    (hK : ∀ a w' v' bv', Nxt E A F tg true depth w v a w' v' l k rest (p + 1) (steps + 1) (r) bv' → K a w') :
    body44.wp Tryd.prog (Exit.then K Q0) (fr t E.sl0 E.R E.G E.N E.C E.U A F tg null) w := by
  have HK := hid hK
  clear hK
  have cA_ : w.cell? ⟨A, 0, none⟩ = some (.pointer (some ⟨E.G, 0, none⟩)) := hf.a.cell 0 rfl
  obtain ⟨n, hn⟩ : ∃ n, E.ins.length = n := ⟨_, rfl⟩
  obtain ⟨cap, hcap⟩ : ∃ cap, E.cap = cap := ⟨_, rfl⟩
  have cG0_ : w.cell? ⟨E.G, 0, none⟩ = some (.slice (some ⟨E.gI, 0, none⟩) n cap) := by rw [← hn, ← hcap]; exact hc.prog.cell 0 rfl
  have cG2_ : w.cell? ⟨E.G, 2, none⟩ = some (.int .i64 steps) := hc.prog.cell 2 rfl
  have fG2_ : w.frozen? ⟨E.G, 2, none⟩ = false := hc.prog.free 2
  have cC_ : w.cell? ⟨E.C, 0, none⟩ = some (.int .i64 p) := hc.pc.cell 0 rfl
  have fC_ : w.frozen? ⟨E.C, 0, none⟩ = false := hc.pc.free 0
  have ci0_ : w.cell? ⟨E.gI, p * 2, none⟩ = some (.int .i64 4) := (hc.ins p _ _ hop).1
  have ci1_ : w.cell? ⟨E.gI, p * 2 + 1, none⟩ = some (.int .i64 x) := (hc.ins p _ _ hop).2
  have lA_ := hf.a.lt
  have lG_ := hc.prog.lt
  have lC_ := hc.pc.lt
  have lI_ := hc.insL
  have lF_ := hf.f.lt
  have nAG : ¬ A = E.G := hf.na.neG
  have hp : p < n := by rw [← hn]; exact (List.getElem?_eq_some_iff.1 hop).1
  have hn2 : n ≤ 100000 := by rw [← hn]; exact hE.n2
  have Hx := hid (hE.ops p _ _ hop)
  have HC := hid hc
  have HF := hid hf
  have HE := hid hE
  have Hn := hid hn
  clear hc hf hop hE hn hcap
  conv => arg 2; whnf
  unfold fr
  go_wp2
  go_quiet (fail)
  go_wp2
  refine wp_region_till (fun w' => w'.cell? ⟨A, 0, none⟩ = some (.pointer (some ⟨E.G, 0, none⟩)) ∧ w'.cell? ⟨E.G, 0, none⟩ = some (.slice (some ⟨E.gI, 0, none⟩) n cap) ∧ w'.cell? ⟨E.C, 0, none⟩ = some (.int .i64 p) ∧ w'.cell? ⟨E.gI, p * 2, none⟩ = some (.int .i64 4) ∧ w'.cell? ⟨E.gI, p * 2 + 1, none⟩ = some (.int .i64 x)) 100 (by kernel_rfl) ?_
  refine wpTill_reads 2 [0, 1, 2, 3, 4, 5, 6, 7, 8] (by kernel_rfl) ?_ ?_ ?_
  · intro c a d v w h; exact (hp0 _ _ _ h).elim
  · exact ⟨cA_, cG0_, cC_, ci0_, ci1_⟩
  iterate 9 (refine wpReads_cons (v := ?_) rfl (yieldsIf_yes rfl fun w' hw => ?_) ?_; rotate_left; (obtain ⟨h1, h2, h3, h4, h5⟩ := hw; first | (go_simp; done) | (go_simp; exact rfl)); simp only [Act.put, List.setIfInBounds_toArray, List.set_cons_zero, List.set_cons_succ, List.getElem_toArray, List.getElem_cons_zero, List.getElem_cons_succ])
  refine wpReads_nil ?_
  simp only [listAll]
  obtain ⟨w0, hw0, cA, cG0, cG2, fG2, cC, fC, ci0, ci1, lA, lG, lC, lI, lF⟩ : ∃ w0, (w.drewN nq).drew = w0 ∧ w0.cell? ⟨A, 0, none⟩ = some (.pointer (some ⟨E.G, 0, none⟩)) ∧ w0.cell? ⟨E.G, 0, none⟩ = some (.slice (some ⟨E.gI, 0, none⟩) n cap) ∧ w0.cell? ⟨E.G, 2, none⟩ = some (.int .i64 steps) ∧ w0.frozen? ⟨E.G, 2, none⟩ = false
    ∧ w0.cell? ⟨E.C, 0, none⟩ = some (.int .i64 p) ∧ w0.frozen? ⟨E.C, 0, none⟩ = false ∧ w0.cell? ⟨E.gI, p * 2, none⟩ = some (.int .i64 4) ∧ w0.cell? ⟨E.gI, p * 2 + 1, none⟩ = some (.int .i64 x) ∧ A < w0.heap.size ∧ E.G < w0.heap.size ∧ E.C < w0.heap.size ∧ E.gI < w0.heap.size ∧ F < w0.heap.size := ⟨_, rfl, cA_, cG0_, cG2_, fG2_, cC_, fC_, ci0_, ci1_, lA_, lG_, lC_, lI_, lF_⟩
  have Hw0 := hid (show Chg (fun _ => False) w w0 from hw0 ▸ ((Chg.refl (fun _ => False) w).drewN nq).drew)
  rw [hw0]
  clear hw0 cA_ cG0_ cG2_ fG2_ cC_ fC_ ci0_ ci1_ lA_ lG_ lC_ lI_ lF_
  refine wpTill_one (i := 9) (by kernel_rfl) rfl rfl ?_
  intro K hK
  go_step
  refine hK _ _ ⟨fun _ => by refine ⟨?_, ?_, ?_, ?_, ?_⟩ <;> go_simp, ?_⟩
  clear hK K
  refine wpTill_one (i := 10) (by kernel_rfl) rfl rfl ?_
  intro K hK
  go_step
  refine hK _ _ ⟨fun _ => by refine ⟨?_, ?_, ?_, ?_, ?_⟩ <;> go_simp, ?_⟩
  clear hK K
  refine wpTill_done (by kernel_rfl) ?_ _
  go_upto_region 16 with fail
  obtain ⟨I, hI⟩ : ∃ I, w0.heap.size = I := ⟨_, rfl⟩
  obtain ⟨wp, hwp⟩ : ∃ wp, (w0.setCell ⟨E.G, 2, none⟩ (.int .i64 (steps + 1))).alloc (.cells #[.int .i64 4, .int .i64 x] 116) = wp := ⟨_, rfl⟩
  rw [hwp, hI]
  have HCp := hid (show Cx E wp v l k rest p (steps + 1) depth from hwp ▸ ((HC.out.same HE.out Hw0.out).setSteps HE.out _).alloc HE.out _)
  have HFp := hid (show Fx E wp v A F r bv from hwp ▸ ((HF.out.same Hw0.out).setShared _ (SG E v)).alloc _)
  have HIp := hid (show blk wp I #[.int .i64 4, .int .i64 x] 116 from hwp ▸ blk_new' (by rw [← hI]; simp) _ _)
  have HIa := hid (show Apart E v I from (HC.out.same HE.out Hw0.out).apart (by omega))
  have Hcp := hid (show Chg (E.S v) w wp from hwp ▸ ((Hw0.out.mono (fun _ _ e => e.elim)).setCell (fun _ => SG E v) _).alloc _)
  have nIF : ¬ I = F := by omega
  have nIA : ¬ I = A := by omega
  have HwI := hid (show w.heap.size ≤ I by rw [← hI]; exact Hw0.out.size)
  clear hwp hI HC HF Hw0 cA cG0 cG2 fG2 cC fC ci0 ci1 lA lG lC lI lF w0
  have cA : wp.cell? ⟨A, 0, none⟩ = some (.pointer (some ⟨E.G, 0, none⟩)) := HFp.out.a.cell 0 rfl
  have cC : wp.cell? ⟨E.C, 0, none⟩ = some (.int .i64 p) := HCp.out.pc.cell 0 rfl
  have fC : wp.frozen? ⟨E.C, 0, none⟩ = false := HCp.out.pc.free 0
  have cI : wp.cell? ⟨I, 1, none⟩ = some (.int .i64 x) := HIp.out.cell 1 rfl
  have nCF : ¬ E.C = F := fun e => HFp.out.nf.neC e.symm
  have nCI : ¬ E.C = I := fun e => HIa.out.neC e.symm
  have nIC : ¬ I = E.C := HIa.out.neC
  have nFC : ¬ F = E.C := HFp.out.nf.neC
  obtain ⟨hx0, hx1, hx2⟩ := Hx.out
  have hL := HFp.out.long
  have hM := HFp.out.num
  go_wp2
  refine HK.out _ _ v bv ⟨by unfold IsFr; kernel_rfl, ?_, Fresh.refl _ _, ?_, ?_⟩
  · exact ((Hcp.out.mono (fun _ _ e => .inl e))).setCell (fun _ => .inl (SC E v)) _
  · exact HCp.out.setPc HE.out _
  · exact HFp.out.setShared _ (SC E v)

set_option maxHeartbeats 4000000 in
set_option maxRecDepth 1000000 in
theorem case_jump (E : Env) (hE : E.ok) (t : Array Value) (A F : Nat) (tg : Int) (null : Bool) (K : Act → World → Prop) (Q0 : Exit → Act → World → Prop) (hp0 : ∀ c a w, ¬ Q0 (.panic c) a w)
    (w : World) (v : Value) (l : List Note) (k : Int) (rest : List UInt8) (p : Nat) (steps depth : Int) (r : Regs) (bv : Value) (x : Int)
    (hc : Cx E w v l k rest p steps depth) (hf : Fx E w v A F r bv) (hop : E.ins[p]? = some (11, x)) (hs0 : 0 ≤ steps) (hs1 : steps < 1000000) 
    (hK : ∀ a w' v' bv', Nxt E A F tg null depth w v a w' v' l k rest x (steps + 1) (r) bv' → K a w') :
    body44.wp Tryd.prog (Exit.then K Q0) (fr t E.sl0 E.R E.G E.N E.C E.U A F tg null) w := by
  have HK := hid hK
  clear hK
  have cA_ : w.cell? ⟨A, 0, none⟩ = some (.pointer (some ⟨E.G, 0, none⟩)) := hf.a.cell 0 rfl
  obtain ⟨n, hn⟩ : ∃ n, E.ins.length = n := ⟨_, rfl⟩
  obtain ⟨cap, hcap⟩ : ∃ cap, E.cap = cap := ⟨_, rfl⟩
  have cG0_ : w.cell? ⟨E.G, 0, none⟩ = some (.slice (some ⟨E.gI, 0, none⟩) n cap) := by rw [← hn, ← hcap]; exact hc.prog.cell 0 rfl
  have cG2_ : w.cell? ⟨E.G, 2, none⟩ = some (.int .i64 steps) := hc.prog.cell 2 rfl
  have fG2_ : w.frozen? ⟨E.G, 2, none⟩ = false := hc.prog.free 2
  have cC_ : w.cell? ⟨E.C, 0, none⟩ = some (.int .i64 p) := hc.pc.cell 0 rfl
  have fC_ : w.frozen? ⟨E.C, 0, none⟩ = false := hc.pc.free 0
  have ci0_ : w.cell? ⟨E.gI, p * 2, none⟩ = some (.int .i64 11) := (hc.ins p _ _ hop).1
  have ci1_ : w.cell? ⟨E.gI, p * 2 + 1, none⟩ = some (.int .i64 x) := (hc.ins p _ _ hop).2
  have lA_ := hf.a.lt
  have lG_ := hc.prog.lt
  have lC_ := hc.pc.lt
  have lI_ := hc.insL
  have lF_ := hf.f.lt
  have nAG : ¬ A = E.G := hf.na.neG
  have hp : p < n := by rw [← hn]; exact (List.getElem?_eq_some_iff.1 hop).1
  have hn2 : n ≤ 100000 := by rw [← hn]; exact hE.n2
  have Hx := hid (hE.ops p _ _ hop)
  have HC := hid hc
  have HF := hid hf
  have HE := hid hE
  have Hn := hid hn
  clear hc hf hop hE hn hcap
  conv => arg 2; whnf
  unfold fr
  go_wp2
  go_quiet (fail)
  go_wp2
  refine wp_region_till (fun w' => w'.cell? ⟨A, 0, none⟩ = some (.pointer (some ⟨E.G, 0, none⟩)) ∧ w'.cell? ⟨E.G, 0, none⟩ = some (.slice (some ⟨E.gI, 0, none⟩) n cap) ∧ w'.cell? ⟨E.C, 0, none⟩ = some (.int .i64 p) ∧ w'.cell? ⟨E.gI, p * 2, none⟩ = some (.int .i64 11) ∧ w'.cell? ⟨E.gI, p * 2 + 1, none⟩ = some (.int .i64 x)) 100 (by kernel_rfl) ?_
  refine wpTill_reads 2 [0, 1, 2, 3, 4, 5, 6, 7, 8] (by kernel_rfl) ?_ ?_ ?_
  · intro c a d v w h; exact (hp0 _ _ _ h).elim
  · exact ⟨cA_, cG0_, cC_, ci0_, ci1_⟩
  iterate 9 (refine wpReads_cons (v := ?_) rfl (yieldsIf_yes rfl fun w' hw => ?_) ?_; rotate_left; (obtain ⟨h1, h2, h3, h4, h5⟩ := hw; first | (go_simp; done) | (go_simp; exact rfl)); simp only [Act.put, List.setIfInBounds_toArray, List.set_cons_zero, List.set_cons_succ, List.getElem_toArray, List.getElem_cons_zero, List.getElem_cons_succ])
  refine wpReads_nil ?_
  simp only [listAll]
  obtain ⟨w0, hw0, cA, cG0, cG2, fG2, cC, fC, ci0, ci1, lA, lG, lC, lI, lF⟩ : ∃ w0, (w.drewN nq).drew = w0 ∧ w0.cell? ⟨A, 0, none⟩ = some (.pointer (some ⟨E.G, 0, none⟩)) ∧ w0.cell? ⟨E.G, 0, none⟩ = some (.slice (some ⟨E.gI, 0, none⟩) n cap) ∧ w0.cell? ⟨E.G, 2, none⟩ = some (.int .i64 steps) ∧ w0.frozen? ⟨E.G, 2, none⟩ = false
    ∧ w0.cell? ⟨E.C, 0, none⟩ = some (.int .i64 p) ∧ w0.frozen? ⟨E.C, 0, none⟩ = false ∧ w0.cell? ⟨E.gI, p * 2, none⟩ = some (.int .i64 11) ∧ w0.cell? ⟨E.gI, p * 2 + 1, none⟩ = some (.int .i64 x) ∧ A < w0.heap.size ∧ E.G < w0.heap.size ∧ E.C < w0.heap.size ∧ E.gI < w0.heap.size ∧ F < w0.heap.size := ⟨_, rfl, cA_, cG0_, cG2_, fG2_, cC_, fC_, ci0_, ci1_, lA_, lG_, lC_, lI_, lF_⟩
  have Hw0 := hid (show Chg (fun _ => False) w w0 from hw0 ▸ ((Chg.refl (fun _ => False) w).drewN nq).drew)
  rw [hw0]
  clear hw0 cA_ cG0_ cG2_ fG2_ cC_ fC_ ci0_ ci1_ lA_ lG_ lC_ lI_ lF_
  refine wpTill_one (i := 9) (by kernel_rfl) rfl rfl ?_
  intro K hK
  go_step
  refine hK _ _ ⟨fun _ => by refine ⟨?_, ?_, ?_, ?_, ?_⟩ <;> go_simp, ?_⟩
  clear hK K
  refine wpTill_one (i := 10) (by kernel_rfl) rfl rfl ?_
  intro K hK
  go_step
  refine hK _ _ ⟨fun _ => by refine ⟨?_, ?_, ?_, ?_, ?_⟩ <;> go_simp, ?_⟩
  clear hK K
  refine wpTill_done (by kernel_rfl) ?_ _
  go_upto_region 16 with fail
  obtain ⟨I, hI⟩ : ∃ I, w0.heap.size = I := ⟨_, rfl⟩
  obtain ⟨wp, hwp⟩ : ∃ wp, (w0.setCell ⟨E.G, 2, none⟩ (.int .i64 (steps + 1))).alloc (.cells #[.int .i64 11, .int .i64 x] 116) = wp := ⟨_, rfl⟩
  rw [hwp, hI]
  have HCp := hid (show Cx E wp v l k rest p (steps + 1) depth from hwp ▸ ((HC.out.same HE.out Hw0.out).setSteps HE.out _).alloc HE.out _)
  have HFp := hid (show Fx E wp v A F r bv from hwp ▸ ((HF.out.same Hw0.out).setShared _ (SG E v)).alloc _)
  have HIp := hid (show blk wp I #[.int .i64 11, .int .i64 x] 116 from hwp ▸ blk_new' (by rw [← hI]; simp) _ _)
  have HIa := hid (show Apart E v I from (HC.out.same HE.out Hw0.out).apart (by omega))
  have Hcp := hid (show Chg (E.S v) w wp from hwp ▸ ((Hw0.out.mono (fun _ _ e => e.elim)).setCell (fun _ => SG E v) _).alloc _)
  have nIF : ¬ I = F := by omega
  have nIA : ¬ I = A := by omega
  have HwI := hid (show w.heap.size ≤ I by rw [← hI]; exact Hw0.out.size)
  clear hwp hI HC HF Hw0 cA cG0 cG2 fG2 cC fC ci0 ci1 lA lG lC lI lF w0
  have cA : wp.cell? ⟨A, 0, none⟩ = some (.pointer (some ⟨E.G, 0, none⟩)) := HFp.out.a.cell 0 rfl
  have cC : wp.cell? ⟨E.C, 0, none⟩ = some (.int .i64 p) := HCp.out.pc.cell 0 rfl
  have fC : wp.frozen? ⟨E.C, 0, none⟩ = false := HCp.out.pc.free 0
  have cI : wp.cell? ⟨I, 1, none⟩ = some (.int .i64 x) := HIp.out.cell 1 rfl
  have nCF : ¬ E.C = F := fun e => HFp.out.nf.neC e.symm
  have nCI : ¬ E.C = I := fun e => HIa.out.neC e.symm
  have nIC : ¬ I = E.C := HIa.out.neC
  have nFC : ¬ F = E.C := HFp.out.nf.neC
  obtain ⟨hx0, hx1, hx2⟩ := Hx.out
  have hL := HFp.out.long
  have hM := HFp.out.num
  go_wp2
  refine HK.out _ _ v bv ⟨by unfold IsFr; kernel_rfl, ?_, Fresh.refl _ _, ?_, ?_⟩
  · exact ((Hcp.out.mono (fun _ _ e => .inl e)).setCell (fun _ => .inl (SC E v)) _).setCell (fun _ => .inl (SC E v)) _
  · exact (HCp.out.setPc HE.out _).setPc HE.out _
  · exact (HFp.out.setShared _ (SC E v)).setShared _ (SC E v)

end Go.Proofs.YtkhicabfmkldpaaDoor
