/-
  vm.Eval over the call of evalInner.
-/
import Derived.Test.YtkhicabfmkldpaaDoorLoop0
import Derived.Defers
import Derived.Recover
set_option linter.unusedSimpArgs false
set_option linter.unusedVariables false
namespace Go.Proofs.YtkhicabfmkldpaaDoor
open Go Go.RowKit

theorem idle42 (p : Addr) (w : World) :
    CallsD Tryd.prog 42 #[.pointer (some p)] .returning w fun e u' w' => e = .returned (.tuple #[]) ∧ u' = .returning ∧ w' = w := by
  refine callsD_of_wpS Tryd.func42 rfl fun c₀ cs hu => ?_
  apply wpS_seq
  apply wpS_region
  simp [wpOpsS, go_sem, recoverD, hu, Tryd.ntmps42, Exit.thenS]
  apply wpS_seq
  apply wpS_region
  simp [wpOpsS, go_sem, Exit.thenS]
  refine wpS_cond (t := false) (by simp [Act.eval, Array.replicate]) ?_
  simp only [Bool.false_eq_true, if_false]
  refine wpS_of_wp (wp_skip ?_)
  cases c₀
  simp_all [bodyPostS, results, Tryd.results42]

theorem ErrAt.form {E : Env} {w : World} {v err : Value} : ∀ {b : Nat}, ErrAt E w v err b → err = .nilIface ∨ ∃ t u, err = .iface t u
  | 0, h => .inl h
  | b + 1, h => .inr (h.isErr (by omega))

theorem ErrAt.chgX {E : Env} {w w' : World} {v err : Value} {X : Nat} {cs : Array Value} (hX : blk w X cs 82) (hc : Chg (fun k => k = X) w w') : ∀ {b : Nat}, ErrAt E w v err b → ErrAt E w' v err b
  | 0, h => h
  | 1, h => h
  | 2, h => h.elim
  | q + 3, h => by
    obtain ⟨b, s, h1, h2, h3, h4⟩ := h
    refine ⟨b, s, h1, h2.chg hc (fun e => ?_), h3, h4⟩
    subst e
    unfold blk at h2 hX
    rw [hX] at h2
    simp at h2

/-- The memory before a run: what is there of the shared blocks. -/
structure Pre (E : Env) (w : World) (v : Value) (l : List Note) (tg : Int) (rest : List UInt8) (steps depth : Int) : Prop where
  notes : NotesAt w E.B E.N v l tg
  rd : RdAt w E.B E.R E.sl0 E.dv E.data rest
  prog : blk w E.G #[.slice (some ⟨E.gI, 0, none⟩) E.ins.length E.cap, E.ev, .int .i64 steps, .int .i64 depth] 110
  insL : E.gI < w.heap.size
  ins : ∀ (k op : Nat) (x : Int), E.ins[k]? = some (op, x) → w.cell? ⟨E.gI, k * 2, none⟩ = some (.int .i64 (op : Int)) ∧ w.cell? ⟨E.gI, k * 2 + 1, none⟩ = some (.int .i64 x)
  eof : Eofs w E.B E.e0 E.e1
  txt : TxtAt w E.ev E.B E.texts
  row : ∀ g, v.ownBlock = some g → g ≠ E.R ∧ g ≠ E.G ∧ g ≠ E.gI ∧ E.B ≤ g
  low : E.B ≤ w.heap.size

/-- The first state of a run. -/
def st0 (data : List UInt8) (left : Nat) : St := ⟨0, data, [], 0, left, 0, false, false⟩

set_option maxHeartbeats 4000000 in
set_option maxRecDepth 100000 in
theorem eval_any (E : Env) (hE : E.ok) (mx f : Nat) (hcall : CallOk E mx f) (s' : St) (rest : List UInt8) (left : Nat) (hleft : left ≤ 9000) (w : World) (v : Value) (steps depth : Int) (hP : Pre E w v [] 0 rest steps depth) (hC : E.C = w.heap.size + 1) (hU : E.U = w.heap.size + 1 + 1)
    (hs' : lev mx E.ins f regs0 0 0 (-1) false false (st0 rest left) = s') (hg : Good s') :
    Calls Tryd.prog 26 #[rdV E.sl0 E.R, .pointer (some ⟨E.G, 0, none⟩), .iface 87 (.agg #[.pointer (some ⟨E.N, 0, none⟩), .int .i64 0])] w fun e w' =>
      ∃ err v' rest', e = .returned err ∧ ErrAt E w' v' err s'.bad ∧ NotesAt w' E.B E.N v' s'.notes s'.tg ∧ RdAt w' E.B E.R E.sl0 E.dv E.data rest' ∧ (s'.bad = 0 → rest' = s'.rest) ∧ Chg (E.S v) w w' ∧ Eofs w' E.B E.e0 E.e1 := by
  have hmf : ∀ (fn : Fn) (first cap : Array Value) (w : World), (Instr.makeFunc fn first cap).run Tryd.prog w = .ok (.func fn first cap) w := fun _ _ _ _ => rfl
  have hmk : ∀ w, (Instr.makeSlice 22 (.int .i64 8) (.int .i64 8)).run Tryd.prog w = .ok (.slice (some ⟨w.heap.size, 0, none⟩) 8 8) (w.alloc (.cells (zeros 8) 5)) := make22 8 (by omega)
  have cG2 : w.cell? ⟨E.G, 2, none⟩ = some (.int .i64 steps) := hP.prog.cell 2 rfl
  have fG2 : w.frozen? ⟨E.G, 2, none⟩ = false := hP.prog.free 2
  have cG3 : w.cell? ⟨E.G, 3, none⟩ = some (.int .i64 depth) := hP.prog.cell 3 rfl
  have fG3 : w.frozen? ⟨E.G, 3, none⟩ = false := hP.prog.free 3
  have lG := hP.prog.lt
  obtain ⟨w1, hw1⟩ : ∃ w1, (((((w.setCell ⟨E.G, 2, none⟩ (.int .i64 0)).setCell ⟨E.G, 3, none⟩ (.int .i64 0)).alloc (.cells #[.nilIface] 82)).alloc (.cells #[.int .i64 0] 3)).alloc (.cells (zeros 8) 5)) = w1 := ⟨_, rfl⟩
  have hch : Chg (fun k => k = E.G) w w1 := by
    rw [← hw1]
    exact (((((Chg.refl (fun k => k = E.G) w).setCell (fun _ => rfl) _).setCell (fun _ => rfl) _).alloc _).alloc _).alloc _
  have hsB : ∀ k, k = E.G → E.B ≤ k := fun k e => e ▸ hE.BG
  have hcx : Cx E w1 v [] 0 rest 0 0 0 := by
    refine ⟨hP.notes.chg hch hE.NG (fun g hg => (hP.row g hg).2.1), hP.rd.chg hch hE.RG hsB, ?_, Nat.lt_of_lt_of_le hP.insL hch.size, ?_, ?_, ⟨zeros 8, zeros_size 8, ?_⟩, hP.eof.chg hch hsB, hP.txt.chg hch hsB, ?_, Nat.le_trans hP.low hch.size⟩
    · rw [← hw1]; exact (((((hP.prog.set 2 _).set 3 _).alloc _).alloc _).alloc _)
    · intro k op x hk
      have hb := hch.block E.gI hP.insL (Ne.symm hE.GI)
      rw [cell_of hb, cell_of hb]
      exact hP.ins k op x hk
    · rw [hC, ← hw1]; exact (blk_new' (by simp) _ _).alloc _
    · rw [hU, ← hw1]; exact blk_new' (by simp) _ _
    · intro g hg
      have h := hP.row g hg
      have h2 := (hP.notes.own.lt _ hg).2
      exact ⟨h.1, h.2.1, h.2.2.1, by omega, by omega, h.2.2.2⟩
  have hh : HeadOk E (st0 rest left) 0 0 (0 + 1) := ⟨⟨by omega, .inl rfl⟩, by omega, by omega, by show (0 : Int) + (left : Int) ≤ 1000000; omega, by omega, by show (0 : Int) + 1 + (left : Int) ≤ 9990; omega, by show 0 + 3 * left ≤ 100000; omega, by show (0 : Int) ≤ 0; omega, by show (0 : Int) + (left : Int) ≤ 100000; omega⟩
  have hce := hcall 0 0 (-1) false (st0 rest left) s' w1 v 0 0 0 hcx hh rfl rfl hs' hg
  unfold CallsEval at hce
  rw [hC, hU, ← hw1] at hce
  have hX1 : blk w1 w.heap.size #[.nilIface] 82 := by rw [← hw1]; exact ((blk_new' (by simp) _ _).alloc _).alloc _
  have hXS : ¬ E.S v w.heap.size := by
    intro e
    have a1 := hP.notes.blk.lt
    have a2 := hP.rd.blk.lt
    have a3 := hP.prog.lt
    rcases e with e | e | e | e | e | e
    all_goals first | omega | (have := (hP.notes.own.lt _ e).2; omega)
  have hvX : v.ownBlock ≠ some w.heap.size := fun e => hXS (.inr (.inr (.inr (.inr (.inr e)))))
  have HvX := hid hvX
  have HXS := hid hXS
  have HX := hid (And.intro hX1 hXS)
  have HXl := hid (show w.heap.size < w1.heap.size by rw [← hw1]; simp <;> omega)
  rw [← hw1] at HXl
  have Hce := hid hce
  have Hch := hid hch
  have HE := hid hE
  have HBX := hid (show E.B ≤ w.heap.size from hP.low)
  rw [← hw1] at HX Hch
  clear hP hE hcall hs' hg hC hU hcx hh hce hX1 hXS hvX hsB hch hw1 w1
  go_enter_defers Tryd.func26, Tryd.ntmps26
  go_wp2_with (go_at_call 44; refine Calls.mono (Hce.out) ?_; rintro e w2 ⟨nul, err, v2, l2, rest2, pc2, steps2, rfl, hnt, hnk, hch2, hfr, herr, hcx2, hgood⟩; have hX2 := HX.out.1.chg hch2 HX.out.2; have cX : w2.cell? ⟨w.heap.size, 0, none⟩ = some .nilIface := hX2.cell 0 rfl; have fX : w2.frozen? ⟨w.heap.size, 0, none⟩ = false := hX2.free 0; (have hnul : nul = false := (by cases nul; rfl; exact absurd (hnk rfl).1 (by decide))); subst hnul; have Hfin := hid (And.intro (hnt.trans (List.append_nil _)) (And.intro hch2 (And.intro hfr (And.intro herr (And.intro hcx2 hgood))))); have hform := herr.form; clear hnt hch2 hfr herr hcx2 hgood hnk; rcases hform with rfl | ⟨et, eu, rfl⟩)
  all_goals
    refine leaves_cons (f := 42) (args := #[.pointer (some ⟨w.heap.size, 0, none⟩)]) (by simp) (by simp [go_sem]) ?_
    refine (idle42 ⟨w.heap.size, 0, none⟩ _).mono ?_
    rintro e u' w'' ⟨rfl, rfl, rfl⟩
    have hC3 : ∀ x, Chg (fun k => k = w.heap.size) w2 ((w2.setCell ⟨w.heap.size, 0, none⟩ x).setCell ⟨w.heap.size, 0, none⟩ x) := fun x => ((Chg.refl (fun k => k = w.heap.size) w2).setCell (fun _ => rfl) x).setCell (fun _ => rfl) x
    have c3 : ∀ x, ((w2.setCell ⟨w.heap.size, 0, none⟩ x).setCell ⟨w.heap.size, 0, none⟩ x).cell? ⟨w.heap.size, 0, none⟩ = some x := fun x => ((hX2.set 0 x).set 0 x).cell 0 rfl
    obtain ⟨g1, g2, g3, g4, g5, g6⟩ := (show Hid _ from by assumption : Hid (s'.notes = l2 ∧ _ ∧ _ ∧ _ ∧ _ ∧ _)).out
    refine ⟨_, by simp [results, Tryd.results26, go_sem, c3], _, v2, rest2, rfl, g4.chgX hX2 (hC3 _), ?_, ?_, fun h0 => (g6 h0).1, ?_, ?_⟩
    · rw [g1]
      exact g5.notes.chg (hC3 _) (fun e => HXS.out (e ▸ .inl rfl)) (fun g hg e => g3.ne HXl.out HvX.out (e ▸ hg))
    · exact g5.rd.chg (hC3 _) (fun e => HXS.out (e ▸ .inr (.inl rfl))) (fun k e => e ▸ HBX.out)
    · exact ((Hch.out.mono (S' := E.S v) (fun k _ e => e ▸ SG E v)).trans g2 (fun _ _ e => e)).trans (hC3 _) (fun k hk e => absurd hk (by rw [e]; exact Nat.lt_irrefl _))
    · exact g5.eof.chg (hC3 _) (fun k e => e ▸ HBX.out)
end Go.Proofs.YtkhicabfmkldpaaDoor
