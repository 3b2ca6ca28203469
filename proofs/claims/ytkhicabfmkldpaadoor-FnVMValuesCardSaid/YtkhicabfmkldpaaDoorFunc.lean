/-
  The call of evalInner, over its loop.
-/
import Derived.Test.YtkhicabfmkldpaaDoorLoop0
import Derived.Defers
set_option linter.unusedSimpArgs false
set_option linter.unusedVariables false
namespace Go.Proofs.YtkhicabfmkldpaaDoor
open Go Go.RowKit

theorem dec_deferred (G A : Nat) (depth : Int) (w : World) (cA : w.cell? ⟨A, 0, none⟩ = some (.pointer (some ⟨G, 0, none⟩))) (cG : w.cell? ⟨G, 3, none⟩ = some (.int .i64 depth)) (fG : w.frozen? ⟨G, 3, none⟩ = false) (h0 : 0 ≤ depth) (h1 : depth ≤ 1000000) :
    CallsD Tryd.prog 56 #[.pointer (some ⟨A, 0, none⟩)] .returning w fun e u' w' => u' = .returning ∧ (e = .returned (.tuple #[]) ∧ w' = w.setCell ⟨G, 3, none⟩ (.int .i64 (depth - 1))) := by
  go_enter_d Tryd.func56, Tryd.ntmps56
  go_wp2
  go_end0
  exact ⟨rfl, rfl⟩

theorem rounds_isFr {E : Env} {A F n : Nat} {tg : Int} {null : Bool} {a : Act} {w : World} {Q : Exit → Act → World → Prop} (h : IsFr E A F tg null a) (k : Code.rounds Tryd.prog body44 Q n (fr a.tmps E.sl0 E.R E.G E.N E.C E.U A F tg null) w) : Code.rounds Tryd.prog body44 Q n a w := by
  rw [h]; exact k

/-- The same, but for panics. -/
def noPanic (Q : Exit → Act → World → Prop) : Exit → Act → World → Prop
  | .panic _, _, _ => False
  | e, a, w => Q e a w

theorem noPanic_le {Q : Exit → Act → World → Prop} : ∀ e a w, noPanic Q e a w → Q e a w := by
  intro e a w h
  cases e <;> first | exact h | exact h.elim

set_option maxHeartbeats 4000000 in
set_option maxRecDepth 1000000 in
theorem call_of_loop (E : Env) (hE : E.ok) (mx f : Nat) (hL : LoopOk E mx f) : CallOk E mx f := by
  intro tg outer field kind s s' w v pc steps depth hc hh hb ho hs' hg
  unfold CallsEval
  have hsf : ∀ (w : World) (a : Addr) (k : FloatKind) (x : Nat), (store a (.float k x)).run Tryd.prog w = stored Tryd.prog w a (.float k x) .plain := fun w a k x => run_store Tryd.prog w a _ .plain rfl
  have cG3 : w.cell? ⟨E.G, 3, none⟩ = some (.int .i64 depth) := hc.prog.cell 3 rfl
  have fG3 : w.frozen? ⟨E.G, 3, none⟩ = false := hc.prog.free 3
  have lG := hc.prog.lt
  have hd1 : depth + 1 ≤ 9990 := by have := hh.d1; omega
  have hd0 : -1 ≤ depth := by have := hh.d0; omega
  have HC := hid hc
  have HH := hid hh
  have HS := hid hs'
  have HG := hid hg
  have HE := hid hE
  have HL := hid hL
  have Hb := hid hb
  have Ho := hid ho
  clear hc hh hs' hg hE hL hb ho
  go_enter_defers Tryd.func44, Tryd.ntmps44
  go_wp2
  refine Code.wp_mono noPanic_le ?_
  refine wp_loop_rounds (f + 1) ?_
  refine rounds_isFr (E := E) (A := w.heap.size) (F := w.heap.size + 1) (tg := tg) (null := false) ?_ ?_
  · unfold IsFr; kernel_rfl
  obtain ⟨w1, hw1⟩ : ∃ w1, ((w.setCell ⟨E.G, 3, none⟩ (.int .i64 (depth + 1))).alloc (.cells #[.pointer (some ⟨E.G, 0, none⟩)] 84)).alloc (.cells (regCells regs0 (.slice none 0 0)) 135) = w1 := ⟨_, rfl⟩
  have hC1 : Chg (E.S v) w w1 := by
    rw [← hw1]
    exact (((Chg.refl (E.S v) w).setCell (fun _ => SG E v) _).alloc _).alloc _
  have hc1 : Cx E w1 v s.notes s.tg s.rest pc steps (depth + 1) := by
    rw [← hw1]
    exact ((HC.out.setDepth HE.out _).alloc HE.out _).alloc HE.out _
  have hap : ∀ k, w.heap.size ≤ k → Apart E v k := fun k hk => HC.out.apart hk
  have hf1 : Fx E w1 v w.heap.size (w.heap.size + 1) regs0 (.slice none 0 0) := by
    rw [← hw1]
    refine ⟨(blk_new' (by simp) _ _).alloc _, blk_new' (by simp) _ _, .inl ⟨rfl, rfl⟩, fun g hg => by simp [Value.ownBlock] at hg, hap _ (Nat.le_refl _), hap _ (by omega), by omega, by decide, by decide⟩
  subst hw1
  refine HL.out regs0 tg outer field false kind s s' _ _ _ v pc steps (depth + 1) _ _ w v _ ?_ hc1 hf1 HH.out Hb.out Ho.out (hC1.mono (fun _ _ e => .inl e)) (Fresh.refl _ _) HS.out HG.out ?_ ?_
  · intro c a w h; exact h
  · rintro a w' ⟨v', l', rest', pc', steps', nul, err, hL, hn, hk, he, hgood⟩
    show Leaves Tryd.prog Tryd.f44 a.tmps _ a.defers .returning w'
    rw [hL.defers]
    refine leaves_cons (f := 56) (args := #[.pointer (some ⟨w.heap.size, 0, none⟩)]) (by simp) (by simp [go_sem]) ?_
    refine (dec_deferred E.G _ (depth + 1) w' (hL.a.cell 0 rfl) (hL.cx.prog.cell 3 rfl) (hL.cx.prog.free 3) (by omega) (by omega)).mono ?_
    rintro e u' w'' ⟨rfl, rfl, rfl⟩
    refine ⟨_, results_tmp2 (fn := Tryd.f44) (t := 10) (u := 11) (by kernel_rfl) a.tmps _ _, nul, err, v', l', rest', pc', steps', ?_, hn, hk, ?_, hL.new, ?_, ?_, ?_⟩
    · show Ending.returned (.tuple #[a.tmps.getD 10 undef, a.tmps.getD 11 undef]) = _
      rw [hL.r10, hL.r11]
    · exact (hL.chg.mono (fun k hk e => e.elim id (fun e => by omega))).setCell (fun _ => SG E v) _
    · exact he.chg (S := fun k => k = E.G) ((Chg.refl (fun k => k = E.G) w').setCell (fun _ => rfl) _) (fun k e _ => .inl (e ▸ SG E v')) (Fresh.refl _ _)
    · have h := hL.cx.setDepth HE.out (depth + 1 - 1)
      rw [show depth + 1 - 1 = depth by omega] at h ⊢
      exact h
    · intro h0
      obtain ⟨g1, g2, g3, g4, g5, g6⟩ := hgood h0
      exact ⟨g1, g2, g3, by omega, g5, g6⟩
  · rintro a w' ⟨null', v', pc', steps', hfr, hch, hnew, hcx, hA, hb0, hpr, hp0, hp1, hst0, hst1⟩
    have cA : w'.cell? ⟨w.heap.size, 0, none⟩ = some (.pointer (some ⟨E.G, 0, none⟩)) := hA.cell 0 rfl
    obtain ⟨t, ht⟩ : ∃ t, a = fr t E.sl0 E.R E.G E.N E.C E.U w.heap.size (w.heap.size + 1) tg null' := ⟨_, hfr⟩
    subst ht
    simp only [noPanic, Exit.inBlock, if_true, Exit.then]
    unfold fr
    have Hfin := hid (And.intro hch (And.intro hnew (And.intro hcx (And.intro hA (And.intro hpr (And.intro hp0 (And.intro hp1 (And.intro hst0 hst1))))))))
    have cG3' : w'.cell? ⟨E.G, 3, none⟩ = some (.int .i64 (depth + 1)) := hcx.prog.cell 3 rfl
    have fG3' : w'.frozen? ⟨E.G, 3, none⟩ = false := hcx.prog.free 3
    clear hC1 hc1 hf1 hap hfr hch hnew hcx hA hpr hp0 hp1 hst0 hst1
    go_step
    go_wp2
    refine leaves_cons (f := 56) (args := #[.pointer (some ⟨w.heap.size, 0, none⟩)]) (by simp) (by simp [go_sem]) ?_
    refine (dec_deferred E.G _ (depth + 1) w' cA cG3' fG3' (by omega) (by omega)).mono ?_
    rintro e u' w'' ⟨rfl, rfl, rfl⟩
    obtain ⟨hch, hnew, hcx, hA, hpr, hp0, hp1, hst0, hst1⟩ := Hfin.out
    refine ⟨_, results_tmp2 (fn := Tryd.f44) (t := 10) (u := 11) (by kernel_rfl) _ _ _, false, .nilIface, v', s'.notes, s'.rest, pc', steps', rfl, (List.append_nil _).symm, fun e => absurd e (by decide), ?_, hnew, by rw [hb0]; rfl, ?_, ?_⟩
    · exact (hch.mono (fun k hk e => e.elim id (fun e => by omega))).setCell (fun _ => SG E v) _
    · have h := hcx.setDepth HE.out (depth + 1 - 1)
      rw [show depth + 1 - 1 = depth by omega] at h ⊢
      exact h
    · intro _
      exact ⟨rfl, hpr, hp0, by omega, hst0, hst1⟩
end Go.Proofs.YtkhicabfmkldpaaDoor
